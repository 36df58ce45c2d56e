/- uvarint.AppendPrefixed, encodeSession, encodeLockOf. -/
import Derived.Test.Qxb6614035aUv
import Derived.Deep.RegionWith
import Derived.Deep.DrawnRows
import Derived.Lib.ConvBytes
namespace Go.Proofs.Qxb6614035a
open Go.RowKit

/-- The field's bytes, apart from the row that is appended to. -/
def Fld (w : World) (v : Value) (a : Option Addr) (c : Nat) (L : List Int) : Prop :=
  (a = none ∧ L = [] ∧ c = 0) ∨ ∃ g off, a = some ⟨g, off, none⟩ ∧ g < w.heap.size ∧ some g ≠ v.ownBlock ∧ ∀ i x, L[i]? = some x → w.cell? ⟨g, off + i, none⟩ = some (.int .u8 x)

theorem Fld.later {w w' : World} {v v' : Value} {a : Option Addr} {c : Nat} {L : List Int} (h : Fld w v a c L) (hA : App w w' v v') : Fld w' v' a c L := by
  rcases h with h | ⟨g, off, e, hg, hne, hc⟩
  · exact .inl h
  · refine .inr ⟨g, off, e, Nat.lt_of_lt_of_le hg hA.1.size, ?_, fun i x hx => (hA.cell (p := ⟨g, off + i, none⟩) hg hne).trans (hc i x hx)⟩
    rcases hA.2 with e' | ⟨k, e', hk⟩
    · rw [e']; exact hne
    · rw [e']; intro h; cases h; omega

theorem wpList_append_none {P : Program} (w : World) {ops : Array Oper} {rest : List Oper} {o : Oper} {a : Act} {Q : Exit → Act → World → Prop}
    (hg : o.guard = none) (s x : Operand) (t : TypeId) (hop : o.op = Op.call { callee := Callee.builtin Builtin.append, args := #[s, x], argTypes := #[t, t] })
    (base : Nat) (e : TypeId) (i : TypeInfo) (size : Nat) (h1 : P.underlying t = some (.slice e)) (h2 : P.info? e = some i)
    (v : Value) (k : Nat) (xs : List Value) (hs : a.eval s = v) (hown : w.ownsRow base e size v k xs) (hx : a.eval x = .slice none 0 0)
    (hK : wpList P ops Q rest (a.put o.dst v) w) :
    wpList P ops Q (o :: rest) a w := by
  refine wpList_plain hg fun K hK' => ?_
  have hrun := run_append_owned_none (P := P) w base t o.type e i size h1 h2 _ k xs hown
  unfold Oper.wp
  simp [execOp, hop, resolve, invoke, builtin, hs, hx, hrun, Result.andThen]
  exact hK' _ _ hK

/-- A field behind its length. -/
def pre (L : List Int) : List Int := uv L.length ++ L
theorem own_app {w : World} {B n : Nat} {v : Value} {xs : List Value} {L1 L2 : List Int} {m : Nat} (h : w.ownsRow B 5 1 v (n + L1.length + m) (xs ++ bs L1 ++ bs L2)) (hm : L2.length = m) : w.ownsRow B 5 1 v (n + (L1 ++ L2).length) (xs ++ bs (L1 ++ L2)) := by
  have e : bs (L1 ++ L2) = bs L1 ++ bs L2 := List.map_append
  rw [List.length_append, hm, ← Nat.add_assoc, e, ← List.append_assoc]
  exact h

set_option maxRecDepth 1000000 in
set_option maxHeartbeats 2000000 in
theorem pref_any (B n : Nat) (v : Value) (xs : List Value) (a : Option Addr) (c : Nat) (L : List Int) (m : Nat) (hm : L.length = m) (hl : m ≤ 1048576) (w : World) (hown : w.ownsRow B 5 1 v n xs) (hB : B ≤ w.heap.size) (hn : n ≤ 100000000) (hf : Fld w v a c L) :
    Calls Try.prog 27 #[v, .slice a m c] w fun e w' => ∃ v', e = .returned v' ∧ w'.ownsRow B 5 1 v' (n + (pre L).length) (xs ++ bs (pre L)) ∧ App w w' v v' := by
  subst hm
  obtain ⟨i0, hi, hz0, hz1, hz2⟩ := info_parts info5
  have hul : (uv L.length).length ≤ 11 := (uvb_len 10 L.length).2
  go_enter Try.func27, Try.ntmps27
  go_wp2_with fail
  refine (uvarint_any B n v xs L.length (by omega) _ hown hB (by omega)).mono ?_
  rintro e w1 ⟨v1, rfl, hown1, hA1⟩
  have hf1 := hf.later hA1
  have hB1 : B ≤ w1.heap.size := Nat.le_trans hB hA1.1.size
  rcases hf1 with ⟨rfl, hL0, rfl⟩ | ⟨g, off, rfl, hg, hne, hc⟩
  · subst hL0
    go_wp2_with (at_builtin; refine wpList_append_none _ rfl _ _ 22 rfl B 5 i0 1 Try.underlying22 hi v1 _ _ rfl hown1 rfl ?_)
    go_ret
    exact ⟨v1, rfl, by simpa [pre] using hown1, hA1⟩
  · have hnews : ∀ j u, (bs L)[j]? = some u → w1.cell? ((⟨g, off, none⟩ : Addr).add j) = some u := fun j u hu => by
      rw [List.getElem?_map, Option.map_eq_some_iff] at hu
      obtain ⟨y, hy, rfl⟩ := hu
      rw [Go.WideShapes.add_plain]
      exact hc j y hy
    have HN : Hid _ := hnews
    have hbl : (bs L).length = L.length := List.length_map _
    clear hnews hc
    go_wp2_with (at_builtin; refine wpList_append_own_at _ rfl _ _ 22 rfl B 5 i0 _ 1 1 Try.underlying22 hi hz0 hz1 hz2 rfl (by decide) v1 _ _ rfl hown1 ⟨g, off, none⟩ L.length c (bs L) rfl (by rw [hbl, Nat.mul_one]) HN.out (bs_one L) ?c3 ?c4 hB1 ?_)
    case c3 => unfold maxLen; omega
    case c4 => omega
    intro v' w2 hown2 hgrow2 _ hat2
    have hA2 : App w1 w2 v1 v' := ⟨hgrow2, hat2.imp id (fun e => ⟨_, e, Nat.le_refl _⟩)⟩
    go_wp2
    go_ret
    exact ⟨v', rfl, own_app (by rw [List.append_assoc]; exact hown2) rfl, hA1.trans hA2⟩

/-- A string's bytes. -/
def strL (s : ByteArray) : List Int := s.data.toList.map fun b => (b.toNat : Int)
theorem strL_len (s : ByteArray) : (strL s).length = s.size := by simp [strL]

theorem conv_run (w : World) (s : ByteArray) : ∃ c w1, (convert 9 22 (.string s)).run Try.prog w = .ok (.slice (some ⟨w.heap.size, 0, none⟩) s.size c) w1 ∧ (∀ r, w.grownBy w1 r) ∧ w1.heap.size = w.heap.size + 1 ∧
    ∀ i x, (strL s)[i]? = some x → w1.cell? ⟨w.heap.size, 0 + i, none⟩ = some (.int .u8 x) := by
  refine ⟨_, _, Lib.run_convert_string_bytes w 9 22 5 s Try.underlying9 Try.underlying22 Try.underlying5, fun r => ⟨rfl, rfl, rfl, ?_, fun k hk _ => Lib.bytesWorld_at_old w 5 s k hk⟩, Lib.bytesWorld_size w 5 s, fun i x hx => ?_⟩
  · rw [Lib.bytesWorld_size]; omega
  · have hi : i < s.size := by rw [← strL_len]; exact (List.getElem?_eq_some_iff.1 hx).1
    rw [Nat.zero_add, Lib.bytesWorld_cell w 5 s i hi]
    unfold strL at hx
    rw [List.getElem?_map, Option.map_eq_some_iff] at hx
    obtain ⟨b, hb, rfl⟩ := hx
    rw [List.getD_eq_getElem?_getD, hb]
    rfl

set_option maxRecDepth 1000000 in
set_option maxHeartbeats 2000000 in
theorem session_any (B n : Nat) (v : Value) (xs : List Value) (s : ByteArray) (cs : Array Value) (hcs : cs[10]? = some (.string s)) (hl : s.size ≤ 131072) (w : World) (hown : w.ownsRow B 5 1 v n xs) (hB : B ≤ w.heap.size) (hn : n ≤ 10000000) :
    Calls Try.prog 24 #[.agg cs, v] w fun e w' => ∃ v', e = .returned v' ∧ w'.ownsRow B 5 1 v' (n + (pre (strL s)).length) (xs ++ bs (pre (strL s))) ∧ App w w' v v' := by
  obtain ⟨c, w1, hconv, hgr, hsz, hcell⟩ := conv_run (w.alloc (.cells cs 58)) s
  have hown1 := (hown.alloc (.cells cs 58)).kept (hgr none) (by cases hv : v.ownBlock <;> simp)
  have hA1 : App w w1 v v := ⟨grown_trans (World.grownBy_alloc w (.cells cs 58) v.ownBlock) (hgr _) (.inl rfl), .inl rfl⟩
  have hs : (w.alloc (.cells cs 58)).heap.size = w.heap.size + 1 := by simp
  rw [hs] at hconv hsz hcell
  have hf : Fld w1 v (some ⟨w.heap.size + 1, 0, none⟩) c (strL s) := .inr ⟨_, _, rfl, by omega, fun e => by have := (hown.lt _ e.symm).2; omega, hcell⟩
  have HF : Hid _ := hf
  have HO : Hid _ := hown1
  clear hf hown1 hgr hcell hs
  go_enter Try.func24, Try.ntmps24
  go_wp2_with fail
  refine (pref_any B n v xs _ c (strL s) s.size (strL_len s) (by omega) _ HO.out (by omega) (by omega) HF.out).mono ?_
  rintro e w2 ⟨v2, rfl, hown2, hA2⟩
  go_wp2
  go_ret
  exact ⟨v2, rfl, hown2, hA1.trans hA2⟩

end Go.Proofs.Qxb6614035a

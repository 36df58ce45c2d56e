/- FnAcquireReadsBackItsCommand: what the walk needs. -/
import Derived.Test.Qxb6614035aZz
import Derived.Test.Qxb6614035aUr
import Derived.Test.Qxb6614035aCopy
namespace Go.Proofs.Qxb6614035a
open Go.RowKit

theorem Fld.src {w : World} {v : Value} {a : Option Addr} {c : Nat} {L : List Int} (h : Fld w v a c L) : Src w a L := by
  rcases h with h | ⟨g, off, e, hg, -, hc⟩
  · exact .inl h.2.1
  · exact .inr ⟨g, off, e, hg, hc⟩
theorem Fld.below {w w' : World} {v : Value} {a : Option Addr} {c : Nat} {L : List Int} (h : Fld w (.slice none 0 0) a c L) (hb : Below w.heap.size w w') (hv : ∀ k, v.ownBlock = some k → w.heap.size ≤ k) : Fld w' v a c L := by
  rcases h with h | ⟨g, off, e, hg, -, hc⟩
  · exact .inl h
  · refine .inr ⟨g, off, e, Nat.lt_of_lt_of_le hg hb.size, fun h => ?_, fun i x hx => (hb.cell (p := ⟨g, off + i, none⟩) hg).trans (hc i x hx)⟩
    have := hv g h.symm; omega
theorem bt {w w1 w2 : World} (h : Below w.heap.size w w1) (h' : Below w1.heap.size w1 w2) : Below w.heap.size w w2 := h.trans (h'.mono h.size)
theorem own_src {w : World} {B n : Nat} {v : Value} {L : List Int} (h : w.ownsRow B 5 1 v n (bs L)) : ∃ a c, v = .slice a n c ∧ L.length = n ∧ Src w a L := by
  have hl : L.length = n := by have := h.1; simpa using this
  rcases h.2 with ⟨h1, h2⟩ | ⟨g, cap, cur, hv, hB, hg, -⟩
  · refine ⟨none, 0, by rw [h1, h2], hl, .inl ?_⟩
    exact List.eq_nil_of_length_eq_zero (by omega)
  · refine ⟨_, _, hv, hl, .inr ⟨g, 0, rfl, (Array.getElem?_eq_some_iff.1 hg).1, fun i x hx => ?_⟩⟩
    have := h.cells (g := g) (by rw [hv]; rfl) i (.int .u8 x) (by rw [List.getElem?_map, hx]; rfl)
    rw [Go.WideShapes.add_plain] at this
    exact this

/-- What stands once the three callees have run. -/
theorem stage {w wx w2 w3 w4 : World} {v2 v3 v4 : Value} {n' : Nat} {T L : List Int} {a1 a' : Option Addr} {c1 : Nat} {X Y : List Int} (hbx : Below w.heap.size w wx) (hF : Fld wx (.slice none 0 0) a1 c1 L) (hT : Src w a' T)
    (ho2 : w2.ownsRow wx.heap.size 5 1 v2 n' (bs T)) (hb2 : Below wx.heap.size wx w2)
    (ho3 : w3.ownsRow wx.heap.size 5 1 v3 (n' + X.length) (bs T ++ bs X)) (hA3 : App w2 w3 v2 v3)
    (ho4 : w4.ownsRow w3.heap.size 5 1 v4 (0 + Y.length) ([] ++ bs Y)) (hA4 : App w3 w4 (.slice none 0 0) v4) {N3 N4 : Nat} (hN3 : n' + X.length = N3) (hN4 : Y.length = N4) :
    ∃ a3 c3 a4 c4, v3 = .slice a3 N3 c3 ∧ v4 = .slice a4 N4 c4 ∧ Src w4 a3 (T ++ X) ∧ Src w4 a4 Y ∧ Src w4 a' T ∧ Src w4 a1 L ∧ Below w.heap.size w w4 := by
  subst hN3 hN4
  have b23 : Below wx.heap.size w2 w3 := hA3.below hb2.size (fun k hk => (ho2.lt k hk).1)
  have b34 : Below w3.heap.size w3 w4 := hA4.below (Nat.le_refl _) (fun k hk => by cases hk)
  have bx3 := hb2.trans b23
  have bx4 : Below wx.heap.size wx w4 := bx3.trans (b34.mono bx3.size)
  have ho3' : w4.ownsRow wx.heap.size 5 1 v3 (n' + X.length) (bs (T ++ X)) := by
    have e : bs (T ++ X) = bs T ++ bs X := List.map_append
    rw [e]
    refine ho3.kept hA4.1 ?_
    cases hv : v3.ownBlock <;> simp [Value.ownBlock]
  have ho4' : w4.ownsRow w3.heap.size 5 1 v4 Y.length (bs Y) := by simpa using ho4
  obtain ⟨a3, c3, e3, -, s3⟩ := own_src ho3'
  obtain ⟨a4, c4, e4, -, s4⟩ := own_src ho4'
  exact ⟨a3, c3, a4, c4, e3, e4, s3, s4, hT.below (bt hbx bx4), (hF.src).below bx4, bt hbx bx4⟩

/-- What the law's readers answer, in every later world. -/
structure Rds (w4 : World) (a1 a3 a4 a' : Option Addr) (c1 c3 c4 c' n n' N3 N4 u p v J : Nat) (s : ByteArray) (f wait : Int) (req : Nat) : Prop where
  has1 : ∀ wk, Below w4.heap.size w4 wk → Calls Try.prog 10 #[.slice a3 N3 c3, .int .i64 0, .slice a' n' c'] wk fun e w' => e = .returned (.bool true) ∧ Below w4.heap.size w4 w'
  has2 : ∀ wk, Below w4.heap.size w4 wk → Calls Try.prog 10 #[.slice a3 N3 c3, .int .i64 n', .slice a4 N4 c4] wk fun e w' => e = .returned (.bool true) ∧ Below w4.heap.size w4 w'
  fld1 : ∀ wk, Below w4.heap.size w4 wk → Calls Try.prog 11 #[.slice a4 N4 c4, .int .i64 0] wk fun e w' => e = .returned (.tuple #[.int .i64 u, .int .i64 p, .bool true]) ∧ Below w4.heap.size w4 w'
  eq1 : ∀ wk, Below w4.heap.size w4 wk → Calls Try.prog 12 #[.slice a4 N4 c4, .int .i64 u, .int .i64 p, .string s] wk fun e w' => e = .returned (.bool true) ∧ Below w4.heap.size w4 w'
  fld2 : ∀ wk, Below w4.heap.size w4 wk → Calls Try.prog 11 #[.slice a4 N4 c4, .int .i64 p] wk fun e w' => e = .returned (.tuple #[.int .i64 v, .int .i64 N4, .bool true]) ∧ Below w4.heap.size w4 w'
  eq2 : ∀ wk, Below w4.heap.size w4 wk → Calls Try.prog 19 #[.slice a4 N4 c4, .int .i64 v, .int .i64 N4, .slice a1 n c1] wk fun e w' => e = .returned (.bool true) ∧ Below w4.heap.size w4 w'
  flag : ∃ g off, a3 = some ⟨g, off, none⟩ ∧ ∀ wk, Below w4.heap.size w4 wk → wk.cell? ⟨g, off + (n' + N4), none⟩ = some (.int .u8 f)
  uvr : req ≠ 0 → ∀ wk, Below w4.heap.size w4 wk → Calls Try.prog 20 #[.slice a3 N3 c3, .int .i64 ((n' : Int) + N4 + 1)] wk fun e w' => e = .returned (.tuple #[.int .u64 req, .int .i64 J, .bool true]) ∧ Below w4.heap.size w4 w'
  uvw : 0 < wait → ∀ wk, Below w4.heap.size w4 wk → Calls Try.prog 20 #[.slice a3 N3 c3, .int .i64 J] wk fun e w' => e = .returned (.tuple #[.int .u64 wait, .int .i64 N3, .bool true]) ∧ Below w4.heap.size w4 w'
  numJ : req = 0 → J = n' + N4 + 1
  numW : wait ≤ 0 → J = N3
  num3 : n' + N4 + 1 ≤ N3
  num3' : N3 ≤ 1000000
  num4 : N4 ≤ 262200

theorem tl_len (wait : Int) (req : Nat) : (tl wait req).length ≤ 22 := by
  have h1 := (uvb_len 10 req).2
  have h2 := (uvb_len 10 wait.toNat).2
  unfold tl
  rw [List.length_append]
  have a1 : (if req = 0 then [] else uv req).length ≤ 11 := by split <;> simp [uv] <;> omega
  have a2 : (if 0 < wait then uv wait.toNat else []).length ≤ 11 := by split <;> simp [uv] <;> omega
  omega

theorem rds {w4 : World} {a1 a3 a4 a' : Option Addr} {s : ByteArray} {L T : List Int} {mode wait : Int} {req : Nat} (c1 c3 c4 c' : Nat) {n n' N3 N4 : Nat}
    (s3 : Src w4 a3 (T ++ enc s L mode wait req)) (s4 : Src w4 a4 (lck s L)) (sT : Src w4 a' T) (sL : Src w4 a1 L) (hN3 : n' + (enc s L mode wait req).length = N3) (hN4 : (lck s L).length = N4)
    (hm : L.length = n) (hm' : T.length = n') (hs : s.size ≤ 131072) (hn : n ≤ 131072) (hn' : n' ≤ 131072) (hw2 : wait < 9223372036854775808) (hr : req < 18446744073709551616) :
    ∃ u p v J, Rds w4 a1 a3 a4 a' c1 c3 c4 c' n n' N3 N4 u p v J s (fl mode wait req) wait req := by
  have hlck := lck_len s L hs (by omega)
  have htl := tl_len wait req
  have he : (enc s L mode wait req).length = N4 + 1 + (tl wait req).length := by
    unfold enc; rw [List.length_append, List.length_cons, hN4]; omega
  have hE3 : (T ++ enc s L mode wait req).length = N3 := by rw [List.length_append, hm', hN3]
  have A1 : At (T ++ enc s L mode wait req) 0 T := (At.self _).left
  have A2 : At (T ++ enc s L mode wait req) n' (enc s L mode wait req) := by
    have := (At.self (T ++ enc s L mode wait req)).right
    rw [hm', Nat.zero_add] at this; exact this
  have A3 : At (T ++ enc s L mode wait req) n' (lck s L) := A2.left
  have A4 : At (T ++ enc s L mode wait req) (n' + N4) ([fl mode wait req] ++ tl wait req) := by
    have := A2.right
    rw [hN4] at this; exact this
  have A5 : At (T ++ enc s L mode wait req) (n' + N4 + 1) (tl wait req) := A4.right
  have B1 : At (lck s L) 0 (pre (strL s)) := (At.self _).left
  have B2 : At (lck s L) (pre (strL s)).length (pre L) := by
    have := (At.self (lck s L)).right
    rw [Nat.zero_add] at this; exact this
  have hN4' : N4 = (pre (strL s)).length + (pre L).length := by rw [← hN4]; unfold lck; rw [List.length_append]
  have hp1 : (pre (strL s)).length = (uv (strL s).length).length + s.size := by unfold pre; rw [List.length_append, strL_len]
  have hp2 : (pre L).length = (uv L.length).length + n := by unfold pre; rw [List.length_append, hm]
  have B3 : At (lck s L) (uv (strL s).length).length (strL s) := by
    have := B1.right
    rw [Nat.zero_add] at this; exact this
  have B4 : At (lck s L) ((pre (strL s)).length + (uv L.length).length) L := B2.right
  refine ⟨(uv (strL s).length).length, (pre (strL s)).length, (pre (strL s)).length + (uv L.length).length, n' + N4 + 1 + (if req = 0 then [] else uv req).length, ?_, ?_, ?_, ?_, ?_, ?_, ?_, ?_, ?_, ?_, ?_, ?_, ?_, ?_⟩
  · intro wk hb
    exact (hasAt a3 a' _ T N3 n' c3 c' 0 wk hE3 hm' (s3.below hb) (sT.below hb) A1 (by omega) (by omega)).mono fun e w' h => ⟨h.1, bt hb h.2⟩
  · intro wk hb
    exact (hasAt a3 a4 _ _ N3 N4 c3 c4 n' wk hE3 hN4 (s3.below hb) (s4.below hb) A3 (by omega) (by omega)).mono fun e w' h => ⟨h.1, bt hb h.2⟩
  · intro wk hb
    refine (rdField a4 _ (strL s) N4 c4 0 wk hN4 (s4.below hb) B1 (by rw [strL_len]; exact hs) (by omega) (by omega)).mono fun e w' h => ⟨?_, bt hb h.2⟩
    rw [h.1, Nat.zero_add, Nat.zero_add]
  · intro wk hb
    exact (eqStr a4 _ s N4 c4 _ _ wk hN4 (s4.below hb) B3 (by omega) (by omega) hp1).mono fun e w' h => ⟨h.1, bt hb h.2⟩
  · intro wk hb
    refine (rdField a4 _ L N4 c4 _ wk hN4 (s4.below hb) B2 (by omega) (by omega) (by omega)).mono fun e w' h => ⟨?_, bt hb h.2⟩
    rw [h.1, ← hN4']
  · intro wk hb
    exact (eqBytes a4 a1 _ L N4 n c4 c1 _ _ wk hN4 hm (s4.below hb) (sL.below hb) B4 (by omega) (by omega) (by omega)).mono fun e w' h => ⟨h.1, bt hb h.2⟩
  · have hx := A4 0 (fl mode wait req) rfl
    rw [Nat.add_zero] at hx
    rcases s3 with h | ⟨g, off, e, hg, hc⟩
    · rw [h] at hx; cases hx
    · exact ⟨g, off, e, fun wk hb => (hb.cell (p := ⟨g, off + (n' + N4), none⟩) hg).trans (hc _ _ hx)⟩
  · intro hq wk hb
    have A6 : At (T ++ enc s L mode wait req) (n' + N4 + 1) (uv req) := by
      have := A5
      unfold tl at this
      rw [if_neg hq] at this
      exact this.left
    rw [if_neg hq]
    exact (rdUv a3 _ N3 c3 (n' + N4 + 1) req wk hE3 (s3.below hb) A6 hr (by omega)).mono fun e w' h => ⟨h.1, bt hb h.2⟩
  · intro hq wk hb
    have A6 : At (T ++ enc s L mode wait req) (n' + N4 + 1 + (if req = 0 then [] else uv req).length) (uv wait.toNat) := by
      have := A5
      unfold tl at this
      rw [if_pos hq] at this
      exact this.right
    have ht : (tl wait req).length = (if req = 0 then [] else uv req).length + (uv wait.toNat).length := by
      unfold tl; rw [if_pos hq, List.length_append]
    refine (rdUv a3 _ N3 c3 _ wait.toNat wk hE3 (s3.below hb) A6 (by omega) (by omega)).mono fun e w' h => ⟨?_, bt hb h.2⟩
    rw [h.1, Int.toNat_of_nonneg (by omega), show n' + N4 + 1 + (if req = 0 then [] else uv req).length + (uv wait.toNat).length = N3 by omega]
  · intro hq
    rw [if_pos hq]; rfl
  · intro hq
    have ht : (tl wait req).length = (if req = 0 then [] else uv req).length := by
      unfold tl; rw [if_neg (show ¬ 0 < wait by omega), List.append_nil]
    omega
  · omega
  · omega
  · omega
end Go.Proofs.Qxb6614035a

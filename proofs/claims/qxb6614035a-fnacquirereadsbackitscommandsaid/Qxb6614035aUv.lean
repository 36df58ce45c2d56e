/- Owned rows that are appended to; binary.AppendUvarint. -/
import Derived.Test.Qxb6614035aRows
import Derived.WalkKit
import Derived.WalkSpells
import Derived.WalkLawsBesides
import Derived.BigQuiet
import Derived.Deep.QuietTactic
import Derived.Deep.AppendLies
namespace Go.Proofs.Qxb6614035a
open Go.RowKit

/-! ### plain: the shortest form of a uvarint -/
def uvb : Nat → Nat → List Int
  | 0, n => [(n : Int)]
  | f + 1, n => if n < 128 then [(n : Int)] else ((n % 128 + 128 : Nat) : Int) :: uvb f (n / 128)
def uv (n : Nat) : List Int := uvb 10 n
theorem uvb_len (f : Nat) : ∀ n, 1 ≤ (uvb f n).length ∧ (uvb f n).length ≤ f + 1 := by
  induction f with
  | zero => intro n; simp [uvb]
  | succ f ih =>
    intro n
    unfold uvb
    split
    · simp
    · have := ih (n / 128); simp only [List.length_cons]; omega

abbrev bs (L : List Int) : List Value := L.map (Value.int .u8)
theorem bs_one (L : List Int) : ∀ u ∈ bs L, u.oneCell' = true := ints_oneCell _ _

set_option maxRecDepth 100000 in
theorem or_nat : ∀ n : Fin 256, n.val ||| 128 = n.val % 128 + 128 := by decide
theorem or_hi (x : Nat) : bits .or .u8 ((x : Int) % 256) 128 = ((x % 128 + 128 : Nat) : Int) := by
  rw [show ((x : Int) % 256) = ((x % 256 : Nat) : Int) by omega, show (128 : Int) = ((128 : Nat) : Int) from rfl, u8_or_nat _ _ (by omega) (by decide)]
  have : (x % 256) ||| 128 = (x % 256) % 128 + 128 := or_nat ⟨x % 256, by omega⟩
  rw [this]
  congr 2
  omega

/-! ### what an append leaves -/
/-- w' is w but for v's own row and new blocks; the new value lies in v's row or in a new block. -/
def App (w w' : World) (v v' : Value) : Prop := w.grownBy w' v.ownBlock ∧ (v'.ownBlock = v.ownBlock ∨ ∃ k, v'.ownBlock = some k ∧ w.heap.size ≤ k)

theorem App.refl (w : World) (v : Value) : App w w v v := ⟨World.grownBy.refl _ _, .inl rfl⟩
theorem grown_trans {a b c : World} {r r' : Option Nat} (h : a.grownBy b r) (k : b.grownBy c r') (hr : r' = r ∨ ∃ n, r' = some n ∧ a.heap.size ≤ n) : a.grownBy c r :=
  ⟨k.os.trans h.os, k.tape.trans h.tape, k.output.trans h.output, Nat.le_trans h.size k.size, fun i hi hne => by
    rw [k.block i (Nat.lt_of_lt_of_le hi h.size) (fun e => by
      rcases hr with hr | ⟨n, hn, hle⟩
      · exact hne (e.trans hr)
      · rw [hn] at e; cases e; omega), h.block i hi hne]⟩
theorem App.trans {a b c : World} {u v x : Value} (h : App a b u v) (k : App b c v x) : App a c u x := by
  refine ⟨grown_trans h.1 k.1 h.2, ?_⟩
  rcases k.2 with e | ⟨n, e, hn⟩
  · rw [e]; exact h.2
  · exact .inr ⟨n, e, Nat.le_trans h.1.size hn⟩
theorem App.alloc {w w' : World} {v v' : Value} (o : Obj) (h : App (w.alloc o) w' v v') : App w w' v v' := by
  refine ⟨grown_trans (World.grownBy_alloc w o v.ownBlock) h.1 (.inl rfl), ?_⟩
  rcases h.2 with e | ⟨n, e, hn⟩
  · exact .inl e
  · exact .inr ⟨n, e, by simp at hn; omega⟩
theorem App.cell {w w' : World} {v v' : Value} (h : App w w' v v') {p : Addr} (hp : p.block < w.heap.size) (hne : some p.block ≠ v.ownBlock) : w'.cell? p = w.cell? p := h.1.cell_far p hp hne
theorem App.below {w w' : World} {v v' : Value} {B : Nat} (h : App w w' v v') (hB : B ≤ w.heap.size) (hv : ∀ k, v.ownBlock = some k → B ≤ k) : Below B w w' :=
  (Below.refl _ _).grown h.1 hB hv
/-- out of the law on append -/
theorem App.of_at {w w' : World} {v v' : Value} {H : Nat} (o : Obj) (hg : (w.alloc o).grownBy w' v.ownBlock) (hat : v'.ownBlock = v.ownBlock ∨ v'.ownBlock = some H) (hH : w.heap.size ≤ H) : App w w' v v' :=
  ⟨grown_trans (World.grownBy_alloc w o v.ownBlock) hg (.inl rfl), hat.imp id (fun e => ⟨H, e, hH⟩)⟩

theorem info5 : (Try.prog.info? 5).map (fun i => (i.zero, i.size, i.bytes)) = some (some (.int .u8 0), 1, 1) := by kernel_rfl
theorem size5 : (Try.prog.info? 5).map (·.size) = some 1 := by kernel_rfl

set_option maxRecDepth 1000000 in
set_option maxHeartbeats 2000000 in
theorem uvarint_any (B n : Nat) (v : Value) (xs : List Value) (x : Nat) (hx : x < 18446744073709551616) (w : World) (hown : w.ownsRow B 5 1 v n xs) (hB : B ≤ w.heap.size) (hn : n ≤ 1000000000) :
    Calls Try.prog 28 #[v, .int .u64 x] w fun e w' => ∃ v', e = .returned v' ∧ w'.ownsRow B 5 1 v' (n + (uv x).length) (xs ++ bs (uv x)) ∧ App w w' v v' := by
  obtain ⟨i0, hi, hz0, hz1, hz2⟩ := info_parts info5
  go_enter Try.func28, Try.ntmps28
  go_wp2
  go_loopw [0, 1] (fun b s wr => ∃ (f y m : Nat) (ys : List Value), 1 ≤ f ∧ f ≤ 10 ∧ y < 128 ^ f ∧ y < 18446744073709551616 ∧ s = .int .u64 y ∧ wr.ownsRow B 5 1 b m ys ∧ App w wr v b ∧ m + f = n + 10 ∧
      Hid (ys ++ bs (uvb f y) = xs ++ bs (uv x)) ∧ m + (uvb f y).length = n + (uv x).length)
    (fun _ s _ => (intOf s).toNat)
  case atStart => exact ⟨10, x, n, xs, by omega, by omega, by simp only [Nat.reducePow]; omega, hx, rfl, hown, App.refl _ _, rfl, rfl, rfl⟩
  case round =>
    obtain ⟨f, y, m, ys, hf1, hf2, hy, hy64, rfl, ho, hA, hmf, HE, hlen⟩ := hrel
    have hBr : B ≤ wr.heap.size := Nat.le_trans hB hA.1.size
    obtain ⟨f, rfl⟩ : ∃ f', f = f' + 1 := ⟨f - 1, by omega⟩
    have hm : m ≤ 1000000010 := by omega
    have HY : Hid _ := hy
    have HF : Hid _ := hmf
    have HL : Hid _ := hlen
    clear hy hmf hlen hx
    by_cases hlt : y < 128
    · have HU : Hid (uvb (f + 1) y = [(y : Int)]) := by show _ = _; simp [uvb, hlt]
      have hlt' : (y : Int) < 128 := by omega
      go_wp2_with (at_builtin; refine wpList_append_own_at _ rfl _ _ 22 rfl B 5 i0 _ 1 1 Try.underlying22 hi hz0 hz1 hz2 rfl (by decide) _ _ _ rfl (ho.alloc _) ⟨wr.heap.size, 0, none⟩ 1 1 [.int .u8 (y : Int)] rfl rfl ?c1 (by simp [Value.oneCell']) ?c3 ?c4 ?c5 ?_)
      case c1 => exact cell_one_new _ _ _
      case c3 => unfold maxLen; omega
      case c4 => omega
      case c5 => simp; omega
      intro v' w1 hown1 hgrow1 _ hat1
      have hA2 : App wr w1 u0 v' := App.of_at _ hgrow1 hat1 (by omega)
      go_wp2
      go_ret
      refine ⟨v', rfl, ?_, hA.trans hA2⟩
      have e1 := HE.out
      have e2 := HL.out
      have e3 := HU.out
      rw [e3] at e1 e2
      rw [← e1, ← e2]
      exact hown1
    · have HU : Hid (uvb (f + 1) y = ((y % 128 + 128 : Nat) : Int) :: uvb f (y / 128)) := by show _ = _; simp [uvb, hlt]
      have hge : (128 : Int) ≤ (y : Int) := by omega
      have hf0 : 1 ≤ f := by
        have := HY.out
        cases f with
        | zero => simp at this; omega
        | succ f => omega
      have hc := or_hi y
      obtain ⟨c, hcc⟩ : ∃ c : Int, c = ((y % 128 + 128 : Nat) : Int) := ⟨_, rfl⟩
      rw [← hcc] at hc HU
      clear hcc
      go_wp2_with (at_builtin; refine wpList_append_own_at _ rfl _ _ 22 rfl B 5 i0 _ 1 1 Try.underlying22 hi hz0 hz1 hz2 rfl (by decide) _ _ _ rfl (ho.alloc _) ⟨wr.heap.size, 0, none⟩ 1 1 [.int .u8 c] rfl rfl ?c1 (by simp [Value.oneCell']) ?c3 ?c4 ?c5 ?_)
      case c1 => exact cell_one_new _ _ _
      case c3 => unfold maxLen; omega
      case c4 => omega
      case c5 => simp; omega
      intro v' w1 hown1 hgrow1 _ hat1
      have hA2 : App wr w1 u0 v' := App.of_at _ hgrow1 hat1 (by omega)
      clear hgrow1 hat1 hc
      go_wp2
      go_roundw
      case rel =>
        have hy' := HY.out
        have e1 := HE.out
        have e2 := HL.out
        have e3 := HF.out
        have e4 := HU.out
        rw [e4] at e1 e2
        refine ⟨f, y / 128, m + 1, ys ++ [.int .u8 c], hf0, by omega, ?_, by omega, by simp, hown1, hA.trans hA2, by omega, ?_, ?_⟩
        · rw [Nat.pow_succ] at hy'
          exact Nat.div_lt_of_lt_mul (by rw [Nat.mul_comm]; exact hy')
        · show _ = _
          rw [← e1]; simp
        · simp only [List.length_cons] at e2; omega
      case measure => simp [intOf]; omega
end Go.Proofs.Qxb6614035a

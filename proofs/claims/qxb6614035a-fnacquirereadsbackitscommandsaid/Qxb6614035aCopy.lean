/- zzCopy, zzBytes. -/
import Derived.Test.Qxb6614035aRead
import Derived.Lib.SliceRun
namespace Go.Proofs.Qxb6614035a
open Go.RowKit

set_option maxHeartbeats 1000000 in
theorem bytes16 (s : ByteArray) (a : Option Addr) (n c : Nat) (m t : Int) (r : Int) (f : Bool) (nm : ByteArray) (a' : Option Addr) (n' c' : Nat) (w : World) (h0 : s.size ≤ maxLen) (h1 : n ≤ maxLen) (h2 : nm.size ≤ maxLen) (h3 : n' ≤ maxLen) :
    Calls Try.prog 16 #[.string s, .slice a n c, .int .u8 m, .int .i64 t, .int .u64 r, .bool f, .string nm, .slice a' n' c'] w fun e w' => ∃ b, e = .returned (.bool b) ∧ w = w' := by
  unfold maxLen at h0 h1 h2 h3
  go_enter Try.func16, Try.ntmps16
  go_wp2
  all_goals go_ret
  all_goals exact ⟨_, rfl, rfl⟩

/-- The loop's relation. -/
def CRel (w wr : World) (L : List Int) (k : Nat) : Prop :=
  ∃ zs : List Value, wr.ownsRow w.heap.size 5 1 (.slice (some ⟨w.heap.size, 0, none⟩) L.length L.length) L.length zs ∧ (∀ i x, i < k → L[i]? = some x → zs[i]? = some (.int .u8 x)) ∧ Below w.heap.size w wr

theorem CRel.step {w wr : World} {L : List Int} {k : Nat} {x : Int} (h : CRel w wr L k) (hx : L[k]? = some x) : CRel w (wr.setCell ⟨w.heap.size, k, none⟩ (.int .u8 x)) L (k + 1) := by
  obtain ⟨zs, ho, hc, hb⟩ := h
  have hk := (List.getElem?_eq_some_iff.1 hx).1
  refine ⟨zs.set k (.int .u8 x), (ho.stored k _).1, fun i y hi hy => ?_, hb.setCell (Nat.le_refl _) _⟩
  have hl := ho.1
  by_cases e : i = k
  · subst e
    rw [hx] at hy; cases hy
    rw [List.getElem?_set_self (by omega)]
  · rw [List.getElem?_set_ne (by omega)]
    exact hc i y (by omega) hy
theorem CRel.done {w wr : World} {L : List Int} (h : CRel w wr L L.length) : wr.ownsRow w.heap.size 5 1 (.slice (some ⟨w.heap.size, 0, none⟩) L.length L.length) L.length (bs L) ∧ Below w.heap.size w wr := by
  obtain ⟨zs, ho, hc, hb⟩ := h
  have hl := ho.1
  have e : zs = bs L := by
    apply List.ext_getElem? 
    intro i
    rw [List.getElem?_map]
    by_cases hi : i < L.length
    · have hx : L[i]? = some L[i] := List.getElem?_eq_getElem hi
      rw [hx, hc i _ hi hx]
      rfl
    · rw [List.getElem?_eq_none (by omega), List.getElem?_eq_none (by omega)]
      rfl
  rw [← e]
  exact ⟨ho, hb⟩

set_option maxHeartbeats 1000000 in
theorem copy_any (a : Option Addr) (n c : Nat) (L : List Int) (w : World) (hm : L.length = n) (hl : n ≤ 1048576) (hs : Src w a L) (ha : a = none → n = 0 ∧ c = 0) :
    Calls Try.prog 8 #[.slice a n c] w fun e w' => ∃ v, e = .returned v ∧ w'.ownsRow w.heap.size 5 1 v n (bs L) ∧ Below w.heap.size w w' := by
  subst hm
  obtain ⟨i0, hi, hz0, hz1, hz2⟩ := info_parts info5
  have hnil := fun w => Lib.run_eql_slice_nil (P := Try.prog) w 22 5 a L.length c 0 0 Try.underlying22
  cases a with
  | none =>
    obtain ⟨h1, rfl⟩ := ha rfl
    have h1' := List.eq_nil_of_length_eq_zero h1
    subst h1'
    clear ha h1
    simp at hnil
    go_enter Try.func8, Try.ntmps8
    go_wp2
    go_ret
    exact ⟨_, rfl, World.ownsRow_nil _ _ _ _, Below.refl _ _⟩
  | some x =>
    clear ha
    simp at hnil
    have HS : Hid (Src w (some x) L) := hs
    clear hs
    go_enter Try.func8, Try.ntmps8
    go_wp2_with (at_make; refine wpList_make_full _ rfl _ _ 22 rfl w.heap.size 5 i0 _ 1 Try.underlying22 hi hz0 hz1 _ _ _ _ L.length rfl rfl rfl rfl (by rw [hz2]; omega) (by unfold maxLen; omega) (Nat.le_refl _) ?_)
    intro w1 hown1 hgrow1
    have hR0 : CRel w w1 L 0 := ⟨_, hown1, fun i x h => absurd h (by omega), (Below.refl _ _).grown hgrow1 (Nat.le_refl _) (fun k h => by cases h)⟩
    clear hown1 hgrow1
    go_wp2
    go_loopw [4] (fun i wr => ∃ k : Nat, k ≤ L.length ∧ i = .int .i64 k ∧ CRel w wr L k) (fun i _ => L.length - (intOf i).toNat)
    case atStart => exact ⟨0, Nat.zero_le _, rfl, hR0⟩
    case round =>
      obtain ⟨k, hk, rfl, hR⟩ := hrel
      by_cases hlt : k < L.length
      · have hx : L[k]? = some L[k] := List.getElem?_eq_getElem hlt
        generalize L[k] = x at *
        obtain ⟨zs, ho, hzz, hb⟩ := hR
        have HR : Hid (CRel w wr L k) := ⟨zs, ho, hzz, hb⟩
        obtain ⟨g0, o0, he, hc'⟩ := HS.out.get hb hx
        cases he
        have hf := ho.frozenAt k
        have hl := ho.1
        have hd := ho.cellAt k (by omega)
        rw [List.getElem?_eq_getElem (by omega)] at hd
        have HX : Hid _ := hx
        clear hx ho hb hzz
        go_wp2
        go_roundw
        case rel => exact ⟨k + 1, by omega, by go_num, HR.out.step HX.out⟩
        case measure => simp [intOf]; omega
      · obtain rfl : k = L.length := by omega
        have HR : Hid (CRel w wr L L.length) := hR
        clear hR hR0
        go_wp2
        go_ret
        exact ⟨_, rfl, HR.out.done⟩
end Go.Proofs.Qxb6614035a

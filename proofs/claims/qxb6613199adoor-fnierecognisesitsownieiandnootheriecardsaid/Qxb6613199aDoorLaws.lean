/- The two laws: the walks. -/
import Derived.Test.Qxb6613199aDoorIe
namespace Go.Proofs.Qxb6613199aDoor
open Go.RowKit

set_option maxRecDepth 100000 in
theorem and_nat : ∀ n : Fin 256, n.val &&& 15 = 0 → n.val &&& 240 = n.val := by decide
theorem and_hi (iei : Int) (h0 : 0 ≤ iei) (h1 : iei ≤ 255) (h : bits .and .u8 iei 15 = 0) : bits .and .u8 iei 240 = iei := by
  obtain ⟨n, rfl⟩ := Int.eq_ofNat_of_zero_le h0
  have hn : n < 256 := by omega
  rw [show (15 : Int) = ((15 : Nat) : Int) from rfl, u8_and_nat _ _ hn (by decide)] at h
  rw [show (240 : Int) = ((240 : Nat) : Int) from rfl, u8_and_nat _ _ hn (by decide)]
  have : n &&& 240 = n := and_nat ⟨n, hn⟩ (by simpa using h)
  rw [this]

set_option maxHeartbeats 1000000 in
theorem rec_out (f iei x : Int) (w : World) (h : f < 0 ∨ 6 < f) :
    Calls Tryd.prog 3 #[.int .i64 f, .int .u8 iei, .int .u8 x] w fun e w' => e = .returned (.bool true) ∧ Below w.heap.size w w' := by
  by_cases c : f < 0
  · clear h
    go_enter Tryd.func3, Tryd.ntmps3
    go_wp2
    go_ret
    exact ⟨rfl, Below.refl _ _⟩
  · have c' : 6 < f := by omega
    clear h
    go_enter Tryd.func3, Tryd.ntmps3
    go_wp2
    go_ret
    exact ⟨rfl, Below.refl _ _⟩

set_option maxHeartbeats 1000000 in
theorem rec_skip (iei x : Int) (w : World) (h : (bits .and .u8 iei 15 != 0) = true) :
    Calls Tryd.prog 3 #[.int .i64 3, .int .u8 iei, .int .u8 x] w fun e w' => e = .returned (.bool true) ∧ Below w.heap.size w w' := by
  go_enter Tryd.func3, Tryd.ntmps3
  go_wp2
  go_ret
  exact ⟨rfl, Below.refl _ _⟩

theorem mB_own (f : Nat) (iei : Int) (h : f = 3 → bits .and .u8 iei 240 = iei) : mB f iei iei = decide (3 ≤ f) := by
  unfold mB
  by_cases h3 : f < 3
  · rw [if_pos h3, decide_eq_false (by omega)]
  · rw [if_neg h3, decide_eq_true (by omega)]
    by_cases h4 : f = 3
    · rw [if_pos h4, h h4]; simp
    · rw [if_neg h4]; simp

set_option maxHeartbeats 2000000 in
theorem rec_tv1 (iei x : Int) (w : World) (hT : Tab w) (h15 : (bits .and .u8 iei 15 != 0) = false) (h : bits .and .u8 iei 240 = iei) :
    Calls Tryd.prog 3 #[.int .i64 3, .int .u8 iei, .int .u8 x] w fun e w' => e = .returned (.bool true) ∧ Below w.heap.size w w' := by
  have HX : Hid (mB 3 iei x = (bits .and .u8 x 240 == iei)) := by show _ = _; simp [mB]
  have HO : Hid _ := mB_own 3 iei (fun _ => h)
  clear h
  cases hx : mB 3 iei x
  · have HM : Hid _ := hx
    clear hx
    go_enter Tryd.func3, Tryd.ntmps3
    go_wp2_with fail
    refine (newIE_any iei 3 _).mono ?_
    rintro e w1 ⟨b, rfl, hb, hlt, c0, c1⟩
    have hT1 := hT.later hb
    have hm := fun x => zzMatches_any b iei x 3 (by decide) w1 hT1 c0 c1
    have HZ : Hid _ := hm
    clear hm hT1
    go_wp2_with fail
    refine (HZ.out iei).mono ?_
    rintro e w2 ⟨rfl, rfl⟩
    rw [HO.out]
    go_wp2_with fail
    refine (HZ.out x).mono ?_
    rintro e w2 ⟨rfl, rfl⟩
    rw [HM.out]
    go_wp2
    go_ret
    exact ⟨rfl, hb⟩
  · have HM : Hid _ := hx
    clear hx
    go_enter Tryd.func3, Tryd.ntmps3
    go_wp2_with fail
    refine (newIE_any iei 3 _).mono ?_
    rintro e w1 ⟨b, rfl, hb, hlt, c0, c1⟩
    have hT1 := hT.later hb
    have hm := fun x => zzMatches_any b iei x 3 (by decide) w1 hT1 c0 c1
    have HZ : Hid _ := hm
    clear hm hT1
    go_wp2_with fail
    refine (HZ.out iei).mono ?_
    rintro e w2 ⟨rfl, rfl⟩
    rw [HO.out]
    go_wp2_with fail
    refine (HZ.out x).mono ?_
    rintro e w2 ⟨rfl, rfl⟩
    rw [HM.out]
    go_wp2_with fail
    refine (HZ.out iei).mono ?_
    rintro e w2 ⟨rfl, rfl⟩
    rw [HO.out]
    go_wp2
    go_ret
    refine ⟨?_, hb⟩
    have := HM.out
    rw [HX.out] at this
    simp [this]

set_option maxHeartbeats 2000000 in
theorem rec_low (iei x : Int) (f : Nat) (h3 : f < 3) (w : World) (hT : Tab w) :
    Calls Tryd.prog 3 #[.int .i64 f, .int .u8 iei, .int .u8 x] w fun e w' => e = .returned (.bool true) ∧ Below w.heap.size w w' := by
  have hf : f < 7 := by omega
  have he : ((f : Int) == 3) = false := by simp; omega
  have hd : decide ((3 : Int) ≤ (f : Int)) = false := by simp; omega
  have HO : Hid (mB f iei iei = false) := by show _ = _; simp [mB, h3]
  have hx : mB f iei x = false := by simp [mB, h3]
  · have HM : Hid _ := hx
    clear hx
    go_enter Tryd.func3, Tryd.ntmps3
    go_wp2_with fail
    refine (newIE_any iei f _).mono ?_
    rintro e w1 ⟨b, rfl, hb, hlt, c0, c1⟩
    have hT1 := hT.later hb
    have hm := fun x => zzMatches_any b iei x f hf w1 hT1 c0 c1
    have HZ : Hid _ := hm
    clear hm hT1
    go_wp2_with fail
    refine (HZ.out iei).mono ?_
    rintro e w2 ⟨rfl, rfl⟩
    rw [HO.out]
    go_wp2_with fail
    refine (HZ.out x).mono ?_
    rintro e w2 ⟨rfl, rfl⟩
    rw [HM.out]
    go_wp2
    go_ret
    exact ⟨rfl, hb⟩

set_option maxHeartbeats 2000000 in
theorem rec_high (iei x : Int) (f : Nat) (h3 : 3 < f) (hf : f < 7) (w : World) (hT : Tab w) :
    Calls Tryd.prog 3 #[.int .i64 f, .int .u8 iei, .int .u8 x] w fun e w' => e = .returned (.bool true) ∧ Below w.heap.size w w' := by
  have he : ((f : Int) == 3) = false := by simp; omega
  have hd : decide ((3 : Int) ≤ (f : Int)) = true := by simp; omega
  have HX : Hid (mB f iei x = (x == iei)) := by show _ = _; unfold mB; rw [if_neg (by omega), if_neg (by omega)]
  have HO : Hid (mB f iei iei = true) := by show _ = _; unfold mB; rw [if_neg (by omega), if_neg (by omega)]; simp
  cases hx : mB f iei x
  · have HM : Hid _ := hx
    clear hx
    go_enter Tryd.func3, Tryd.ntmps3
    go_wp2_with fail
    refine (newIE_any iei f _).mono ?_
    rintro e w1 ⟨b, rfl, hb, hlt, c0, c1⟩
    have hT1 := hT.later hb
    have hm := fun x => zzMatches_any b iei x f hf w1 hT1 c0 c1
    have HZ : Hid _ := hm
    clear hm hT1
    go_wp2_with fail
    refine (HZ.out iei).mono ?_
    rintro e w2 ⟨rfl, rfl⟩
    rw [HO.out]
    go_wp2_with fail
    refine (HZ.out x).mono ?_
    rintro e w2 ⟨rfl, rfl⟩
    rw [HM.out]
    go_wp2
    go_ret
    exact ⟨rfl, hb⟩
  · have HM : Hid _ := hx
    clear hx
    go_enter Tryd.func3, Tryd.ntmps3
    go_wp2_with fail
    refine (newIE_any iei f _).mono ?_
    rintro e w1 ⟨b, rfl, hb, hlt, c0, c1⟩
    have hT1 := hT.later hb
    have hm := fun x => zzMatches_any b iei x f hf w1 hT1 c0 c1
    have HZ : Hid _ := hm
    clear hm hT1
    go_wp2_with fail
    refine (HZ.out iei).mono ?_
    rintro e w2 ⟨rfl, rfl⟩
    rw [HO.out]
    go_wp2_with fail
    refine (HZ.out x).mono ?_
    rintro e w2 ⟨rfl, rfl⟩
    rw [HM.out]
    go_wp2_with fail
    refine (HZ.out iei).mono ?_
    rintro e w2 ⟨rfl, rfl⟩
    rw [HO.out]
    go_wp2
    go_ret
    refine ⟨?_, hb⟩
    have := HM.out
    rw [HX.out] at this
    simp [this]

theorem rec_any (f iei x : Int) (h0 : 0 ≤ iei) (h1 : iei ≤ 255) (w : World) (hT : Tab w) :
    Calls Tryd.prog 3 #[.int .i64 f, .int .u8 iei, .int .u8 x] w fun e w' => e = .returned (.bool true) ∧ Below w.heap.size w w' := by
  by_cases h : f < 0 ∨ 6 < f
  · exact rec_out f iei x w h
  · obtain ⟨n, rfl⟩ := Int.eq_ofNat_of_zero_le (show 0 ≤ f by omega)
    by_cases h3 : n < 3
    · exact rec_low iei x n h3 w hT
    · by_cases h4 : n = 3
      · subst h4
        cases h5 : (bits .and .u8 iei 15 != 0)
        · exact rec_tv1 iei x w hT h5 (and_hi iei h0 h1 (by simpa using h5))
        · exact rec_skip iei x w h5
      · exact rec_high iei x n (by omega) (by omega) w hT

/-! ### the second law -/
set_option maxHeartbeats 1000000 in
theorem half_out (iei f x : Int) (w : World) (h : f < 4 ∨ 6 < f) :
    Calls Tryd.prog 4 #[.int .u8 iei, .int .i64 f, .int .u8 x] w fun e w' => e = .returned (.bool true) ∧ Below w.heap.size w w' := by
  by_cases c : f < 4
  · clear h
    go_enter Tryd.func4, Tryd.ntmps4
    go_wp2
    go_ret
    exact ⟨rfl, Below.refl _ _⟩
  · have c' : 6 < f := by omega
    clear h
    go_enter Tryd.func4, Tryd.ntmps4
    go_wp2
    go_ret
    exact ⟨rfl, Below.refl _ _⟩

set_option maxHeartbeats 1000000 in
theorem half_skip (iei x : Int) (f : Nat) (h4 : 4 ≤ f) (hf : f < 7) (w : World) (h : (bits .and .u8 iei 15 != 0) = true) :
    Calls Tryd.prog 4 #[.int .u8 iei, .int .i64 f, .int .u8 x] w fun e w' => e = .returned (.bool true) ∧ Below w.heap.size w w' := by
  go_enter Tryd.func4, Tryd.ntmps4
  go_wp2
  go_ret
  exact ⟨rfl, Below.refl _ _⟩

set_option maxHeartbeats 2000000 in
theorem half_main (iei x : Int) (f : Nat) (h4 : 4 ≤ f) (hf : f < 7) (w : World) (hT : Tab w) (h15 : (bits .and .u8 iei 15 != 0) = false) (h : bits .and .u8 iei 240 = iei) :
    Calls Tryd.prog 4 #[.int .u8 iei, .int .i64 f, .int .u8 x] w fun e w' => e = .returned (.bool true) ∧ Below w.heap.size w w' := by
  have HW : Hid (∀ y, mB f iei y = (y == iei)) := by intro y; unfold mB; rw [if_neg (by omega), if_neg (by omega)]
  have HH : Hid (∀ y, mB 3 iei y = (bits .and .u8 y 240 == iei)) := by intro y; simp [mB]
  have HI : Hid _ := h
  clear h
  go_enter Tryd.func4, Tryd.ntmps4
  go_wp2_with fail
  refine (newIE_any iei 3 _).mono ?_
  rintro e w1 ⟨b, rfl, hb, hlt, c0, c1⟩
  go_wp2_with fail
  refine (newIE_any iei f _).mono ?_
  rintro e w2 ⟨b', rfl, hb', hlt', c0', c1'⟩
  have hT2 := (hT.later hb).later hb'
  have d0 := (hb'.cell (p := ⟨b, 0, none⟩) hlt).trans c0
  have d1 := (hb'.cell (p := ⟨b, 1, none⟩) hlt).trans c1
  have hs := hb.size
  have hB : Below w.heap.size w w2 := hb.trans (hb'.mono hs)
  have HM : Hid _ := fun y => zzMatches_any b iei y 3 (by decide) w2 hT2 d0 d1
  have HF : Hid _ := fun y => zzMatches_any b' iei y f hf w2 hT2 c0' c1'
  clear hT2 d0 d1 c0 c1 c0' c1' hb hb' hlt hlt'
  go_wp2_with fail
  refine (HF.out iei).mono ?_
  rintro e w3 ⟨rfl, rfl⟩
  rw [HW.out iei, beq_self_eq_true]
  go_wp2_with fail
  refine (HM.out x).mono ?_
  rintro e w3 ⟨rfl, rfl⟩
  rw [HH.out x]
  go_wp2_with fail
  refine (HF.out _).mono ?_
  rintro e w3 ⟨rfl, rfl⟩
  rw [HW.out]
  go_wp2_with fail
  refine (HF.out x).mono ?_
  rintro e w3 ⟨rfl, rfl⟩
  rw [HW.out x]
  cases hxx : (x == iei)
  · go_wp2
    go_ret
    exact ⟨rfl, hB⟩
  · go_wp2_with fail
    refine (HM.out x).mono ?_
    rintro e w3 ⟨rfl, rfl⟩
    have hxe : x = iei := by simpa using hxx
    rw [HH.out x, hxe, HI.out, beq_self_eq_true]
    go_wp2
    go_ret
    exact ⟨rfl, hB⟩

theorem half_any (iei f x : Int) (h0 : 0 ≤ iei) (h1 : iei ≤ 255) (w : World) (hT : Tab w) :
    Calls Tryd.prog 4 #[.int .u8 iei, .int .i64 f, .int .u8 x] w fun e w' => e = .returned (.bool true) ∧ Below w.heap.size w w' := by
  by_cases h : f < 4 ∨ 6 < f
  · exact half_out iei f x w h
  · obtain ⟨n, rfl⟩ := Int.eq_ofNat_of_zero_le (show 0 ≤ f by omega)
    cases h5 : (bits .and .u8 iei 15 != 0)
    · exact half_main iei x n (by omega) (by omega) w hT h5 (and_hi iei h0 h1 (by simpa using h5))
    · exact half_skip iei x n (by omega) (by omega) w h5
end Go.Proofs.Qxb6613199aDoor

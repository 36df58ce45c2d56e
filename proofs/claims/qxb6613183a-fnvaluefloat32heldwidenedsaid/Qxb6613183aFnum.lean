/- zzIsNaNBits, zzPow2, zzDecodeFinite. -/
import Derived.Test.Qxb6613183aFval
import Derived.Test.Qxb6613183aIeee
namespace Go.Proofs.Qxb6613183a
open Go.RowKit

theorem and_exp (r : Nat) (h : r < 18446744073709551616) : bits .and .u64 ((r : Int) / 4503599627370496) 2047 = ((r / 4503599627370496 % 2048 : Nat) : Int) := by
  have e : ((r : Int) / 4503599627370496) = ((r / 4503599627370496 : Nat) : Int) := by omega
  rw [e, show (2047 : Int) = ((2047 : Nat) : Int) from rfl, u64_and_nat _ _ (by omega) (by decide)]
  rw [show (2047 : Nat) = 2 ^ 11 - 1 from rfl, Nat.and_two_pow_sub_one_eq_mod]
theorem and_frac (r : Nat) (h : r < 18446744073709551616) : bits .and .u64 (r : Int) 4503599627370495 = ((r % 4503599627370496 : Nat) : Int) := by
  rw [show (4503599627370495 : Int) = ((4503599627370495 : Nat) : Int) from rfl, u64_and_nat _ _ h (by decide)]
  rw [show (4503599627370495 : Nat) = 2 ^ 52 - 1 from rfl, Nat.and_two_pow_sub_one_eq_mod]
theorem or_top (F : Nat) (h : F < 4503599627370496) : bits .or .u64 (F : Int) 4503599627370496 = ((4503599627370496 + F : Nat) : Int) := by
  rw [show (4503599627370496 : Int) = ((4503599627370496 : Nat) : Int) from rfl, u64_or_nat _ _ (by omega) (by decide)]
  have := Nat.two_pow_add_eq_or_of_lt (i := 52) (b := F) h 1
  rw [Nat.mul_one, show (2 : Nat) ^ 52 = 4503599627370496 from rfl] at this
  rw [Nat.or_comm, ← this]

set_option maxHeartbeats 1000000 in
theorem isNaN_any (r : Nat) (w : World) (h : NanB r) :
    Calls Try.prog 9 #[.int .u64 r] w fun e w' => e = .returned (.bool true) ∧ w = w' := by
  obtain ⟨h1, h2, h3⟩ := h
  have a1 := and_exp r h3
  rw [h1] at a1
  have a2 := and_frac r h3
  go_enter Try.func9, Try.ntmps9
  go_wp2
  go_ret
  exact ⟨by simp; omega, rfl⟩

set_option maxHeartbeats 1000000 in
theorem pow2_pos (k : Nat) (hk : k ≤ 75) (w : World) :
    Calls Try.prog 22 #[.int .i64 k] w fun e w' => e = .returned (.float .f64 ((1023 + k) * 4503599627370496)) ∧ w = w' := by
  go_enter Try.func22, Try.ntmps22
  go_wp2
  go_loop [0, 3] (fun s v => ∃ j : Nat, j ≤ k ∧ s = .int .i64 ((k : Int) - j) ∧ v = .float .f64 ((1023 + j) * 4503599627370496)) (fun s _ => (intOf s).toNat)
  case atStart => exact ⟨0, Nat.zero_le _, by simp, rfl⟩
  case round =>
    obtain ⟨j, hj, rfl, rfl⟩ := hrel
    by_cases hlt : j < k
    · have hm := fun w => run_float_arith (P := Try.prog) w .mul 23 .f64 _ _ _ (twice j (by omega))
      have hpos : (0 : Int) < (k : Int) - j := by omega
      go_wp2
      go_round
      case rel => exact ⟨j + 1, by omega, by go_num, by rw [show 1023 + (j + 1) = 1024 + j by omega]⟩
      case measure => simp [intOf]; omega
    · obtain rfl : j = k := by omega
      have hz : ((j : Int) - j) = 0 := by omega
      rw [hz]
      go_wp2
      go_loop [0, 3] (fun s v => s = .int .i64 0 ∧ v = .float .f64 ((1023 + j) * 4503599627370496)) (fun _ _ => 0)
      case atStart => exact ⟨rfl, rfl⟩
      case round =>
        obtain ⟨rfl, rfl⟩ := hrel
        go_wp2
        go_ret
        exact ⟨rfl, rfl⟩

set_option maxHeartbeats 1000000 in
theorem pow2_neg (k : Nat) (hk : k ≤ 1074) (w : World) :
    Calls Try.prog 22 #[.int .i64 (-(k : Int))] w fun e w' => e = .returned (.float .f64 (pwn k)) ∧ w = w' := by
  go_enter Try.func22, Try.ntmps22
  go_wp2
  go_loop [0, 3] (fun s v => s = .int .i64 (-(k : Int)) ∧ v = .float .f64 (pwn 0)) (fun _ _ => 0)
  case atStart => exact ⟨rfl, rfl⟩
  case round =>
    obtain ⟨rfl, rfl⟩ := hrel
    go_wp2
    go_loop [0, 3] (fun s v => ∃ j : Nat, j ≤ k ∧ s = .int .i64 ((j : Int) - k) ∧ v = .float .f64 (pwn j)) (fun s _ => (-(intOf s)).toNat)
    case atStart => exact ⟨0, Nat.zero_le _, by simp, rfl⟩
    case round =>
      obtain ⟨j, hj, rfl, rfl⟩ := hrel
      by_cases hlt : j < k
      · have hm := fun w => run_float_arith (P := Try.prog) w .quo 23 .f64 _ _ _ (half j (by omega))
        have hpos : (j : Int) - k < 0 := by omega
        go_wp2
        go_round
        case rel => exact ⟨j + 1, by omega, by go_num, rfl⟩
        case measure => simp [intOf]; omega
      · obtain rfl : j = k := by omega
        have hz : ((j : Int) - j) = 0 := by omega
        rw [hz]
        go_wp2
        go_ret
        exact ⟨rfl, rfl⟩

/-- 2^k, k within the normal range. -/
theorem pow2_any (k : Int) (h1 : -1022 ≤ k) (h2 : k ≤ 75) (w : World) :
    Calls Try.prog 22 #[.int .i64 k] w fun e w' => e = .returned (.float .f64 ((k + 1022).toNat * 4503599627370496 + 4503599627370496)) ∧ w = w' := by
  by_cases h : 0 ≤ k
  · obtain ⟨n, rfl⟩ := Int.eq_ofNat_of_zero_le h
    refine (pow2_pos n (by omega) w).mono fun e w' ⟨he, hw⟩ => ⟨?_, hw⟩
    rw [he, show ((n : Int) + 1022).toNat * 4503599627370496 + 4503599627370496 = (1023 + n) * 4503599627370496 by omega]
  · obtain ⟨n, hn⟩ := Int.eq_ofNat_of_zero_le (show 0 ≤ -k by omega)
    obtain rfl : k = -(n : Int) := by omega
    refine (pow2_neg n (by omega) w).mono fun e w' ⟨he, hw⟩ => ⟨?_, hw⟩
    have e : pwn n = (-(n : Int) + 1022).toNat * 4503599627370496 + 4503599627370496 := by
      unfold pwn
      rw [if_pos (by omega)]
      omega
    rw [he, e]

theorem float_K (F : Nat) (hF : F < 4503599627370496) : floatOfInt .f64 (4503599627370496 + (F : Int)) = 1074 * 4503599627370496 + (4503599627370496 + F) := by
  have e : (4503599627370496 + (F : Int)) = ((4503599627370496 + F : Nat) : Int) := by omega
  have hl : (4503599627370496 + F).log2 = 52 := log2_eq (by simp only [Nat.reducePow]; omega) (by simp only [Nat.reduceAdd, Nat.reducePow]; omega)
  obtain ⟨h, _, _⟩ := near_exact false (4503599627370496 + F) 0 (by omega) (by omega) (by omega) (by omega)
  rw [hl] at h
  have h0 : floatOfInt .f64 ((4503599627370496 + F : Nat) : Int) = Ieee.double.nearest false (4503599627370496 + F) 0 := by
    unfold floatOfInt FloatKind.nearest FloatKind.encode
    have : decide (((4503599627370496 + F : Nat) : Int) < 0) = false := by simp; omega
    rw [this, Int.natAbs_natCast]
    rfl
  rw [e, h0, h]
  simp [dw]

theorem neg_dw (v : Nat) (h : v < 9223372036854775808) : Op.negFloat .f64 v = 9223372036854775808 + v := by
  show v ^^^ 2 ^ 63 = 9223372036854775808 + v
  have h1 := Nat.two_pow_add_eq_or_of_lt (i := 63) (b := v) h 1
  rw [Nat.mul_one] at h1
  rw [show (9223372036854775808 : Nat) = 2 ^ 63 from rfl, h1]
  apply Nat.eq_of_testBit_eq
  intro j
  rw [Nat.testBit_xor, Nat.testBit_or, Nat.testBit_two_pow]
  by_cases hj : 63 = j
  · subst hj
    rw [Nat.testBit_lt_two_pow h]; rfl
  · simp [hj]

theorem run_neg (v r : Nat) (h : Op.negFloat .f64 v = r) (w : World) : (Op.unary .neg (.float .f64 v)).run Try.prog w = .ok (.float .f64 r) w := by
  subst h; rfl

set_option maxHeartbeats 1000000 in
theorem dec_norm (s : Bool) (E F : Nat) (hF : F < 4503599627370496) (hE1 : 873 ≤ E) (hE2 : E ≤ 1149) (w : World) :
    Calls Try.prog 10 #[.int .u64 (dw s (E * 4503599627370496 + (4503599627370496 + F)))] w fun e w' => e = .returned (.float .f64 (dw s (E * 4503599627370496 + (4503599627370496 + F)))) ∧ w = w' := by
  have hr : E * 4503599627370496 + (4503599627370496 + F) = (E + 1) * 4503599627370496 + F := by omega
  have hlt := dw_lt (s := s) (rung := E * 4503599627370496 + (4503599627370496 + F)) (by omega)
  have a1 := and_exp _ hlt
  have a2 := and_frac _ hlt
  rw [hr] at a1 a2
  rw [exp_dw (by omega) (by omega)] at a1
  rw [frac_dw (by omega)] at a2
  rw [← hr] at a1 a2
  have o1 : bits .or .u64 (F : Int) 4503599627370496 = 4503599627370496 + (F : Int) := by rw [or_top F hF]; omega
  have f1 := float_K F hF
  have m1 := mul_pow 1074 (4503599627370496 + F) (E - 52) (by omega) (by omega) (by decide) (by omega) (by omega) (by omega)
  rw [show 1074 + (E - 52) - 1022 = E by omega] at m1
  have hp : ∀ w, Calls Try.prog 22 #[.int .i64 ((E : Int) + 1 - 1075)] w fun e w' => e = .returned (.float .f64 ((E - 52) * 4503599627370496 + 4503599627370496)) ∧ w = w' := fun w => by
    have := pow2_any ((E : Int) + 1 - 1075) (by omega) (by omega) w
    rwa [show ((E : Int) + 1 - 1075 + 1022).toNat = E - 52 by omega] at this
  have hb := bit_dw (s := s) (rung := E * 4503599627370496 + (4503599627370496 + F)) (by omega)
  have hR : dw s (E * 4503599627370496 + (4503599627370496 + F)) = if s then 9223372036854775808 + (E * 4503599627370496 + (4503599627370496 + F)) else E * 4503599627370496 + (4503599627370496 + F) := rfl
  obtain ⟨v1, hv1⟩ : ∃ v1, v1 = 1074 * 4503599627370496 + (4503599627370496 + F) := ⟨_, rfl⟩
  obtain ⟨p2, hp2⟩ : ∃ p2, p2 = (E - 52) * 4503599627370496 + 4503599627370496 := ⟨_, rfl⟩
  obtain ⟨v2, hv2⟩ : ∃ v2, v2 = E * 4503599627370496 + (4503599627370496 + F) := ⟨_, rfl⟩
  obtain ⟨r, hr2⟩ : ∃ r, r = dw s (E * 4503599627370496 + (4503599627370496 + F)) := ⟨_, rfl⟩
  rw [← hv1] at f1 m1
  rw [← hp2] at m1
  simp only [← hp2] at hp
  rw [← hv2] at m1
  rw [← hr2] at a1 a2 hlt hb hR ⊢
  rw [← hv2] at hR
  have m2 := fun w => run_float_arith (P := Try.prog) w .mul 23 .f64 v1 p2 _ m1
  have hv2b : v2 < 9223372036854775808 := by omega
  have HP : Hid _ := hp
  clear hp hr m1 hr2 hv1 hv2 hp2
  cases s
  · simp only [Bool.false_eq_true, if_false] at hR hb
    have hb' : ((r : Int) / 9223372036854775808 == 1) = false := by simp; omega
    subst hR
    clear hb
    go_enter Try.func10, Try.ntmps10
    go_wp2_with (go_at_call 22; refine (HP.out _).mono ?_; rintro e w' ⟨rfl, rfl⟩)
    go_ret
    exact ⟨rfl, rfl⟩
  · simp only [if_true] at hR hb
    have hb' : ((r : Int) / 9223372036854775808 == 1) = true := by simp; omega
    have hneg := fun w => run_neg v2 r (by rw [hR]; exact neg_dw v2 hv2b) w
    clear hR hb
    go_enter Try.func10, Try.ntmps10
    go_wp2_with (go_at_call 22; refine (HP.out _).mono ?_; rintro e w' ⟨rfl, rfl⟩)
    go_ret
    exact ⟨rfl, rfl⟩

set_option maxHeartbeats 1000000 in
theorem dec_zero (s : Bool) (w : World) :
    Calls Try.prog 10 #[.int .u64 (dw s 0)] w fun e w' => e = .returned (.float .f64 (dw s 0)) ∧ w = w' := by
  have f1 : floatOfInt .f64 0 = 0 := rfl
  have m2 := fun w => run_float_arith (P := Try.prog) w .mul 23 .f64 0 1 0 (by kernel_rfl)
  have hneg := fun w => run_neg 0 9223372036854775808 (by kernel_rfl) w
  cases s
  · have e1 : bits .and .u64 0 2047 = 0 := by kernel_rfl
    have e2 : bits .and .u64 0 4503599627370495 = 0 := by kernel_rfl
    show Calls Try.prog 10 #[.int .u64 (0 : Int)] w fun e w' => e = .returned (.float .f64 0) ∧ w = w'
    go_enter Try.func10, Try.ntmps10
    go_wp2_with (go_at_call 22; refine (pow2_neg 1074 (by decide) _).mono ?_; rintro e w' ⟨rfl, rfl⟩; rw [show pwn 1074 = 1 from rfl])
    go_ret
    exact ⟨rfl, rfl⟩
  · have e1 : bits .and .u64 2048 2047 = 0 := by kernel_rfl
    have e2 : bits .and .u64 9223372036854775808 4503599627370495 = 0 := by kernel_rfl
    show Calls Try.prog 10 #[.int .u64 (9223372036854775808 : Int)] w fun e w' => e = .returned (.float .f64 9223372036854775808) ∧ w = w'
    go_enter Try.func10, Try.ntmps10
    go_wp2_with (go_at_call 22; refine (pow2_neg 1074 (by decide) _).mono ?_; rintro e w' ⟨rfl, rfl⟩; rw [show pwn 1074 = 1 from rfl])
    go_ret
    exact ⟨rfl, rfl⟩
end Go.Proofs.Qxb6613183a

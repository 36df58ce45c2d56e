/- Plain facts on IEEE doubles: no Go in sight. -/
import Derived.Laws.FloatArith
import Derived.KernelRfl
namespace Go.Proofs.Qxb6613183a
open Ieee

theorem d_binade : double.binade = 4503599627370496 := rfl
theorem d_sign : double.signWeight = 9223372036854775808 := rfl
theorem d_inf : double.infRung = 9218868437227405312 := rfl
theorem d_least : double.leastPlace = -1074 := rfl
theorem d_frac : double.fractionBits = 52 := rfl

/-- The word of a sign and a rung of a double. -/
def dw (s : Bool) (rung : Nat) : Nat := if s then 9223372036854775808 + rung else rung
theorem dw_word (s : Bool) (rung : Nat) : double.word s rung = dw s rung := rfl
theorem dw_lt {s : Bool} {rung : Nat} (h : rung < 9223372036854775808) : dw s rung < 18446744073709551616 := by unfold dw; split <;> omega

theorem read_dw (s : Bool) (rung : Nat) (h : rung < 9223372036854775808) : double.read (dw s rung) =
    if rung < 4503599627370496 then .number s rung (-1074)
    else if rung < 9218868437227405312 then .number s (4503599627370496 + rung % 4503599627370496) (-1074 + (rung / 4503599627370496 - 1 : Nat))
    else if rung = 9218868437227405312 then .infinity s else .nan s (rung - 9218868437227405312) := by
  have h1 : dw s rung % 9223372036854775808 = rung := by unfold dw; split <;> omega
  have h2 : (dw s rung / 9223372036854775808 % 2 == 1) = s := by
    unfold dw
    cases s
    · have : rung / 9223372036854775808 = 0 := by omega
      simp [this]
    · have : (9223372036854775808 + rung) / 9223372036854775808 = 1 := by omega
      simp [this]
  unfold Format.read
  simp only [d_binade, d_sign, d_inf, d_least, h1, h2]

/-- A normal number. -/
theorem read_norm (s : Bool) (E K : Nat) (hK : 4503599627370496 ≤ K) (hK2 : K < 9007199254740992) (hE : E ≤ 2045) :
    double.read (dw s (E * 4503599627370496 + K)) = .number s K (-1074 + E) := by
  rw [read_dw _ _ (by omega), if_neg (by omega), if_pos (by omega)]
  have h1 : (E * 4503599627370496 + K) % 4503599627370496 = K - 4503599627370496 := by omega
  have h2 : (E * 4503599627370496 + K) / 4503599627370496 = E + 1 := by omega
  rw [h1, h2, show 4503599627370496 + (K - 4503599627370496) = K by omega, show E + 1 - 1 = E by omega]
theorem read_zero (s : Bool) : double.read (dw s 0) = .number s 0 (-1074) := by
  rw [read_dw _ _ (by omega), if_pos (by omega)]
theorem read_inf (s : Bool) : double.read (dw s 9218868437227405312) = .infinity s := by
  rw [read_dw _ _ (by omega), if_neg (by omega), if_neg (by omega), if_pos rfl]

theorem cut_zero (s : Bool) (n : Nat) : Toward.even.cut s n 0 = n := by
  simp [Toward.cut]
  rw [Nat.mod_one]; simp

theorem shift_eq (m n : Nat) : m <<< n = m * 2 ^ n := Nat.shiftLeft_eq m n

/-- A number of at most 53 digits, in the normal range, is its own nearest. -/
theorem near_exact (s : Bool) (m : Nat) (p : Int) (hm : m ≠ 0) (hl : m.log2 ≤ 52) (h1 : -1022 ≤ p + m.log2) (h2 : p + m.log2 ≤ 1023) :
    double.nearest s m p = dw s ((p + m.log2 + 1022).toNat * 4503599627370496 + m * 2 ^ (52 - m.log2)) ∧ 4503599627370496 ≤ m * 2 ^ (52 - m.log2) ∧ m * 2 ^ (52 - m.log2) < 9007199254740992 := by
  have ha := Nat.log2_self_le hm
  have hb : m < 2 ^ (m.log2 + 1) := Nat.lt_log2_self
  have hn : double.nearest s m p = double.word s (min ((max (p + m.log2 - (52 : Nat)) (-1074) - (-1074)).toNat * 4503599627370496 + Toward.even.cut s (m <<< (p - max (p + m.log2 - (52 : Nat)) (-1074)).toNat) (max (p + m.log2 - (52 : Nat)) (-1074) - p).toNat) 9218868437227405312) := by
    unfold Format.nearest
    rw [if_neg hm]
    simp only [d_frac, d_least, d_binade, d_inf]
  rw [hn]
  clear hn
  generalize m.log2 = l at *
  have e1 : 2 ^ l * 2 ^ (52 - l) = 4503599627370496 := by rw [← Nat.pow_add, show l + (52 - l) = 52 by omega]
  have e2 : 2 ^ (l + 1) * 2 ^ (52 - l) = 9007199254740992 := by rw [← Nat.pow_add, show l + 1 + (52 - l) = 53 by omega]
  have hp : 0 < 2 ^ (52 - l) := Nat.two_pow_pos _
  have b1 : 4503599627370496 ≤ m * 2 ^ (52 - l) := by rw [← e1]; exact Nat.mul_le_mul_right _ ha
  have b2 : m * 2 ^ (52 - l) < 9007199254740992 := by rw [← e2]; exact Nat.mul_lt_mul_of_pos_right hb hp
  refine ⟨?_, b1, b2⟩
  have hmax : max (p + (l : Int) - ((52 : Nat) : Int)) (-1074) = p + l - 52 := by omega
  rw [hmax]
  have t1 : (p - (p + l - 52)).toNat = 52 - l := by omega
  have t2 : (p + l - 52 - p).toNat = 0 := by omega
  have t3 : (p + l - 52 - -1074).toNat = (p + l + 1022).toNat := by omega
  rw [t1, t2, t3, cut_zero, shift_eq, dw_word, Nat.min_eq_left]
  have : (p + l + 1022).toNat ≤ 2045 := by omega
  omega

theorem log2_eq {m l : Nat} (h1 : 2 ^ l ≤ m) (h2 : m < 2 ^ (l + 1)) : m.log2 = l := by
  have hm : m ≠ 0 := by have := Nat.two_pow_pos l; omega
  have a : l ≤ m.log2 := (Nat.le_log2 hm).2 h1
  have b : m.log2 < l + 1 := (Nat.log2_lt hm).2 h2
  omega

/-- K of 53 digits behind whose last 52 noughts stand: rounded, K. -/
theorem near_drop (K : Nat) (p : Int) (hK : 4503599627370496 ≤ K) (hK2 : K < 9007199254740992) (h1 : -1074 ≤ p + 52) (h2 : p + 52 ≤ 971) :
    double.nearest false (K * 4503599627370496) p = dw false ((p + 52 + 1074).toNat * 4503599627370496 + K) := by
  have hm : K * 4503599627370496 ≠ 0 := by omega
  have hl : (K * 4503599627370496).log2 = 104 := log2_eq (by simp only [Nat.reducePow]; omega) (by simp only [Nat.reduceAdd, Nat.reducePow]; omega)
  unfold Format.nearest
  rw [if_neg hm]
  simp only [d_frac, d_least, d_binade, d_inf, hl]
  have hmax : max (p + ((104 : Nat) : Int) - ((52 : Nat) : Int)) (-1074) = p + 52 := by omega
  rw [hmax]
  have t1 : (p - (p + 52)).toNat = 0 := by omega
  have t2 : (p + 52 - p).toNat = 52 := by omega
  have t3 : (p + 52 - -1074).toNat = (p + 52 + 1074).toNat := by omega
  have hc : Toward.even.cut false (K * 4503599627370496) 52 = K := by
    unfold Toward.cut
    simp only [hl]
    rw [show (1 : Nat) <<< min 52 (104 + 2) = 4503599627370496 from rfl]
    have d1 : K * 4503599627370496 / 4503599627370496 = K := by omega
    have d2 : K * 4503599627370496 % 4503599627370496 = 0 := by omega
    rw [d1, d2]
    rfl
  rw [t1, t2, t3, Nat.shiftLeft_zero, hc, dw_word, Nat.min_eq_left]
  have : (p + 52 + 1074).toNat ≤ 2045 := by omega
  omega

/-- A normal number times a power of two, the product normal: exact. -/
theorem mul_pow (E K F : Nat) (hK : 4503599627370496 ≤ K) (hK2 : K < 9007199254740992) (hE : E ≤ 2045) (hF : F ≤ 2045) (h1 : 1022 ≤ E + F) (h2 : E + F ≤ 3067) :
    double.mul (E * 4503599627370496 + K) (F * 4503599627370496 + 4503599627370496) = some ((E + F - 1022) * 4503599627370496 + K) := by
  have r1 := read_norm false E K hK hK2 hE
  have r2 := read_norm false F 4503599627370496 (Nat.le_refl _) (by decide) hF
  unfold dw at r1 r2
  simp only [Bool.false_eq_true, if_false] at r1 r2
  unfold Format.mul
  rw [r1, r2]
  simp only [Datum.product, Option.map_some, Format.write, Bool.xor_false]
  rw [near_drop K _ hK hK2 (by omega) (by omega)]
  have e : ((-1074 : Int) + E + (-1074 + F) + 52 + 1074).toNat = E + F - 1022 := by omega
  rw [e]
  rfl

/-! ### zzPow2's numbers -/
/-- The bits of 2^-i, i up to 1074. -/
def pwn (i : Nat) : Nat := if i ≤ 1022 then (1023 - i) * 4503599627370496 else 2 ^ (1074 - i)
set_option maxRecDepth 100000 in
theorem halves_all : ((List.range 1074).all fun i => decide (double.div (pwn i) 4611686018427387904 = some (pwn (i + 1)))) = true := by kernel_rfl
theorem half (i : Nat) (h : i < 1074) : double.div (pwn i) 4611686018427387904 = some (pwn (i + 1)) := by
  have := List.all_eq_true.1 halves_all i (by simpa using h)
  simpa using this
theorem twice (i : Nat) (h : i ≤ 1000) : double.mul ((1023 + i) * 4503599627370496) 4611686018427387904 = some ((1024 + i) * 4503599627370496) := by
  have := mul_pow (1022 + i) 4503599627370496 1023 (Nat.le_refl _) (by decide) (by omega) (by decide) (by omega) (by omega)
  rw [show (1022 + i) * 4503599627370496 + 4503599627370496 = (1023 + i) * 4503599627370496 by omega] at this
  rw [show (1022 + i + 1023 - 1022) * 4503599627370496 + 4503599627370496 = (1024 + i) * 4503599627370496 by omega] at this
  exact this

/-! ### the widening of a float32 -/
/-- What a float32 that is no NaN widens to: an infinity; a zero; a normal double. -/
def Wide (x r : Nat) : Prop :=
  ∃ s : Bool, (r = dw s 9218868437227405312 ∧ single.read x = .infinity s) ∨ (r = dw s 0 ∧ ∃ p, single.read x = .number s 0 p) ∨
    (∃ E K, r = dw s (E * 4503599627370496 + K) ∧ 4503599627370496 ≤ K ∧ K < 9007199254740992 ∧ 873 ≤ E ∧ E ≤ 1149 ∧ ∃ m p, single.read x = .number s m p)

theorem read_single (x : Nat) : (∃ s, single.read x = .infinity s) ∨ (∃ s f, single.read x = .nan s f) ∨ ∃ s m p, single.read x = .number s m p ∧ m < 16777216 ∧ -149 ≤ p ∧ p ≤ 104 := by
  have e : single.read x = if x % 2147483648 < 8388608 then .number (x / 2147483648 % 2 == 1) (x % 2147483648) (-149)
      else if x % 2147483648 < 2139095040 then .number (x / 2147483648 % 2 == 1) (8388608 + x % 2147483648 % 8388608) (-149 + (x % 2147483648 / 8388608 - 1 : Nat))
      else if x % 2147483648 = 2139095040 then .infinity (x / 2147483648 % 2 == 1) else .nan (x / 2147483648 % 2 == 1) (x % 2147483648 - 2139095040) := rfl
  rw [e]
  by_cases h1 : x % 2147483648 < 8388608
  · rw [if_pos h1]; exact .inr (.inr ⟨_, _, _, rfl, by omega, by omega, by omega⟩)
  · rw [if_neg h1]
    by_cases h2 : x % 2147483648 < 2139095040
    · rw [if_pos h2]; exact .inr (.inr ⟨_, _, _, rfl, by omega, by omega, by omega⟩)
    · rw [if_neg h2]
      by_cases h3 : x % 2147483648 = 2139095040
      · rw [if_pos h3]; exact .inl ⟨_, rfl⟩
      · rw [if_neg h3]; exact .inr (.inl ⟨_, _, rfl⟩)

theorem widen (x : Nat) (hn : (single.read x).isNaN = false) : ∃ r, floatToFloatBits .f32 x .f64 = some r ∧ Wide x r := by
  unfold floatToFloatBits
  rw [if_neg (by decide)]
  rcases read_single x with ⟨s, h⟩ | ⟨s, f, h⟩ | ⟨s, m, p, h, hm, hp1, hp2⟩
  · rw [show FloatKind.f32.decode x = .infinity s from h]
    exact ⟨_, rfl, s, .inl ⟨rfl, h⟩⟩
  · rw [h] at hn; cases hn
  · rw [show FloatKind.f32.decode x = .number s m p from h]
    by_cases h0 : m = 0
    · subst h0
      have hw : FloatKind.f64.encode (.number s 0 p) = dw s 0 := rfl
      have hd : (FloatKind.f64.decode (dw s 0)).isInfinity = false := by
        rw [show FloatKind.f64.decode (dw s 0) = .number s 0 (-1074) from read_zero s]; rfl
      simp only [hw, hd]
      exact ⟨_, rfl, s, .inr (.inl ⟨rfl, p, h⟩)⟩
    · have hlm : m.log2 < 24 := (Nat.log2_lt h0).2 (by omega)
      obtain ⟨e, b1, b2⟩ := near_exact s m p h0 (by omega) (by omega) (by omega)
      have hw : FloatKind.f64.encode (.number s m p) = dw s ((p + m.log2 + 1022).toNat * 4503599627370496 + m * 2 ^ (52 - m.log2)) := e
      have hE : (p + m.log2 + 1022).toNat ≤ 2045 := by omega
      have hd : (FloatKind.f64.decode (dw s ((p + m.log2 + 1022).toNat * 4503599627370496 + m * 2 ^ (52 - m.log2)))).isInfinity = false := by
        rw [show FloatKind.f64.decode _ = _ from read_norm s _ _ b1 b2 hE]; rfl
      simp only [hw, hd]
      exact ⟨_, rfl, s, .inr (.inr ⟨_, _, rfl, b1, b2, by omega, by omega, m, p, h⟩)⟩

/-! ### order -/
theorem signed_self {s t : Bool} {m n a b : Nat} (h1 : s = t) (h2 : m = n) (h3 : a = b) : compare (signed s m a) (signed t n b) = .eq := by
  subst h1; subst h2; subst h3
  exact Int.compare_eq_eq.2 rfl
theorem order_self {d : Datum} (h : d.isNaN = false) : d.order d = some .eq := by
  cases d with
  | number s m p => simp only [Datum.order]; rw [signed_self rfl rfl rfl]
  | infinity s => cases s <;> rfl
  | nan s f => cases h
theorem order_nan {d : Datum} (h : d.isNaN = true) : d.order d = none := by
  cases d with
  | number s m p => cases h
  | infinity s => cases h
  | nan s f => rfl

theorem ord_inf (s : Bool) : double.order (dw s 9218868437227405312) 0 = some (if s then .lt else .gt) := by
  cases s <;> rfl
theorem ord_zero (s : Bool) : double.order (dw s 0) 0 = some .eq := by
  cases s <;> rfl
theorem ord_norm (s : Bool) (E K : Nat) (hK : 4503599627370496 ≤ K) (hK2 : K < 9007199254740992) (hE : E ≤ 2045) :
    double.order (dw s (E * 4503599627370496 + K)) 0 = some (if s then .lt else .gt) := by
  unfold Format.order
  rw [read_norm s E K hK hK2 hE, show (0 : Nat) = dw false 0 from rfl, read_zero]
  simp only [Datum.order]
  have hmin : min ((-1074 : Int) + E) (-1074) = -1074 := by omega
  rw [hmin]
  have t1 : ((-1074 : Int) + E - -1074).toNat = E := by omega
  rw [t1]
  unfold signed
  have hp : 0 < K <<< E := by rw [shift_eq]; exact Nat.mul_pos (by omega) (Nat.two_pow_pos _)
  generalize K <<< E = k at *
  have z : (0 : Nat) <<< ((-1074 : Int) - -1074).toNat = 0 := rfl
  rw [z]
  cases s
  · have : compare ((k : Nat) : Int) (0 : Int) = .gt := Int.compare_eq_gt.2 (by omega)
    simp [this]
  · have : compare (-((k : Nat) : Int)) (0 : Int) = .lt := Int.compare_eq_lt.2 (by omega)
    simp [this]
theorem inv_zero (s : Bool) : double.div 4607182418800017408 (dw s 0) = some (dw s 9218868437227405312) := by
  cases s <;> kernel_rfl
theorem ord_max : double.order (dw false 9218868437227405312) 9218868437227405311 = some .gt := by kernel_rfl
theorem ord_min : double.order (dw true 9218868437227405312) 9218868437227405311 = some .lt := by kernel_rfl
theorem ord_min2 : double.order (dw true 9218868437227405312) 18442240474082181119 = some .lt := by kernel_rfl

/-! ### fields of a word -/
theorem bit_dw {s : Bool} {rung : Nat} (h : rung < 9223372036854775808) : dw s rung / 9223372036854775808 = if s then 1 else 0 := by
  unfold dw; cases s
  · simp only [Bool.false_eq_true, if_false]; omega
  · simp only [if_true]; omega
theorem exp_dw {s : Bool} {E F : Nat} (hE : E < 2048) (hF : F < 4503599627370496) : dw s (E * 4503599627370496 + F) / 4503599627370496 % 2048 = E := by
  unfold dw; cases s
  · simp only [Bool.false_eq_true, if_false]; omega
  · simp only [if_true]; omega
theorem frac_dw {s : Bool} {E F : Nat} (hF : F < 4503599627370496) : dw s (E * 4503599627370496 + F) % 4503599627370496 = F := by
  unfold dw; cases s
  · simp only [Bool.false_eq_true, if_false]; omega
  · simp only [if_true]; omega
end Go.Proofs.Qxb6613183a

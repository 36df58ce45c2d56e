/- zzUvarint, zzField. -/
import Derived.Test.Qxb6614035aRead
import Derived.Laws.BitsAllLaws
namespace Go.Proofs.Qxb6614035a
open Go.RowKit

theorem wrapU (a : Nat) (ha : a < 18446744073709551616) : IntKind.u64.wrap (a : Int) = (a : Int) := by
  simp only [IntKind.wrap, IntKind.bits, IntKind.signed]
  simp
  omega
theorem p7 (k : Nat) : 2 ^ (7 * k) = 128 ^ k := by rw [Nat.pow_mul]
/-- the next seven bits, from below -/
theorem orLaw (k z X Y : Nat) (hX : X < 128 ^ k) (hY : 128 ^ k * z + X = Y) (h : Y < 18446744073709551616) :
    bits .or .u64 (X : Int) (IntKind.u64.wrap ((z : Int) * 2 ^ (7 * k))) = (Y : Int) := by
  have hp : 1 ≤ 128 ^ k := Nat.pow_pos (by decide)
  rw [show ((z : Int) * 2 ^ (7 * k)) = ((2 ^ (7 * k) * z : Nat) : Int) by rw [Int.natCast_mul, Int.mul_comm, Int.natCast_pow]; rfl, p7, wrapU _ (by omega), u64_or_nat _ _ (by omega) (by omega), Nat.or_comm, ← p7,
    ← Nat.two_pow_add_eq_or_of_lt (by rw [p7]; exact hX), p7, hY]
set_option maxRecDepth 100000 in
theorem and_nat : ∀ n : Fin 128, (n.val + 128) &&& 127 = n.val := by decide
theorem and_lo (z : Nat) : bits .and .u8 ((z % 128 + 128 : Nat) : Int) 127 = ((z % 128 : Nat) : Int) := by
  rw [show (127 : Int) = ((127 : Nat) : Int) from rfl, u8_and_nat _ _ (by omega) (by decide), and_nat ⟨z % 128, by omega⟩]

theorem y9 {y : Nat} (h : y < 18446744073709551616) : y / 128 ^ 9 ≤ 1 := by
  simp only [Nat.reducePow]; omega

set_option maxRecDepth 1000000 in
set_option maxHeartbeats 1000000 in
theorem rdUv (a1 : Option Addr) (E : List Int) (n1 c1 o y : Nat) (w : World) (h1 : E.length = n1) (hE : Src w a1 E) (hA : At E o (uv y)) (hy : y < 18446744073709551616) (hl : n1 ≤ 1000000000) :
    Calls Try.prog 20 #[.slice a1 n1 c1, .int .i64 o] w fun e w' => e = .returned (.tuple #[.int .u64 y, .int .i64 (o + (uv y).length : Nat), .bool true]) ∧ Below w.heap.size w w' := by
  have HE : Hid (Src w a1 E) := hE
  have HA : Hid (At E o (uv y)) := hA
  have HY : Hid (y < 18446744073709551616) := hy
  clear hE hA hy
  go_enter Try.func20, Try.ntmps20
  go_wp2
  go_loopw [1, 7, 8, 9] (fun i x s k wr => ∃ k' X z : Nat, k' ≤ 9 ∧ i = .int .i64 (o + k' : Nat) ∧ x = .int .u64 X ∧ s = .int .u64 (7 * k' : Nat) ∧ k = .int .i64 k' ∧ Below w.heap.size w wr ∧
      Hid (X = y % 128 ^ k' ∧ z = y / 128 ^ k' ∧ At E (o + k') (uvb (10 - k') z) ∧ k' + (uvb (10 - k') z).length = (uv y).length ∧ (0 < k' → 0 < z))) (fun _ _ _ k _ => 10 - (intOf k).toNat)
  case atStart => exact ⟨0, 0, y, Nat.zero_le _, rfl, rfl, rfl, rfl, Below.refl _ _, by simp [Nat.mod_one], by simp, HA.out, by show 0 + (uvb 10 y).length = _; rw [Nat.zero_add]; rfl, fun h => absurd h (by omega)⟩
  case round =>
    obtain ⟨k, X, z, hk, rfl, rfl, rfl, rfl, hb, H⟩ := hrel
    have HZ : Hid (X < 128 ^ k ∧ 128 ^ k * z + X = y) := by
      obtain ⟨r1, r2, -⟩ := H.out
      exact ⟨r1 ▸ Nat.mod_lt _ (Nat.pow_pos (by decide)), by rw [r1, r2]; exact Nat.div_add_mod _ _⟩
    have h9 : k = 9 → z ≤ 1 := fun e => by
      obtain ⟨-, r2, -⟩ := H.out
      rw [r2, e]; exact y9 HY.out
    have h0 : 0 < k → 0 < z := H.out.2.2.2.2
    by_cases hlt : z < 128
    · have hu : uvb (10 - k) z = [(z : Int)] := by
        rw [show 10 - k = (9 - k) + 1 by omega]
        simp [uvb, hlt]
      have hx : E[o + k]? = some (z : Int) := by
        have := H.out.2.2.1 0 (z : Int) (by rw [hu]; rfl)
        simpa using this
      have hlen : (uv y).length = k + 1 := by
        have := H.out.2.2.2.1
        rw [hu] at this
        exact this.symm
      have hb1 : Hid _ := H
      have HO : Hid (bits .or .u64 (X : Int) (IntKind.u64.wrap ((z : Int) * 2 ^ (7 * k))) = (y : Int)) := orLaw k z X y HZ.out.1 HZ.out.2 HY.out
      obtain ⟨g1, o1, rfl, q1⟩ := HE.out.get hb hx
      have hn : o + k < n1 := by rw [← h1]; exact (List.getElem?_eq_some_iff.1 hx).1
      clear hu hx
      have HLn : Hid _ := hlen
      clear hlen
      by_cases hk9 : k = 9
      · have hz1 : z = 1 := by have := h9 hk9; have := h0 (by omega); omega
        subst hk9 hz1
        clear h9 h0 hb1
        have e : bits .or .u64 (X : Int) 9223372036854775808 = (y : Int) := by
          have e2 : IntKind.u64.wrap (((1 : Nat) : Int) * 2 ^ (7 * 9)) = 9223372036854775808 := by decide +kernel
          have := HO.out
          rw [e2] at this
          exact this
        go_wp2
        refine bodyPost_ret (v := .tuple #[.int .u64 y, .int .i64 ((o : Int) + 9 + 1), .bool true]) (by simp [results, Try.results20, go_sem]) rfl ⟨?_, hb⟩
        have hh := HLn.out
        rw [hh]
        push_cast
        rfl
      · clear h9
        by_cases hz0 : z = 0
        · have hk0 : k = 0 := by
            rcases Nat.eq_zero_or_pos k with h | h
            · exact h
            · have := h0 h; omega
          subst hz0 hk0
          clear h0 hk9
          have e : bits .or .u64 (X : Int) 0 = (y : Int) := by
            have e2 : IntKind.u64.wrap (((0 : Nat) : Int) * 2 ^ (7 * 0)) = 0 := by decide +kernel
            have := HO.out
            rw [e2] at this
            exact this
          simp at q1 hn
          go_wp2
          refine bodyPost_ret (v := .tuple #[.int .u64 y, .int .i64 ((o : Int) + 1), .bool true]) (by simp [results, Try.results20, go_sem]) rfl ⟨?_, hb⟩
          have hh := HLn.out
          rw [hh]
          push_cast
          rfl
        · clear h0
          have hz0' : (z : Int) ≠ 0 := by omega
          have e := HO.out
          go_wp2
          refine bodyPost_ret (v := .tuple #[.int .u64 y, .int .i64 ((o : Int) + k + 1), .bool true]) (by simp [results, Try.results20, go_sem]) rfl ⟨?_, hb⟩
          have hh := HLn.out
          rw [hh]
          push_cast
          rfl
    · have hk9 : k ≤ 8 := by
        rcases Nat.lt_or_ge k 9 with h | h
        · omega
        · have := h9 (by omega); omega
      have hu : uvb (10 - k) z = ((z % 128 + 128 : Nat) : Int) :: uvb (10 - (k + 1)) (z / 128) := by
        rw [show 10 - k = (9 - k) + 1 by omega, show 10 - (k + 1) = 9 - k by omega]
        simp [uvb, hlt]
      have hx : E[o + k]? = some ((z % 128 + 128 : Nat) : Int) := by
        have := H.out.2.2.1 0 ((z % 128 + 128 : Nat) : Int) (by rw [hu]; rfl)
        simpa using this
      obtain ⟨g1, o1, rfl, q1⟩ := HE.out.get hb hx
      have hn : o + k < n1 := by rw [← h1]; exact (List.getElem?_eq_some_iff.1 hx).1
      have HN : Hid ((128 ^ k * (z % 128) + X : Nat) = y % 128 ^ (k + 1) ∧ z / 128 = y / 128 ^ (k + 1) ∧ At E (o + (k + 1)) (uvb (10 - (k + 1)) (z / 128)) ∧ k + 1 + (uvb (10 - (k + 1)) (z / 128)).length = (uv y).length ∧ (0 < k + 1 → 0 < z / 128)) := by
        obtain ⟨r1, r2, r3, r4, -⟩ := H.out
        rw [hu] at r3 r4
        refine ⟨?_, ?_, ?_, ?_, fun _ => by omega⟩
        · rw [Nat.pow_succ, Nat.mod_mul, ← r1, ← r2, Nat.add_comm]
        · rw [Nat.pow_succ, ← Nat.div_div_eq_div_mul, ← r2]
        · have := At.right (P := [((z % 128 + 128 : Nat) : Int)]) r3
          exact this
        · rw [List.length_cons] at r4; omega
      have HO : Hid (bits .or .u64 (X : Int) (IntKind.u64.wrap (((z % 128 : Nat) : Int) * 2 ^ (7 * k))) = ((128 ^ k * (z % 128) + X : Nat) : Int)) := orLaw k (z % 128) X _ HZ.out.1 rfl (by
        have := HZ.out.2
        have := HY.out
        have : 128 ^ k * (z % 128) ≤ 128 ^ k * z := Nat.mul_le_mul_left _ (Nat.mod_le _ _)
        omega)
      have ha : bits .and .u8 (((z % 128 : Nat) : Int) + 128) 127 = ((z % 128 : Nat) : Int) := and_lo z
      obtain ⟨X', hX'⟩ : ∃ X', X' = 128 ^ k * (z % 128) + X := ⟨_, rfl⟩
      rw [← hX'] at HN HO
      obtain ⟨z', hz'⟩ : ∃ z', z' = z % 128 := ⟨_, rfl⟩
      have hz2 : z' < 128 := by omega
      rw [← hz'] at HO ha q1
      have HHz : Hid _ := hz'
      have hk9' : k ≠ 9 := by omega
      have e := HO.out
      clear hu hx hX' hz' h9 h0 hlt H
      go_wp2
      go_roundw
      case rel => exact ⟨k + 1, X', z / 128, by omega, by go_num, rfl, by go_num, by go_num, hb, HN.out⟩
      case measure => simp [intOf]; omega

set_option maxRecDepth 1000000 in
set_option maxHeartbeats 1000000 in
theorem rdField (a1 : Option Addr) (E L : List Int) (n1 c1 o : Nat) (w : World) (h1 : E.length = n1) (hE : Src w a1 E) (hA : At E o (pre L)) (hL : L.length ≤ 131072) (hle : o + (pre L).length ≤ n1) (hl : n1 ≤ 1000000000) :
    Calls Try.prog 11 #[.slice a1 n1 c1, .int .i64 o] w fun e w' => e = .returned (.tuple #[.int .i64 (o + (uv L.length).length : Nat), .int .i64 (o + (pre L).length : Nat), .bool true]) ∧ Below w.heap.size w w' := by
  have HC : Hid (Calls Try.prog 20 #[.slice a1 n1 c1, .int .i64 o] w fun e w' => e = .returned (.tuple #[.int .u64 L.length, .int .i64 (o + (uv L.length).length : Nat), .bool true]) ∧ Below w.heap.size w w') :=
    rdUv a1 E n1 c1 o L.length w h1 hE (At.left hA) (by omega) hl
  obtain ⟨m, hm⟩ : ∃ m, m = L.length := ⟨_, rfl⟩
  obtain ⟨u, hu⟩ : ∃ u, u = o + (uv L.length).length := ⟨_, rfl⟩
  have hpl : o + (pre L).length = u + m := by unfold pre; rw [List.length_append, hu, hm]; omega
  rw [← hu, ← hm] at HC
  rw [hpl] at hle
  rw [hpl, ← hu]
  rw [← hm] at hL
  clear hE hA hm hu hpl
  go_enter Try.func11, Try.ntmps11
  go_wp2_with fail
  refine HC.out.mono ?_
  rintro e w1 ⟨rfl, hb⟩
  go_wp2
  refine bodyPost_ret (v := .tuple #[.int .i64 u, .int .i64 (u + m : Nat), .bool true]) (by simp [results, Try.results11, go_sem]) rfl ⟨rfl, hb⟩
end Go.Proofs.Qxb6614035a

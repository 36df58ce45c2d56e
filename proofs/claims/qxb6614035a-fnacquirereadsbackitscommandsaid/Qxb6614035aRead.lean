/- The law's readers: zzHasAt, zzEqStr, zzEqBytes. -/
import Derived.Test.Qxb6614035aPref
namespace Go.Proofs.Qxb6614035a
open Go.RowKit

/-- A slice's elements. -/
def Src (w : World) (a : Option Addr) (L : List Int) : Prop :=
  L = [] ∨ ∃ g off, a = some ⟨g, off, none⟩ ∧ g < w.heap.size ∧ ∀ i x, L[i]? = some x → w.cell? ⟨g, off + i, none⟩ = some (.int .u8 x)
theorem Src.below {w w' : World} {a : Option Addr} {L : List Int} (h : Src w a L) (hb : Below w.heap.size w w') : Src w' a L := by
  rcases h with h | ⟨g, off, e, hg, hc⟩
  · exact .inl h
  · exact .inr ⟨g, off, e, Nat.lt_of_lt_of_le hg hb.size, fun i x hx => (hb.cell (p := ⟨g, off + i, none⟩) hg).trans (hc i x hx)⟩
/-- What the walk needs of one element. -/
theorem Src.get {w wr : World} {a : Option Addr} {L : List Int} {i : Nat} {x : Int} (h : Src w a L) (hb : Below w.heap.size w wr) (hx : L[i]? = some x) :
    ∃ g off, a = some ⟨g, off, none⟩ ∧ wr.cell? ⟨g, off + i, none⟩ = some (.int .u8 x) := by
  rcases h with h | ⟨g, off, e, hg, hc⟩
  · rw [h] at hx; cases hx
  · exact ⟨g, off, e, (hb.cell (p := ⟨g, off + i, none⟩) hg).trans (hc i x hx)⟩

/-- P stands in E from o on. -/
def At (E : List Int) (o : Nat) (P : List Int) : Prop := ∀ i x, P[i]? = some x → E[o + i]? = some x
theorem At.left {E : List Int} {o : Nat} {P Q : List Int} (h : At E o (P ++ Q)) : At E o P := fun i x hx => h i x (by rw [List.getElem?_append_left (List.getElem?_eq_some_iff.1 hx).1]; exact hx)
theorem At.right {E : List Int} {o : Nat} {P Q : List Int} (h : At E o (P ++ Q)) : At E (o + P.length) Q := fun i x hx => by
  have := h (P.length + i) x (by rw [List.getElem?_append_right (by omega), show P.length + i - P.length = i by omega]; exact hx)
  rw [Nat.add_assoc]; exact this
theorem At.self (E : List Int) : At E 0 E := fun i x hx => by rw [Nat.zero_add]; exact hx

theorem below_drewN {B : Nat} {a w : World} (h : Below B a w) (n : Nat) : Below B a (w.drewN n) := ⟨h.os, h.tape, h.output, h.size, h.block⟩
theorem str_get {s : ByteArray} {k : Nat} (hk : k < s.size) : (strL s)[k]? = some ((s[k].toNat : Nat) : Int) := by
  have hl : k < s.data.toList.length := by simpa using hk
  unfold strL
  rw [List.getElem?_map, List.getElem?_eq_getElem hl]
  rfl

set_option maxRecDepth 1000000 in
set_option maxHeartbeats 1000000 in
theorem hasAt (a1 a2 : Option Addr) (E P : List Int) (n1 n2 c1 c2 o : Nat) (w : World) (h1 : E.length = n1) (h2 : P.length = n2) (hE : Src w a1 E) (hP : Src w a2 P) (hA : At E o P) (hle : o + n2 ≤ n1) (hl : n1 ≤ 1000000000) :
    Calls Try.prog 10 #[.slice a1 n1 c1, .int .i64 o, .slice a2 n2 c2] w fun e w' => e = .returned (.bool true) ∧ Below w.heap.size w w' := by
  have HE : Hid (Src w a1 E) := hE
  have HP : Hid (Src w a2 P) := hP
  have HA : Hid (At E o P) := hA
  clear hE hP hA
  go_enter Try.func10, Try.ntmps10
  go_wp2
  go_loopw [7] (fun i wr => ∃ k : Nat, k ≤ n2 ∧ i = .int .i64 k ∧ Below w.heap.size w wr) (fun i _ => n2 - (intOf i).toNat)
  case atStart => exact ⟨0, Nat.zero_le _, rfl, Below.refl _ _⟩
  case round =>
    obtain ⟨k, hk, rfl, hb⟩ := hrel
    by_cases hlt : k < n2
    · have hx : P[k]? = some P[k] := List.getElem?_eq_getElem (by omega)
      generalize P[k] = x at *
      obtain ⟨g1, o1, rfl, q1⟩ := HE.out.get hb (HA.out k x hx)
      obtain ⟨g2, o2, rfl, q2⟩ := HP.out.get hb hx
      clear hx
      go_wp2
      go_quiet (fail)
      go_wp2
      go_roundw
      case rel => exact ⟨k + 1, by omega, by go_num, below_drewN hb _⟩
      case measure => simp [intOf]; omega
    · go_wp2
      go_ret
      exact ⟨rfl, hb⟩

set_option maxRecDepth 1000000 in
set_option maxHeartbeats 1000000 in
theorem eqBytes (a1 a2 : Option Addr) (E P : List Int) (n1 n2 c1 c2 o t : Nat) (w : World) (h1 : E.length = n1) (h2 : P.length = n2) (hE : Src w a1 E) (hP : Src w a2 P) (hA : At E o P) (hle : o + n2 ≤ n1) (hl : n1 ≤ 1000000000) (ht : t = o + n2) :
    Calls Try.prog 19 #[.slice a1 n1 c1, .int .i64 o, .int .i64 t, .slice a2 n2 c2] w fun e w' => e = .returned (.bool true) ∧ Below w.heap.size w w' := by
  subst ht
  have HE : Hid (Src w a1 E) := hE
  have HP : Hid (Src w a2 P) := hP
  have HA : Hid (At E o P) := hA
  clear hE hP hA
  go_enter Try.func19, Try.ntmps19
  go_wp2
  go_loopw [9] (fun i wr => ∃ k : Nat, k ≤ n2 ∧ i = .int .i64 k ∧ Below w.heap.size w wr) (fun i _ => n2 - (intOf i).toNat)
  case atStart => exact ⟨0, Nat.zero_le _, rfl, Below.refl _ _⟩
  case round =>
    obtain ⟨k, hk, rfl, hb⟩ := hrel
    by_cases hlt : k < n2
    · have hx : P[k]? = some P[k] := List.getElem?_eq_getElem (by omega)
      generalize P[k] = x at *
      obtain ⟨g1, o1, rfl, q1⟩ := HE.out.get hb (HA.out k x hx)
      obtain ⟨g2, o2, rfl, q2⟩ := HP.out.get hb hx
      clear hx
      go_wp2
      go_quiet (fail)
      go_wp2
      go_roundw
      case rel => exact ⟨k + 1, by omega, by go_num, below_drewN hb _⟩
      case measure => simp [intOf]; omega
    · go_wp2
      go_ret
      exact ⟨rfl, hb⟩

set_option maxRecDepth 1000000 in
set_option maxHeartbeats 1000000 in
theorem eqStr (a1 : Option Addr) (E : List Int) (s : ByteArray) (n1 c1 o t : Nat) (w : World) (h1 : E.length = n1) (hE : Src w a1 E) (hA : At E o (strL s)) (hle : o + s.size ≤ n1) (hl : n1 ≤ 1000000000) (ht : t = o + s.size) :
    Calls Try.prog 12 #[.slice a1 n1 c1, .int .i64 o, .int .i64 t, .string s] w fun e w' => e = .returned (.bool true) ∧ Below w.heap.size w w' := by
  subst ht
  have HE : Hid (Src w a1 E) := hE
  have HA : Hid (At E o (strL s)) := hA
  clear hE hA
  go_enter Try.func12, Try.ntmps12
  go_wp2
  go_loopw [9] (fun i wr => ∃ k : Nat, k ≤ s.size ∧ i = .int .i64 k ∧ Below w.heap.size w wr) (fun i _ => s.size - (intOf i).toNat)
  case atStart => exact ⟨0, Nat.zero_le _, rfl, Below.refl _ _⟩
  case round =>
    obtain ⟨k, hk, rfl, hb⟩ := hrel
    by_cases hlt : k < s.size
    · have hx := str_get hlt
      obtain ⟨g1, o1, rfl, q1⟩ := HE.out.get hb (HA.out k _ hx)
      clear hx
      go_wp2
      go_quiet (fail)
      go_wp2
      go_roundw
      case rel => exact ⟨k + 1, by omega, by go_num, below_drewN hb _⟩
      case measure => simp [intOf]; omega
    · go_wp2
      go_ret
      exact ⟨rfl, hb⟩

set_option maxHeartbeats 400000 in
theorem canonWait (x : Int) (w : World) : Calls Try.prog 21 #[.int .i64 x] w fun e w' => e = .returned (.int .i64 (if x < 0 then -1 else x)) ∧ w = w' := by
  by_cases h : x < 0
  · go_enter Try.func21, Try.ntmps21
    go_wp2
    go_ret
    exact ⟨by simp, rfl⟩
  · go_enter Try.func21, Try.ntmps21
    go_wp2
    go_ret
    exact ⟨by simp, rfl⟩
end Go.Proofs.Qxb6614035a

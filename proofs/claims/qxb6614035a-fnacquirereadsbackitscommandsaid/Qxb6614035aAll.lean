/- FnAcquireReadsBackItsCommand: the early returns; all inputs. -/
import Derived.Test.Qxb6614035aMainA
import Derived.Test.Qxb6614035aMainB
namespace Go.Proofs.Qxb6614035a
open Go.RowKit

set_option maxRecDepth 1000000 in
set_option maxHeartbeats 1000000 in
theorem early (s : ByteArray) (a : Option Addr) (n c : Nat) (mode wait : Int) (req : Nat) (fen : Bool) (name : ByteArray) (a' : Option Addr) (n' c' : Nat) (w : World) (h0 : s.size ≤ maxLen) (h1 : n ≤ maxLen) (h2 : name.size ≤ maxLen) (h3 : n' ≤ maxLen)
    (h : 131072 < s.size ∨ 131072 < n ∨ 131072 < name.size ∨ 131072 < n') :
    Calls Try.prog 5 #[.string s, .slice a n c, .int .u8 mode, .int .i64 wait, .int .u64 req, .bool fen, .string name, .slice a' n' c'] w fun e w' => e = .returned (.bool true) ∧ Below w.heap.size w w' := by
  have HB : Hid (Calls Try.prog 16 #[.string s, .slice a n c, .int .u8 mode, .int .i64 wait, .int .u64 req, .bool fen, .string name, .slice a' n' c'] w fun e w' => ∃ b, e = .returned (.bool b) ∧ w = w') :=
    bytes16 s a n c mode wait req fen name a' n' c' w h0 h1 h2 h3
  unfold maxLen at h0 h1 h2 h3
  go_enter Try.func5, Try.ntmps5
  go_wp2_with fail
  refine Calls.mono HB.out ?_
  rintro e w' ⟨b, rfl, rfl⟩
  cases b
  · go_wp2
    go_ret
    exact ⟨rfl, Below.refl _ _⟩
  by_cases c0 : 131072 < s.size
  · go_wp2
    go_ret
    exact ⟨rfl, Below.refl _ _⟩
  by_cases c1 : 131072 < n
  · go_wp2
    go_ret
    exact ⟨rfl, Below.refl _ _⟩
  by_cases c2 : 131072 < name.size
  · go_wp2
    go_ret
    exact ⟨rfl, Below.refl _ _⟩
  have c3 : 131072 < n' := by omega
  clear h
  go_wp2
  go_ret
  exact ⟨rfl, Below.refl _ _⟩

theorem law_any (s : ByteArray) (a : Option Addr) (n c : Nat) (L : List Int) (mode wait : Int) (req : Nat) (fen : Bool) (name : ByteArray) (a' : Option Addr) (n' c' : Nat) (T : List Int) (w : World)
    (h0 : s.size ≤ maxLen) (h1 : n ≤ maxLen) (h2 : name.size ≤ maxLen) (h3 : n' ≤ maxLen)
    (hm : L.length = n) (hL : Src w a L) (hL0 : a = none → n = 0 ∧ c = 0) (hm' : T.length = n') (hT : Src w a' T) (hT0 : a' = none → n' = 0 ∧ c' = 0)
    (hw1 : -9223372036854775808 ≤ wait) (hw2 : wait < 9223372036854775808) (hr : req < 18446744073709551616) :
    Calls Try.prog 5 #[.string s, .slice a n c, .int .u8 mode, .int .i64 wait, .int .u64 req, .bool fen, .string name, .slice a' n' c'] w fun e w' => e = .returned (.bool true) ∧ Below w.heap.size w w' := by
  by_cases h : 131072 < s.size ∨ 131072 < n ∨ 131072 < name.size ∨ 131072 < n'
  · exact early s a n c mode wait req fen name a' n' c' w h0 h1 h2 h3 h
  · cases a with
    | none =>
      obtain ⟨e1, e2⟩ := hL0 rfl
      exact main_nil s n c L mode wait req fen name a' n' c' T w hm e2 (List.eq_nil_of_length_eq_zero (by omega)) hm' hT hT0 (by omega) (by omega) (by omega) (by omega) hw1 hw2 hr
    | some x =>
      exact main_some s x n c L mode wait req fen name a' n' c' T w hm hL hm' hT hT0 (by omega) (by omega) (by omega) (by omega) hw1 hw2 hr
end Go.Proofs.Qxb6614035a

/- The small functions of the seat: contracts. -/
import Derived.Test.Qxb6613183aRows
import Derived.WalkKit
import Derived.WalkSpells
import Derived.WalkLawsBesides
import Derived.BigQuiet
import Derived.Deep.QuietTactic
namespace Go.Proofs.Qxb6613183a
open Go.RowKit

theorem cells29 : Try.prog.cellsOf 29 = 7 := by kernel_rfl
theorem cells48 : Try.prog.cellsOf 48 = 2 := by kernel_rfl

/-- The seven cells of an Arg. -/
abbrev argCells (nm : ByteArray) (nd : Bool) (kd sz : Int) (num : Int) (st : ByteArray) (x : Value) : Array Value :=
  #[.string nm, .bool nd, .int .u8 kd, .int .u8 sz, .int .u64 num, .string st, x]

set_option maxHeartbeats 400000 in
theorem newArg_any (nm : ByteArray) (nd : Bool) (num : Int) (w : World) :
    Calls Try.prog 23 #[.string nm, .bool nd, .int .u64 num] w fun e w' => e = .returned (.agg (argCells nm nd 2 64 num ⟨#[]⟩ .nilIface)) ∧ w' = w.alloc (.cells (argCells nm nd 2 64 num ⟨#[]⟩ .nilIface) 29) := by
  go_enter Try.func23, Try.ntmps23
  go_wp2
  exact bodyPost_ret (v := .agg (argCells nm nd 2 64 num ⟨#[]⟩ .nilIface)) (by simp [results, Try.results23, go_sem]) rfl ⟨rfl, rfl⟩

set_option maxHeartbeats 400000 in
theorem argFields_any (nm : ByteArray) (nd : Bool) (kd sz num : Int) (st : ByteArray) (x : Value) (w : World) :
    Calls Try.prog 6 #[.agg (argCells nm nd kd sz num st x)] w fun e w' => e = .returned (.tuple #[.string nm, .bool nd, .int .u8 kd, .int .u8 sz, .int .u64 num, .string st]) ∧ Below w.heap.size w w' := by
  go_enter Try.func6, Try.ntmps6
  go_wp2
  go_quiet (fail)
  go_wp2
  exact bodyPost_ret (v := .tuple #[.string nm, .bool nd, .int .u8 kd, .int .u8 sz, .int .u64 num, .string st]) (by simp [results, Try.results6, go_sem]) rfl ⟨rfl, below_drewN ((Below.refl _ _).alloc (Nat.le_refl _) _) _⟩

set_option maxHeartbeats 400000 in
theorem namedNum_any (nm : ByteArray) (nd : Bool) (kd sz num : Int) (st : ByteArray) (x : Value) (w : World) :
    Calls Try.prog 20 #[.agg (argCells nm nd kd sz num st x)] w fun e w' => e = .returned (.tuple #[.bool nd, .int .u64 num]) ∧ Below w.heap.size w w' := by
  go_enter Try.func20, Try.ntmps20
  go_wp2_with (go_at_call 6; refine (argFields_any _ _ _ _ _ _ _ _).mono ?_; rintro e w' ⟨rfl, hb⟩)
  go_ret2
  exact ⟨rfl, ((Below.refl _ _).alloc (Nat.le_refl _) _).trans (hb.mono (by simp))⟩

set_option maxHeartbeats 400000 in
theorem bytes_split (a : Option Addr) (len cap : Nat) (w : World) (h : len ≤ 9223372036854775807) :
    Calls Try.prog 17 #[.slice a len cap] w fun e w' => e = .returned (.bool (decide (len ≤ 1048576))) ∧ w = w' := by
  by_cases h1 : len ≤ 1048576
  · go_enter Try.func17, Try.ntmps17
    go_wp2
    go_ret
    exact ⟨by simp [h1], rfl⟩
  · go_enter Try.func17, Try.ntmps17
    go_wp2
    go_ret
    exact ⟨by simp [h1], rfl⟩
end Go.Proofs.Qxb6613183a

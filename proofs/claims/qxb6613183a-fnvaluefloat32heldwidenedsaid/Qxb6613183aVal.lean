/- Value, hold: contracts at the kinds that the laws hand over. -/
import Derived.Test.Qxb6613183aArgs
namespace Go.Proofs.Qxb6613183a
open Go.RowKit

/-! ### the type switch: one closed fact for each question that is asked -/
theorem ta_29_29 (v : Value) (w : World) : (Instr.typeAssert (.iface 29 v) 20 29 true).run Try.prog w = .ok (.tuple #[v, .bool true]) w := by kernel_rfl
theorem ta_22_29 (v : Value) (w : World) : (Instr.typeAssert (.iface 22 v) 20 29 true).run Try.prog w = .ok (.tuple #[.agg #[.string ⟨#[]⟩, .bool false, .int .u8 0, .int .u8 0, .int .u64 0, .string ⟨#[]⟩, .nilIface], .bool false]) w := by kernel_rfl
theorem ta_22_3 (v : Value) (w : World) : (Instr.typeAssert (.iface 22 v) 20 3 true).run Try.prog w = .ok (.tuple #[.int .i64 0, .bool false]) w := by kernel_rfl
theorem ta_22_61 (v : Value) (w : World) : (Instr.typeAssert (.iface 22 v) 20 61 true).run Try.prog w = .ok (.tuple #[.int .i8 0, .bool false]) w := by kernel_rfl
theorem ta_22_62 (v : Value) (w : World) : (Instr.typeAssert (.iface 22 v) 20 62 true).run Try.prog w = .ok (.tuple #[.int .i16 0, .bool false]) w := by kernel_rfl
theorem ta_22_21 (v : Value) (w : World) : (Instr.typeAssert (.iface 22 v) 20 21 true).run Try.prog w = .ok (.tuple #[.int .i32 0, .bool false]) w := by kernel_rfl
theorem ta_22_2 (v : Value) (w : World) : (Instr.typeAssert (.iface 22 v) 20 2 true).run Try.prog w = .ok (.tuple #[.int .i64 0, .bool false]) w := by kernel_rfl
theorem ta_22_33 (v : Value) (w : World) : (Instr.typeAssert (.iface 22 v) 20 33 true).run Try.prog w = .ok (.tuple #[.int .u64 0, .bool false]) w := by kernel_rfl
theorem ta_22_5 (v : Value) (w : World) : (Instr.typeAssert (.iface 22 v) 20 5 true).run Try.prog w = .ok (.tuple #[.int .u8 0, .bool false]) w := by kernel_rfl
theorem ta_22_64 (v : Value) (w : World) : (Instr.typeAssert (.iface 22 v) 20 64 true).run Try.prog w = .ok (.tuple #[.int .u16 0, .bool false]) w := by kernel_rfl
theorem ta_22_65 (v : Value) (w : World) : (Instr.typeAssert (.iface 22 v) 20 65 true).run Try.prog w = .ok (.tuple #[.int .u32 0, .bool false]) w := by kernel_rfl
theorem ta_22_24 (v : Value) (w : World) : (Instr.typeAssert (.iface 22 v) 20 24 true).run Try.prog w = .ok (.tuple #[.int .u64 0, .bool false]) w := by kernel_rfl
theorem ta_22_12 (v : Value) (w : World) : (Instr.typeAssert (.iface 22 v) 20 12 true).run Try.prog w = .ok (.tuple #[.int .u64 0, .bool false]) w := by kernel_rfl
theorem ta_22_22 (v : Value) (w : World) : (Instr.typeAssert (.iface 22 v) 20 22 true).run Try.prog w = .ok (.tuple #[v, .bool true]) w := by kernel_rfl
theorem ta_23_29 (v : Value) (w : World) : (Instr.typeAssert (.iface 23 v) 20 29 true).run Try.prog w = .ok (.tuple #[.agg #[.string ⟨#[]⟩, .bool false, .int .u8 0, .int .u8 0, .int .u64 0, .string ⟨#[]⟩, .nilIface], .bool false]) w := by kernel_rfl
theorem ta_23_3 (v : Value) (w : World) : (Instr.typeAssert (.iface 23 v) 20 3 true).run Try.prog w = .ok (.tuple #[.int .i64 0, .bool false]) w := by kernel_rfl
theorem ta_23_61 (v : Value) (w : World) : (Instr.typeAssert (.iface 23 v) 20 61 true).run Try.prog w = .ok (.tuple #[.int .i8 0, .bool false]) w := by kernel_rfl
theorem ta_23_62 (v : Value) (w : World) : (Instr.typeAssert (.iface 23 v) 20 62 true).run Try.prog w = .ok (.tuple #[.int .i16 0, .bool false]) w := by kernel_rfl
theorem ta_23_21 (v : Value) (w : World) : (Instr.typeAssert (.iface 23 v) 20 21 true).run Try.prog w = .ok (.tuple #[.int .i32 0, .bool false]) w := by kernel_rfl
theorem ta_23_2 (v : Value) (w : World) : (Instr.typeAssert (.iface 23 v) 20 2 true).run Try.prog w = .ok (.tuple #[.int .i64 0, .bool false]) w := by kernel_rfl
theorem ta_23_33 (v : Value) (w : World) : (Instr.typeAssert (.iface 23 v) 20 33 true).run Try.prog w = .ok (.tuple #[.int .u64 0, .bool false]) w := by kernel_rfl
theorem ta_23_5 (v : Value) (w : World) : (Instr.typeAssert (.iface 23 v) 20 5 true).run Try.prog w = .ok (.tuple #[.int .u8 0, .bool false]) w := by kernel_rfl
theorem ta_23_64 (v : Value) (w : World) : (Instr.typeAssert (.iface 23 v) 20 64 true).run Try.prog w = .ok (.tuple #[.int .u16 0, .bool false]) w := by kernel_rfl
theorem ta_23_65 (v : Value) (w : World) : (Instr.typeAssert (.iface 23 v) 20 65 true).run Try.prog w = .ok (.tuple #[.int .u32 0, .bool false]) w := by kernel_rfl
theorem ta_23_24 (v : Value) (w : World) : (Instr.typeAssert (.iface 23 v) 20 24 true).run Try.prog w = .ok (.tuple #[.int .u64 0, .bool false]) w := by kernel_rfl
theorem ta_23_12 (v : Value) (w : World) : (Instr.typeAssert (.iface 23 v) 20 12 true).run Try.prog w = .ok (.tuple #[.int .u64 0, .bool false]) w := by kernel_rfl
theorem ta_23_22 (v : Value) (w : World) : (Instr.typeAssert (.iface 23 v) 20 22 true).run Try.prog w = .ok (.tuple #[.float .f32 0, .bool false]) w := by kernel_rfl
theorem ta_23_23 (v : Value) (w : World) : (Instr.typeAssert (.iface 23 v) 20 23 true).run Try.prog w = .ok (.tuple #[v, .bool true]) w := by kernel_rfl
theorem ta_9_29 (v : Value) (w : World) : (Instr.typeAssert (.iface 9 v) 20 29 true).run Try.prog w = .ok (.tuple #[.agg #[.string ⟨#[]⟩, .bool false, .int .u8 0, .int .u8 0, .int .u64 0, .string ⟨#[]⟩, .nilIface], .bool false]) w := by kernel_rfl
theorem ta_9_3 (v : Value) (w : World) : (Instr.typeAssert (.iface 9 v) 20 3 true).run Try.prog w = .ok (.tuple #[.int .i64 0, .bool false]) w := by kernel_rfl
theorem ta_9_61 (v : Value) (w : World) : (Instr.typeAssert (.iface 9 v) 20 61 true).run Try.prog w = .ok (.tuple #[.int .i8 0, .bool false]) w := by kernel_rfl
theorem ta_9_62 (v : Value) (w : World) : (Instr.typeAssert (.iface 9 v) 20 62 true).run Try.prog w = .ok (.tuple #[.int .i16 0, .bool false]) w := by kernel_rfl
theorem ta_9_21 (v : Value) (w : World) : (Instr.typeAssert (.iface 9 v) 20 21 true).run Try.prog w = .ok (.tuple #[.int .i32 0, .bool false]) w := by kernel_rfl
theorem ta_9_2 (v : Value) (w : World) : (Instr.typeAssert (.iface 9 v) 20 2 true).run Try.prog w = .ok (.tuple #[.int .i64 0, .bool false]) w := by kernel_rfl
theorem ta_9_33 (v : Value) (w : World) : (Instr.typeAssert (.iface 9 v) 20 33 true).run Try.prog w = .ok (.tuple #[.int .u64 0, .bool false]) w := by kernel_rfl
theorem ta_9_5 (v : Value) (w : World) : (Instr.typeAssert (.iface 9 v) 20 5 true).run Try.prog w = .ok (.tuple #[.int .u8 0, .bool false]) w := by kernel_rfl
theorem ta_9_64 (v : Value) (w : World) : (Instr.typeAssert (.iface 9 v) 20 64 true).run Try.prog w = .ok (.tuple #[.int .u16 0, .bool false]) w := by kernel_rfl
theorem ta_9_65 (v : Value) (w : World) : (Instr.typeAssert (.iface 9 v) 20 65 true).run Try.prog w = .ok (.tuple #[.int .u32 0, .bool false]) w := by kernel_rfl
theorem ta_9_24 (v : Value) (w : World) : (Instr.typeAssert (.iface 9 v) 20 24 true).run Try.prog w = .ok (.tuple #[.int .u64 0, .bool false]) w := by kernel_rfl
theorem ta_9_12 (v : Value) (w : World) : (Instr.typeAssert (.iface 9 v) 20 12 true).run Try.prog w = .ok (.tuple #[.int .u64 0, .bool false]) w := by kernel_rfl
theorem ta_9_22 (v : Value) (w : World) : (Instr.typeAssert (.iface 9 v) 20 22 true).run Try.prog w = .ok (.tuple #[.float .f32 0, .bool false]) w := by kernel_rfl
theorem ta_9_23 (v : Value) (w : World) : (Instr.typeAssert (.iface 9 v) 20 23 true).run Try.prog w = .ok (.tuple #[.float .f64 0, .bool false]) w := by kernel_rfl
theorem ta_9_9 (v : Value) (w : World) : (Instr.typeAssert (.iface 9 v) 20 9 true).run Try.prog w = .ok (.tuple #[v, .bool true]) w := by kernel_rfl
theorem ta_4_29 (v : Value) (w : World) : (Instr.typeAssert (.iface 4 v) 20 29 true).run Try.prog w = .ok (.tuple #[.agg #[.string ⟨#[]⟩, .bool false, .int .u8 0, .int .u8 0, .int .u64 0, .string ⟨#[]⟩, .nilIface], .bool false]) w := by kernel_rfl
theorem ta_4_3 (v : Value) (w : World) : (Instr.typeAssert (.iface 4 v) 20 3 true).run Try.prog w = .ok (.tuple #[.int .i64 0, .bool false]) w := by kernel_rfl
theorem ta_4_61 (v : Value) (w : World) : (Instr.typeAssert (.iface 4 v) 20 61 true).run Try.prog w = .ok (.tuple #[.int .i8 0, .bool false]) w := by kernel_rfl
theorem ta_4_62 (v : Value) (w : World) : (Instr.typeAssert (.iface 4 v) 20 62 true).run Try.prog w = .ok (.tuple #[.int .i16 0, .bool false]) w := by kernel_rfl
theorem ta_4_21 (v : Value) (w : World) : (Instr.typeAssert (.iface 4 v) 20 21 true).run Try.prog w = .ok (.tuple #[.int .i32 0, .bool false]) w := by kernel_rfl
theorem ta_4_2 (v : Value) (w : World) : (Instr.typeAssert (.iface 4 v) 20 2 true).run Try.prog w = .ok (.tuple #[.int .i64 0, .bool false]) w := by kernel_rfl
theorem ta_4_33 (v : Value) (w : World) : (Instr.typeAssert (.iface 4 v) 20 33 true).run Try.prog w = .ok (.tuple #[.int .u64 0, .bool false]) w := by kernel_rfl
theorem ta_4_5 (v : Value) (w : World) : (Instr.typeAssert (.iface 4 v) 20 5 true).run Try.prog w = .ok (.tuple #[.int .u8 0, .bool false]) w := by kernel_rfl
theorem ta_4_64 (v : Value) (w : World) : (Instr.typeAssert (.iface 4 v) 20 64 true).run Try.prog w = .ok (.tuple #[.int .u16 0, .bool false]) w := by kernel_rfl
theorem ta_4_65 (v : Value) (w : World) : (Instr.typeAssert (.iface 4 v) 20 65 true).run Try.prog w = .ok (.tuple #[.int .u32 0, .bool false]) w := by kernel_rfl
theorem ta_4_24 (v : Value) (w : World) : (Instr.typeAssert (.iface 4 v) 20 24 true).run Try.prog w = .ok (.tuple #[.int .u64 0, .bool false]) w := by kernel_rfl
theorem ta_4_12 (v : Value) (w : World) : (Instr.typeAssert (.iface 4 v) 20 12 true).run Try.prog w = .ok (.tuple #[.int .u64 0, .bool false]) w := by kernel_rfl
theorem ta_4_22 (v : Value) (w : World) : (Instr.typeAssert (.iface 4 v) 20 22 true).run Try.prog w = .ok (.tuple #[.float .f32 0, .bool false]) w := by kernel_rfl
theorem ta_4_23 (v : Value) (w : World) : (Instr.typeAssert (.iface 4 v) 20 23 true).run Try.prog w = .ok (.tuple #[.float .f64 0, .bool false]) w := by kernel_rfl
theorem ta_4_9 (v : Value) (w : World) : (Instr.typeAssert (.iface 4 v) 20 9 true).run Try.prog w = .ok (.tuple #[.string ⟨#[]⟩, .bool false]) w := by kernel_rfl
theorem ta_4_4 (v : Value) (w : World) : (Instr.typeAssert (.iface 4 v) 20 4 true).run Try.prog w = .ok (.tuple #[v, .bool true]) w := by kernel_rfl
attribute [local go_sem] ta_29_29 ta_22_29 ta_22_3 ta_22_61 ta_22_62 ta_22_21 ta_22_2 ta_22_33 ta_22_5 ta_22_64 ta_22_65 ta_22_24 ta_22_12 ta_22_22 ta_23_29 ta_23_3 ta_23_61 ta_23_62 ta_23_21 ta_23_2 ta_23_33 ta_23_5 ta_23_64 ta_23_65 ta_23_24 ta_23_12 ta_23_22 ta_23_23 ta_9_29 ta_9_3 ta_9_61 ta_9_62 ta_9_21 ta_9_2 ta_9_33 ta_9_5 ta_9_64 ta_9_65 ta_9_24 ta_9_12 ta_9_22 ta_9_23 ta_9_9 ta_4_29 ta_4_3 ta_4_61 ta_4_62 ta_4_21 ta_4_2 ta_4_33 ta_4_5 ta_4_64 ta_4_65 ta_4_24 ta_4_12 ta_4_22 ta_4_23 ta_4_9 ta_4_4

theorem two_new (w : World) (o p : Obj) : Below w.heap.size w ((w.alloc o).alloc p) := ((Below.refl _ _).alloc (Nat.le_refl _) _).alloc (by simp) _
theorem three_new (w : World) (o p q : Obj) : Below w.heap.size w (((w.alloc o).alloc p).alloc q) := (two_new w o p).alloc (by simp; omega) _

set_option maxHeartbeats 1000000 in
theorem value_string (s : ByteArray) (w : World) :
    Calls Try.prog 21 #[.iface 9 (.string s)] w fun e w' => e = .returned (.agg (argCells ⟨#[]⟩ false 4 0 0 s (.iface 9 (.string s)))) ∧ w' = (w.alloc (.cells (argCells ⟨#[]⟩ false 4 0 0 s (.iface 9 (.string s))) 29)).alloc (.cells (argCells ⟨#[]⟩ false 4 0 0 s (.iface 9 (.string s))) 29) := by
  go_enter Try.func21, Try.ntmps21
  go_wp2
  go_end0
  go_wp2
  go_end0
  go_wp2
  exact bodyPost_ret (v := .agg (argCells ⟨#[]⟩ false 4 0 0 s (.iface 9 (.string s)))) (by simp [results, Try.results21, go_sem]) rfl ⟨rfl, rfl⟩

set_option maxHeartbeats 1000000 in
theorem value_bool (b : Bool) (w : World) :
    Calls Try.prog 21 #[.iface 4 (.bool b)] w fun e w' => e = .returned (.agg (argCells ⟨#[]⟩ false 5 0 (if b then 1 else 0) ⟨#[]⟩ (.iface 4 (.bool b)))) ∧ w' = (w.alloc (.cells (argCells ⟨#[]⟩ false 5 0 (if b then 1 else 0) ⟨#[]⟩ (.iface 4 (.bool b))) 29)).alloc (.cells (argCells ⟨#[]⟩ false 5 0 (if b then 1 else 0) ⟨#[]⟩ (.iface 4 (.bool b))) 29) := by
  cases b
  · go_enter Try.func21, Try.ntmps21
    go_wp2
    go_end0
    go_wp2
    go_end0
    go_wp2
    exact bodyPost_ret (v := .agg (argCells ⟨#[]⟩ false 5 0 0 ⟨#[]⟩ (.iface 4 (.bool false)))) (by simp [results, Try.results21, go_sem]) rfl ⟨rfl, rfl⟩
  · go_enter Try.func21, Try.ntmps21
    go_wp2
    go_end0
    go_wp2
    go_end0
    go_wp2
    exact bodyPost_ret (v := .agg (argCells ⟨#[]⟩ false 5 0 1 ⟨#[]⟩ (.iface 4 (.bool true)))) (by simp [results, Try.results21, go_sem]) rfl ⟨rfl, rfl⟩

set_option maxHeartbeats 1000000 in
theorem value_arg (nm : ByteArray) (nd : Bool) (kd sz num : Int) (st : ByteArray) (x : Value) (hx : (∃ t v, x = .iface t v) ∨ x = .nilIface) (w : World) :
    Calls Try.prog 21 #[.iface 29 (.agg (argCells nm nd kd sz num st x))] w fun e w' => e = .returned (.agg (argCells nm nd kd sz num st x)) ∧ w' = ((w.alloc (.cells (argCells nm nd kd sz num st x) 29)).alloc (.cells (argCells nm nd kd sz num st x) 29)).alloc (.cells (argCells nm nd kd sz num st x) 29) := by
  rcases hx with ⟨t, v, rfl⟩ | rfl
  · go_enter Try.func21, Try.ntmps21
    go_wp2
    refine bodyPost_ret (results_none Try.results25 _ _ _) rfl ?_
    go_wp2
    exact bodyPost_ret (v := .agg (argCells nm nd kd sz num st (.iface t v))) (by simp [results, Try.results21, go_sem]) rfl ⟨rfl, rfl⟩
  · go_enter Try.func21, Try.ntmps21
    go_wp2
    refine bodyPost_ret (results_none Try.results25 _ _ _) rfl ?_
    go_wp2
    exact bodyPost_ret (v := .agg (argCells nm nd kd sz num st .nilIface)) (by simp [results, Try.results21, go_sem]) rfl ⟨rfl, rfl⟩

/-! ### the doors of the law's package -/
set_option maxHeartbeats 1000000 in
theorem zzString (s : ByteArray) (w : World) :
    Calls Try.prog 12 #[.string s] w fun e w' => e = .returned (.agg (argCells ⟨#[]⟩ false 4 0 0 s (.iface 9 (.string s)))) ∧ w' = ((w.alloc (.cells (argCells ⟨#[]⟩ false 4 0 0 s (.iface 9 (.string s))) 29)).alloc (.cells (argCells ⟨#[]⟩ false 4 0 0 s (.iface 9 (.string s))) 29)).alloc (.cells (argCells ⟨#[]⟩ false 4 0 0 s (.iface 9 (.string s))) 29) := by
  go_enter Try.func12, Try.ntmps12
  go_wp2_with (go_at_call 21; refine (value_string _ _).mono ?_; rintro e w' ⟨rfl, rfl⟩)
  exact bodyPost_ret (v := .agg (argCells ⟨#[]⟩ false 4 0 0 s (.iface 9 (.string s)))) (by simp [results, Try.results12, go_sem]) rfl ⟨rfl, rfl⟩

set_option maxHeartbeats 1000000 in
theorem zzBool (b : Bool) (w : World) :
    Calls Try.prog 15 #[.bool b] w fun e w' => e = .returned (.agg (argCells ⟨#[]⟩ false 5 0 (if b then 1 else 0) ⟨#[]⟩ (.iface 4 (.bool b)))) ∧ w' = ((w.alloc (.cells (argCells ⟨#[]⟩ false 5 0 (if b then 1 else 0) ⟨#[]⟩ (.iface 4 (.bool b))) 29)).alloc (.cells (argCells ⟨#[]⟩ false 5 0 (if b then 1 else 0) ⟨#[]⟩ (.iface 4 (.bool b))) 29)).alloc (.cells (argCells ⟨#[]⟩ false 5 0 (if b then 1 else 0) ⟨#[]⟩ (.iface 4 (.bool b))) 29) := by
  cases b
  · go_enter Try.func15, Try.ntmps15
    go_wp2_with (go_at_call 21; refine (value_bool _ _).mono ?_; rintro e w' ⟨rfl, rfl⟩)
    exact bodyPost_ret (v := .agg (argCells ⟨#[]⟩ false 5 0 0 ⟨#[]⟩ (.iface 4 (.bool false)))) (by simp [results, Try.results15, go_sem]) rfl ⟨rfl, rfl⟩
  · go_enter Try.func15, Try.ntmps15
    go_wp2_with (go_at_call 21; refine (value_bool _ _).mono ?_; rintro e w' ⟨rfl, rfl⟩)
    exact bodyPost_ret (v := .agg (argCells ⟨#[]⟩ false 5 0 1 ⟨#[]⟩ (.iface 4 (.bool true)))) (by simp [results, Try.results15, go_sem]) rfl ⟨rfl, rfl⟩

set_option maxHeartbeats 1000000 in
theorem zzArg (nm : ByteArray) (nd : Bool) (kd sz num : Int) (st : ByteArray) (x : Value) (hx : (∃ t v, x = .iface t v) ∨ x = .nilIface) (w : World) :
    Calls Try.prog 14 #[.agg (argCells nm nd kd sz num st x)] w fun e w' => e = .returned (.agg (argCells nm nd kd sz num st x)) ∧ Below w.heap.size w w' := by
  go_enter Try.func14, Try.ntmps14
  rcases hx with ⟨t, v, rfl⟩ | rfl
  · go_wp2_with (go_at_call 21; refine (value_arg _ _ _ _ _ _ _ (.inl ⟨_, _, rfl⟩) _).mono ?_; rintro e w' ⟨rfl, rfl⟩)
    exact bodyPost_ret (v := .agg (argCells nm nd kd sz num st (.iface t v))) (by simp [results, Try.results14, go_sem]) rfl ⟨rfl, ((two_new w _ _).trans ((three_new _ _ _ _).mono (by simp; omega)))⟩
  · go_wp2_with (go_at_call 21; refine (value_arg _ _ _ _ _ _ _ (.inr rfl) _).mono ?_; rintro e w' ⟨rfl, rfl⟩)
    exact bodyPost_ret (v := .agg (argCells nm nd kd sz num st .nilIface)) (by simp [results, Try.results14, go_sem]) rfl ⟨rfl, ((two_new w _ _).trans ((three_new _ _ _ _).mono (by simp; omega)))⟩

set_option maxHeartbeats 1000000 in
theorem newNamed (nm s : ByteArray) (w : World) :
    Calls Try.prog 16 #[.string nm, .string s] w fun e w' => e = .returned (.agg (argCells nm true 4 0 0 s .nilIface)) ∧ w' = w.alloc (.cells (argCells nm true 4 0 0 s .nilIface) 29) := by
  go_enter Try.func16, Try.ntmps16
  go_wp2
  exact bodyPost_ret (v := .agg (argCells nm true 4 0 0 s .nilIface)) (by simp [results, Try.results16, go_sem]) rfl ⟨rfl, rfl⟩

theorem bcell {W w1 : World} (hb : Below W.heap.size W w1) : (∀ b o, b < W.heap.size → w1.cell? ⟨b, o, none⟩ = W.cell? ⟨b, o, none⟩) ∧ (∀ b o, b < W.heap.size → w1.frozen? ⟨b, o, none⟩ = W.frozen? ⟨b, o, none⟩) :=
  ⟨fun b o h => hb.cell (p := ⟨b, o, none⟩) h, fun b o h => hb.frozen (p := ⟨b, o, none⟩) h⟩

set_option maxHeartbeats 1000000 in
theorem argIs_true (kd sz num : Int) (st : ByteArray) (x : Value) (hx : (∃ t v, x = .iface t v) ∨ x = .nilIface) (w : World) :
    Calls Try.prog 13 #[.agg (argCells ⟨#[]⟩ false kd sz num st x), .int .u8 kd, .int .u8 sz, .int .u64 num, .string st] w fun e w' => e = .returned (.bool true) ∧ Below w.heap.size w w' := by
  go_enter Try.func13, Try.ntmps13
  rcases hx with ⟨t, v, rfl⟩ | rfl
  · go_wp2_with (go_at_call 6; refine (argFields_any _ _ _ _ _ _ _ _).mono ?_; rintro e w' ⟨rfl, hb⟩)
    go_ret
    exact ⟨rfl, ((Below.refl _ _).alloc (Nat.le_refl _) _).trans (hb.mono (by simp))⟩
  · go_wp2_with (go_at_call 6; refine (argFields_any _ _ _ _ _ _ _ _).mono ?_; rintro e w' ⟨rfl, hb⟩)
    go_ret
    exact ⟨rfl, ((Below.refl _ _).alloc (Nat.le_refl _) _).trans (hb.mono (by simp))⟩
end Go.Proofs.Qxb6613183a

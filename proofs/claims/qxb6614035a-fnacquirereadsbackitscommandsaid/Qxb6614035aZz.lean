/- ZZencodeAcquire, ZZencodeLockOf. -/
import Derived.Test.Qxb6614035aEnc
namespace Go.Proofs.Qxb6614035a
open Go.RowKit

set_option maxRecDepth 1000000 in
set_option maxHeartbeats 4000000 in
theorem zacq_any (B n : Nat) (v : Value) (xs : List Value) (s : ByteArray) (a : Option Addr) (c m : Nat) (K : List Int) (hm : K.length = m)
    (mode wait : Int) (req : Nat) (fen : Bool) (name : ByteArray) (hw2 : wait < 9223372036854775808) (hr : req < 18446744073709551616)
    (hl : s.size ≤ 131072) (hk : m ≤ 131072) (w : World) (hown : w.ownsRow B 5 1 v n xs) (hB : B ≤ w.heap.size) (hn : n ≤ 1000000) (hf : Fld w v a c K) :
    Calls Try.prog 17 #[.string s, .slice a m c, .int .u8 mode, .int .i64 wait, .int .u64 req, .bool fen, .string name, v] w fun e w' => ∃ v', e = .returned v' ∧ w'.ownsRow B 5 1 v' (n + (enc s K mode wait req).length) (xs ++ bs (enc s K mode wait req)) ∧ App w w' v v' := by
  have HF : Hid (Fld w v a c K) := hf
  clear hf
  go_enter Try.func17, Try.ntmps17
  go_wp2_with fail
  refine (acq_any B n v xs s a c m K hm _ rfl rfl rfl mode wait req rfl rfl rfl hw2 hr hl hk _ hown hB hn HF.out).mono ?_
  rintro e w1 ⟨v1, rfl, hown1, hA1⟩
  go_wp2
  go_ret
  exact ⟨v1, rfl, hown1, hA1⟩

set_option maxRecDepth 1000000 in
set_option maxHeartbeats 4000000 in
theorem zlck_any (B n : Nat) (v : Value) (xs : List Value) (s : ByteArray) (a : Option Addr) (c m : Nat) (K : List Int) (hm : K.length = m)
    (hl : s.size ≤ 131072) (hk : m ≤ 131072) (w : World) (hown : w.ownsRow B 5 1 v n xs) (hB : B ≤ w.heap.size) (hn : n ≤ 1000000) (hf : Fld w v a c K) :
    Calls Try.prog 18 #[.string s, .slice a m c, v] w fun e w' => ∃ v', e = .returned v' ∧ w'.ownsRow B 5 1 v' (n + (lck s K).length) (xs ++ bs (lck s K)) ∧ App w w' v v' := by
  have HF : Hid (Fld w v a c K) := hf
  clear hf
  go_enter Try.func18, Try.ntmps18
  go_wp2_with fail
  refine (lockOf_any B n v xs s a c m K hm _ rfl rfl rfl hl hk _ hown hB hn HF.out).mono ?_
  rintro e w1 ⟨v1, rfl, hown1, hA1⟩
  go_wp2
  go_ret
  exact ⟨v1, rfl, hown1, hA1⟩
end Go.Proofs.Qxb6614035a

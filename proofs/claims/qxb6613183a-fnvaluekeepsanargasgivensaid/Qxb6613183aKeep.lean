/- FnValueKeepsAnArgAsGiven: the walk. -/
import Derived.Test.Qxb6613183aVal
namespace Go.Proofs.Qxb6613183a
open Go.RowKit

def keepB (n s : Nat) : Bool := decide (n ≤ 1048576 ∧ s ≤ 1048576 ∧ n + s ≤ 1048576)

set_option maxHeartbeats 400000 in
theorem bytes_keep (n s : ByteArray) (b : Bool) (w : World) (h0 : n.size ≤ maxLen) (h1 : s.size ≤ maxLen) :
    Calls Try.prog 11 #[.string n, .string s, .bool b] w fun e w' => e = .returned (.bool (keepB n.size s.size)) ∧ w = w' := by
  unfold maxLen at h0 h1
  by_cases c0 : n.size ≤ 1048576
  · by_cases c1 : s.size ≤ 1048576
    · by_cases c2 : n.size + s.size ≤ 1048576
      · go_enter Try.func11, Try.ntmps11
        go_wp2
        go_ret
        exact ⟨by simp [keepB, c0, c1, c2], rfl⟩
      · go_enter Try.func11, Try.ntmps11
        go_wp2
        go_ret
        exact ⟨by simp [keepB, c2], rfl⟩
    · go_enter Try.func11, Try.ntmps11
      go_wp2
      go_ret
      exact ⟨by simp [keepB, c1], rfl⟩
  · go_enter Try.func11, Try.ntmps11
    go_wp2
    go_ret
    exact ⟨by simp [keepB, c0], rfl⟩

set_option maxHeartbeats 400000 in
theorem keep_early (n s : ByteArray) (b : Bool) (w : World) (h0 : n.size ≤ maxLen) (h1 : s.size ≤ maxLen) (h : keepB n.size s.size = false ∨ 65536 < n.size ∨ 65536 < s.size) :
    Calls Try.prog 4 #[.string n, .string s, .bool b] w fun e w' => e = .returned (.bool true) ∧ Below w.heap.size w w' := by
  cases hk : keepB n.size s.size
  · go_enter Try.func4, Try.ntmps4
    go_wp2_with (go_at_call 11; refine (bytes_keep _ _ _ _ h0 h1).mono ?_; rintro e w' ⟨rfl, rfl⟩; rw [hk])
    go_ret
    exact ⟨rfl, Below.refl _ _⟩
  · unfold maxLen at h0 h1
    by_cases c0 : 65536 < n.size
    · go_enter Try.func4, Try.ntmps4
      go_wp2_with (go_at_call 11; refine (bytes_keep _ _ _ _ h0 h1).mono ?_; rintro e w' ⟨rfl, rfl⟩; rw [hk])
      go_ret
      exact ⟨rfl, Below.refl _ _⟩
    · have c1 : 65536 < s.size := by
        rcases h with h | h | h
        · rw [hk] at h; cases h
        · exact absurd h c0
        · exact h
      go_enter Try.func4, Try.ntmps4
      go_wp2_with (go_at_call 11; refine (bytes_keep _ _ _ _ h0 h1).mono ?_; rintro e w' ⟨rfl, rfl⟩; rw [hk])
      go_ret
      exact ⟨rfl, Below.refl _ _⟩

theorem zzStringB (s : ByteArray) (w : World) :
    Calls Try.prog 12 #[.string s] w fun e w' => e = .returned (.agg (argCells ⟨#[]⟩ false 4 0 0 s (.iface 9 (.string s)))) ∧ Below w.heap.size w w' :=
  (zzString s w).mono fun e w' ⟨h1, h2⟩ => ⟨h1, by rw [h2]; exact three_new _ _ _ _⟩
theorem zzBoolB (b : Bool) (w : World) :
    Calls Try.prog 15 #[.bool b] w fun e w' => e = .returned (.agg (argCells ⟨#[]⟩ false 5 0 (if b then 1 else 0) ⟨#[]⟩ (.iface 4 (.bool b)))) ∧ Below w.heap.size w w' :=
  (zzBool b w).mono fun e w' ⟨h1, h2⟩ => ⟨h1, by rw [h2]; exact three_new _ _ _ _⟩
theorem zzArgI (nm : ByteArray) (nd : Bool) (kd sz num : Int) (st : ByteArray) (t : TypeId) (v : Value) (w : World) :
    Calls Try.prog 14 #[.agg (argCells nm nd kd sz num st (.iface t v))] w fun e w' => e = .returned (.agg (argCells nm nd kd sz num st (.iface t v))) ∧ Below w.heap.size w w' := zzArg nm nd kd sz num st _ (.inl ⟨_, _, rfl⟩) w
theorem argIs_I (kd sz num : Int) (st : ByteArray) (t : TypeId) (v : Value) (w : World) :
    Calls Try.prog 13 #[.agg (argCells ⟨#[]⟩ false kd sz num st (.iface t v)), .int .u8 kd, .int .u8 sz, .int .u64 num, .string st] w fun e w' => e = .returned (.bool true) ∧ Below w.heap.size w w' := argIs_true kd sz num st _ (.inl ⟨_, _, rfl⟩) w

theorem newNamedB (nm s : ByteArray) (w : World) :
    Calls Try.prog 16 #[.string nm, .string s] w fun e w' => e = .returned (.agg (argCells nm true 4 0 0 s .nilIface)) ∧ Below w.heap.size w w' :=
  (newNamed nm s w).mono fun e w' ⟨h1, h2⟩ => ⟨h1, by rw [h2]; exact (Below.refl _ _).alloc (Nat.le_refl _) _⟩
theorem zzArgN (nm : ByteArray) (nd : Bool) (kd sz num : Int) (st : ByteArray) (w : World) :
    Calls Try.prog 14 #[.agg (argCells nm nd kd sz num st .nilIface)] w fun e w' => e = .returned (.agg (argCells nm nd kd sz num st .nilIface)) ∧ Below w.heap.size w w' := zzArg nm nd kd sz num st _ (.inr rfl) w

set_option maxHeartbeats 4000000 in
theorem keep_true (n s : ByteArray) (w : World) (hk : keepB n.size s.size = true) (h0 : n.size ≤ 65536) (h1 : s.size ≤ 65536) :
    Calls Try.prog 4 #[.string n, .string s, .bool true] w fun e w' => e = .returned (.bool true) ∧ Below w.heap.size w w' := by
  have c0 : ¬ (65536 : Int) < (n.size : Int) := by omega
  have c1 : ¬ (65536 : Int) < (s.size : Int) := by omega
  go_enter Try.func4, Try.ntmps4
  go_wp2_with (go_at_call 11; refine (bytes_keep _ _ _ _ (by unfold maxLen; omega) (by unfold maxLen; omega)).mono ?_; rintro e w' ⟨rfl, rfl⟩; rw [hk])
  refine (zzStringB _ _).mono ?_
  rintro e w1 ⟨rfl, hb1⟩
  go_wp2_with fail
  refine (argIs_I _ _ _ _ _ _ _).mono ?_
  rintro e w2 ⟨rfl, hb2⟩
  obtain ⟨hc2, hf2⟩ := bcell hb2
  have hs2 := hb2.size
  simp at hs2
  go_wp2_with fail
  refine (zzArgI _ _ _ _ _ _ _ _ _).mono ?_
  rintro e w3 ⟨rfl, hb3⟩
  clear hc2 hf2
  go_wp2_with fail
  refine (argIs_I _ _ _ _ _ _ _).mono ?_
  rintro e w4 ⟨rfl, hb4⟩
  go_wp2_with fail
  refine (zzBoolB _ _).mono ?_
  rintro e w5 ⟨rfl, hb5⟩
  simp only [if_true]
  go_wp2_with fail
  refine (argIs_I _ _ _ _ _ _ _).mono ?_
  rintro e w6 ⟨rfl, hb6⟩
  obtain ⟨hc6, hf6⟩ := bcell hb6
  have hs6 := hb6.size
  simp at hs6
  go_wp2_with fail
  refine (zzArgI _ _ _ _ _ _ _ _ _).mono ?_
  rintro e w7 ⟨rfl, hb7⟩
  clear hc6 hf6
  go_wp2_with fail
  refine (argIs_I _ _ _ _ _ _ _).mono ?_
  rintro e w8 ⟨rfl, hb8⟩
  have hb : Below w.heap.size w w8 := by
    have s1 := hb1.size
    have s3 := hb3.size
    have s4 := hb4.size
    have s5 := hb5.size
    have s7 := hb7.size
    have a1 : Below w.heap.size w (w1.alloc (.cells (argCells ⟨#[]⟩ false 4 0 0 s (.iface 9 (.string s))) 29)) := hb1.alloc s1 _
    have a2 : Below w.heap.size w w2 := a1.trans (hb2.mono (by simp; omega))
    have a5 : Below w.heap.size w w5 := (((a2.trans (hb3.mono (by omega))).trans (hb4.mono (by omega)))).trans (hb5.mono (by omega))
    have a6 := (a5.alloc (by omega) (.cells (argCells ⟨#[]⟩ false 5 0 1 ⟨#[]⟩ (.iface 4 (.bool true))) 29)).trans (hb6.mono (by simp; omega))
    exact (a6.trans (hb7.mono (by omega))).trans (hb8.mono (by omega))
  have hs := hb.size
  clear hb1 hb2 hb3 hb4 hb5 hb6 hb7 hb8
  go_wp2_with fail
  · go_ret
    exact ⟨rfl, hb⟩
  · refine (newNamedB _ _ _).mono ?_
    rintro e w9 ⟨rfl, hb9⟩
    go_wp2_with fail
    refine (zzArgN _ _ _ _ _ _ _).mono ?_
    rintro e wa ⟨rfl, hba⟩
    go_wp2_with fail
    refine (argFields_any _ _ _ _ _ _ _ _).mono ?_
    rintro e wb ⟨rfl, hbb⟩
    have s9 := hb9.size
    have sa := hba.size
    have hb' : Below w.heap.size w wb := ((hb.trans (hb9.mono (by omega))).trans (hba.mono (by omega))).trans (hbb.mono (by omega))
    clear hb9 hba hbb
    go_wp2
    go_ret
    exact ⟨rfl, hb'⟩

set_option maxHeartbeats 4000000 in
theorem keep_false (n s : ByteArray) (w : World) (hk : keepB n.size s.size = true) (h0 : n.size ≤ 65536) (h1 : s.size ≤ 65536) :
    Calls Try.prog 4 #[.string n, .string s, .bool false] w fun e w' => e = .returned (.bool true) ∧ Below w.heap.size w w' := by
  have c0 : ¬ (65536 : Int) < (n.size : Int) := by omega
  have c1 : ¬ (65536 : Int) < (s.size : Int) := by omega
  go_enter Try.func4, Try.ntmps4
  go_wp2_with (go_at_call 11; refine (bytes_keep _ _ _ _ (by unfold maxLen; omega) (by unfold maxLen; omega)).mono ?_; rintro e w' ⟨rfl, rfl⟩; rw [hk])
  refine (zzStringB _ _).mono ?_
  rintro e w1 ⟨rfl, hb1⟩
  go_wp2_with fail
  refine (argIs_I _ _ _ _ _ _ _).mono ?_
  rintro e w2 ⟨rfl, hb2⟩
  obtain ⟨hc2, hf2⟩ := bcell hb2
  have hs2 := hb2.size
  simp at hs2
  go_wp2_with fail
  refine (zzArgI _ _ _ _ _ _ _ _ _).mono ?_
  rintro e w3 ⟨rfl, hb3⟩
  clear hc2 hf2
  go_wp2_with fail
  refine (argIs_I _ _ _ _ _ _ _).mono ?_
  rintro e w4 ⟨rfl, hb4⟩
  go_wp2_with fail
  refine (zzBoolB _ _).mono ?_
  rintro e w5 ⟨rfl, hb5⟩
  simp only [Bool.false_eq_true, if_false]
  go_wp2_with fail
  refine (argIs_I _ _ _ _ _ _ _).mono ?_
  rintro e w6 ⟨rfl, hb6⟩
  obtain ⟨hc6, hf6⟩ := bcell hb6
  have hs6 := hb6.size
  simp at hs6
  go_wp2_with fail
  refine (zzArgI _ _ _ _ _ _ _ _ _).mono ?_
  rintro e w7 ⟨rfl, hb7⟩
  clear hc6 hf6
  go_wp2_with fail
  refine (argIs_I _ _ _ _ _ _ _).mono ?_
  rintro e w8 ⟨rfl, hb8⟩
  have hb : Below w.heap.size w w8 := by
    have s1 := hb1.size
    have s3 := hb3.size
    have s4 := hb4.size
    have s5 := hb5.size
    have s7 := hb7.size
    have a1 : Below w.heap.size w (w1.alloc (.cells (argCells ⟨#[]⟩ false 4 0 0 s (.iface 9 (.string s))) 29)) := hb1.alloc s1 _
    have a2 : Below w.heap.size w w2 := a1.trans (hb2.mono (by simp; omega))
    have a5 : Below w.heap.size w w5 := (((a2.trans (hb3.mono (by omega))).trans (hb4.mono (by omega)))).trans (hb5.mono (by omega))
    have a6 := (a5.alloc (by omega) (.cells (argCells ⟨#[]⟩ false 5 0 0 ⟨#[]⟩ (.iface 4 (.bool false))) 29)).trans (hb6.mono (by simp; omega))
    exact (a6.trans (hb7.mono (by omega))).trans (hb8.mono (by omega))
  have hs := hb.size
  clear hb1 hb2 hb3 hb4 hb5 hb6 hb7 hb8
  go_wp2_with fail
  · go_ret
    exact ⟨rfl, hb⟩
  · refine (newNamedB _ _ _).mono ?_
    rintro e w9 ⟨rfl, hb9⟩
    go_wp2_with fail
    refine (zzArgN _ _ _ _ _ _ _).mono ?_
    rintro e wa ⟨rfl, hba⟩
    go_wp2_with fail
    refine (argFields_any _ _ _ _ _ _ _ _).mono ?_
    rintro e wb ⟨rfl, hbb⟩
    have s9 := hb9.size
    have sa := hba.size
    have hb' : Below w.heap.size w wb := ((hb.trans (hb9.mono (by omega))).trans (hba.mono (by omega))).trans (hbb.mono (by omega))
    clear hb9 hba hbb
    go_wp2
    go_ret
    exact ⟨rfl, hb'⟩

theorem keep_any (n s : ByteArray) (b : Bool) (h0 : n.size ≤ maxLen) (h1 : s.size ≤ maxLen) (w : World) :
    Calls Try.prog 4 #[.string n, .string s, .bool b] w fun e w' => e = .returned (.bool true) ∧ Below w.heap.size w w' := by
  by_cases h : keepB n.size s.size = false ∨ 65536 < n.size ∨ 65536 < s.size
  · exact keep_early n s b w h0 h1 h
  · have hk : keepB n.size s.size = true := by
      cases hk : keepB n.size s.size
      · exact absurd (.inl hk) h
      · rfl
    cases b
    · exact keep_false n s w hk (by omega) (by omega)
    · exact keep_true n s w hk (by omega) (by omega)
end Go.Proofs.Qxb6613183a

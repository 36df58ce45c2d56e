/- encodeAcquire. -/
import Derived.Test.Qxb6614035aLock
namespace Go.Proofs.Qxb6614035a
open Go.RowKit

def fl (mode wait : Int) (req : Nat) : Int := (if mode = 1 then 1 else 0) + (if wait = 0 then 0 else 2) + (if req = 0 then 0 else 4) + (if 0 < wait then 8 else 0)
def tl (wait : Int) (req : Nat) : List Int := (if req = 0 then [] else uv req) ++ (if 0 < wait then uv wait.toNat else [])
def lck (s : ByteArray) (K : List Int) : List Int := pre (strL s) ++ pre K
def enc (s : ByteArray) (K : List Int) (mode wait : Int) (req : Nat) : List Int := lck s K ++ (fl mode wait req :: tl wait req)

theorem lck_len (s : ByteArray) (K : List Int) (hs : s.size ≤ 131072) (hK : K.length ≤ 131072) : (lck s K).length ≤ 262200 := by
  unfold lck pre uv
  simp only [List.length_append, strL_len]
  have := (uvb_len 10 s.size).2
  have := (uvb_len 10 K.length).2
  omega

theorem or_0_1 : bits .or .u8 0 1 = 1 := by decide +kernel
theorem or_0_2 : bits .or .u8 0 2 = 2 := by decide +kernel
theorem or_1_2 : bits .or .u8 1 2 = 3 := by decide +kernel
theorem or_0_4 : bits .or .u8 0 4 = 4 := by decide +kernel
theorem or_1_4 : bits .or .u8 1 4 = 5 := by decide +kernel
theorem or_2_4 : bits .or .u8 2 4 = 6 := by decide +kernel
theorem or_3_4 : bits .or .u8 3 4 = 7 := by decide +kernel
theorem or_0_8 : bits .or .u8 0 8 = 8 := by decide +kernel
theorem or_1_8 : bits .or .u8 1 8 = 9 := by decide +kernel
theorem or_2_8 : bits .or .u8 2 8 = 10 := by decide +kernel
theorem or_3_8 : bits .or .u8 3 8 = 11 := by decide +kernel
theorem or_4_8 : bits .or .u8 4 8 = 12 := by decide +kernel
theorem or_5_8 : bits .or .u8 5 8 = 13 := by decide +kernel
theorem or_6_8 : bits .or .u8 6 8 = 14 := by decide +kernel
theorem or_7_8 : bits .or .u8 7 8 = 15 := by decide +kernel
attribute [local go_sem] or_0_1 or_0_2 or_1_2 or_0_4 or_1_4 or_2_4 or_3_4 or_0_8 or_1_8 or_2_8 or_3_8 or_4_8 or_5_8 or_6_8 or_7_8

theorem own_snoc {w : World} {B n : Nat} {v : Value} {xs : List Value} {L : List Int} {z : Int} (h : w.ownsRow B 5 1 v (n + L.length + 1) (xs ++ (bs L ++ [.int .u8 z]))) : w.ownsRow B 5 1 v (n + (L ++ [z]).length) (xs ++ bs (L ++ [z])) :=
  own_app (L2 := [z]) (m := 1) (by rw [List.append_assoc]; exact h) rfl
theorem len_ok2 {n : Nat} {L : List Int} {z : Int} (hn : n ≤ 1000000) (h : L.length ≤ 262200) : n + (L ++ [z]).length ≤ 1000000000 := by simp; omega
theorem len_ok3 {n : Nat} {L : List Int} {z : Int} {x : Nat} (hn : n ≤ 1000000) (h : L.length ≤ 262200) : n + (L ++ [z] ++ uv x).length ≤ 1000000000 := by
  have := (uvb_len 10 x).2
  simp [uv]; omega
theorem enc_eq {w : World} {B n : Nat} {v : Value} {xs : List Value} {L L' : List Int} (h : L' = L) (ho : w.ownsRow B 5 1 v (n + L.length) (xs ++ bs L)) : w.ownsRow B 5 1 v (n + L'.length) (xs ++ bs L') := h ▸ ho

set_option maxRecDepth 1000000 in
set_option maxHeartbeats 4000000 in
theorem acq_00 (B n : Nat) (v : Value) (xs : List Value) (s : ByteArray) (a : Option Addr) (c m : Nat) (K : List Int) (hm : K.length = m) (cs : Array Value) (hsz : cs.size = 41) (h1 : cs[1]? = some (.slice a m c)) (h10 : cs[10]? = some (.string s))
    (mode wait : Int) (req : Nat) (h13 : cs[13]? = some (.int .u8 mode)) (h14 : cs[14]? = some (.int .i64 wait)) (h15 : cs[15]? = some (.int .u64 req)) (hw2 : wait < 9223372036854775808) (hr : req < 18446744073709551616)
    (hl : s.size ≤ 131072) (hk : m ≤ 131072) (w : World) (hown : w.ownsRow B 5 1 v n xs) (hB : B ≤ w.heap.size) (hn : n ≤ 1000000) (hf : Fld w v a c K) (hreq : req = 0) (hwait : wait ≤ 0) :
    Calls Try.prog 25 #[.agg cs, v] w fun e w' => ∃ v', e = .returned v' ∧ w'.ownsRow B 5 1 v' (n + (enc s K mode wait req).length) (xs ++ bs (enc s K mode wait req)) ∧ App w w' v v' := by
  obtain ⟨i0, hi, hz0, hz1, hz2⟩ := info_parts info5
  have hA0 : App w (w.alloc (.cells cs 58)) v v := ⟨World.grownBy_alloc w (.cells cs 58) v.ownBlock, .inl rfl⟩
  have hne : some w.heap.size ≠ v.ownBlock := fun e => by have := (hown.lt _ e.symm).2; omega
  have hlck := lck_len s K hl (by omega)
  have hB0 : B ≤ (w.alloc (.cells cs 58)).heap.size := Nat.le_trans hB hA0.1.size
  have HR0 : Hid ((w.alloc (.cells cs 58)).rangeAt w.heap.size 0 cs.toList) := fun j u hu => by
    have hu' : cs[j]? = some u := by simpa using hu
    simp [go_sem, hu']
  have HR : Hid (∀ w' v', App (w.alloc (.cells cs 58)) w' v v' → w'.cell? ⟨w.heap.size, 14, none⟩ = some (.int .i64 wait) ∧ w'.cell? ⟨w.heap.size, 15, none⟩ = some (.int .u64 req) ∧ B ≤ w'.heap.size) := fun w' v' hA =>
    ⟨(hA.cell (p := ⟨w.heap.size, 14, none⟩) (show w.heap.size < (w.alloc (.cells cs 58)).heap.size by simp) hne).trans (by simp [go_sem, h14]),
     (hA.cell (p := ⟨w.heap.size, 15, none⟩) (show w.heap.size < (w.alloc (.cells cs 58)).heap.size by simp) hne).trans (by simp [go_sem, h15]), Nat.le_trans hB0 hA.1.size⟩
  have HL : Hid (Calls Try.prog 26 #[.agg cs, v] (w.alloc (.cells cs 58)) fun e w1 => ∃ v1, e = .returned v1 ∧ w1.ownsRow B 5 1 v1 (n + (lck s K).length) (xs ++ bs (lck s K)) ∧ App (w.alloc (.cells cs 58)) w1 v v1) :=
    lockOf_any B n v xs s a c m K hm cs hsz h1 h10 hl hk _ (hown.alloc _) hB0 hn (hf.later hA0)
  have HA0 : Hid (App w (w.alloc (.cells cs 58)) v v) := hA0
  have HI : Hid ((Try.prog.info? 58).map (·.size) = some cs.toList.length) := by
    show _ = _
    rw [Array.length_toList, hsz]; exact size58
  clear hA0 hf hB0 hne hsz
  subst hreq
  rcases Int.lt_or_eq_of_le hwait with hneg | rfl
  · by_cases hmode : mode = 1
    · go_enter Try.func25, Try.ntmps25
      go_wp2_with (refine wpList_load_mid rfl 58 _ rfl _ _ rfl cs.toList _ HR0.out Try.underlying58 rfl HI.out ?_)
      refine HL.out.mono ?_
      rintro e w1 ⟨v1, rfl, ho1, hA1⟩
      obtain ⟨-, -, hB1⟩ := HR.out _ _ hA1
      go_wp2_with (at_builtin; refine wpList_append_own_at _ rfl _ _ 22 rfl B 5 i0 _ 1 1 Try.underlying22 hi hz0 hz1 hz2 rfl (by decide) v1 _ _ rfl (ho1.alloc _) ⟨w1.heap.size, 0, none⟩ 1 1 [_] rfl rfl (cell_one_new _ _ _) (by simp [Value.oneCell']) ?c3 ?c4 ?c5 ?_)
      case c3 => unfold maxLen; omega
      case c4 => omega
      case c5 => simp; omega
      intro v2 w2 hown2 hgrow2 _ hat2
      have hA2 := hA1.trans (App.of_at _ hgrow2 hat2 (by omega) : App w1 w2 v1 v2)
      have HO2 : Hid _ := own_snoc hown2
      clear hown2 hgrow2 hat2 ho1
      obtain ⟨p14, p15, hB2⟩ := HR.out _ _ hA2
      go_wp2
      go_ret
      refine ⟨v2, rfl, ?_, App.trans HA0.out hA2⟩
      refine enc_eq ?_ HO2.out
      have hw0 : wait ≠ 0 := by omega
      have hw3 : ¬ 0 < wait := by omega
      simp [enc, fl, tl, *]
    · go_enter Try.func25, Try.ntmps25
      go_wp2_with (refine wpList_load_mid rfl 58 _ rfl _ _ rfl cs.toList _ HR0.out Try.underlying58 rfl HI.out ?_)
      refine HL.out.mono ?_
      rintro e w1 ⟨v1, rfl, ho1, hA1⟩
      obtain ⟨-, -, hB1⟩ := HR.out _ _ hA1
      go_wp2_with (at_builtin; refine wpList_append_own_at _ rfl _ _ 22 rfl B 5 i0 _ 1 1 Try.underlying22 hi hz0 hz1 hz2 rfl (by decide) v1 _ _ rfl (ho1.alloc _) ⟨w1.heap.size, 0, none⟩ 1 1 [_] rfl rfl (cell_one_new _ _ _) (by simp [Value.oneCell']) ?c3 ?c4 ?c5 ?_)
      case c3 => unfold maxLen; omega
      case c4 => omega
      case c5 => simp; omega
      intro v2 w2 hown2 hgrow2 _ hat2
      have hA2 := hA1.trans (App.of_at _ hgrow2 hat2 (by omega) : App w1 w2 v1 v2)
      have HO2 : Hid _ := own_snoc hown2
      clear hown2 hgrow2 hat2 ho1
      obtain ⟨p14, p15, hB2⟩ := HR.out _ _ hA2
      go_wp2
      go_ret
      refine ⟨v2, rfl, ?_, App.trans HA0.out hA2⟩
      refine enc_eq ?_ HO2.out
      have hw0 : wait ≠ 0 := by omega
      have hw3 : ¬ 0 < wait := by omega
      simp [enc, fl, tl, *]
  · by_cases hmode : mode = 1
    · go_enter Try.func25, Try.ntmps25
      go_wp2_with (refine wpList_load_mid rfl 58 _ rfl _ _ rfl cs.toList _ HR0.out Try.underlying58 rfl HI.out ?_)
      refine HL.out.mono ?_
      rintro e w1 ⟨v1, rfl, ho1, hA1⟩
      obtain ⟨-, -, hB1⟩ := HR.out _ _ hA1
      go_wp2_with (at_builtin; refine wpList_append_own_at _ rfl _ _ 22 rfl B 5 i0 _ 1 1 Try.underlying22 hi hz0 hz1 hz2 rfl (by decide) v1 _ _ rfl (ho1.alloc _) ⟨w1.heap.size, 0, none⟩ 1 1 [_] rfl rfl (cell_one_new _ _ _) (by simp [Value.oneCell']) ?c3 ?c4 ?c5 ?_)
      case c3 => unfold maxLen; omega
      case c4 => omega
      case c5 => simp; omega
      intro v2 w2 hown2 hgrow2 _ hat2
      have hA2 := hA1.trans (App.of_at _ hgrow2 hat2 (by omega) : App w1 w2 v1 v2)
      have HO2 : Hid _ := own_snoc hown2
      clear hown2 hgrow2 hat2 ho1
      obtain ⟨p14, p15, hB2⟩ := HR.out _ _ hA2
      go_wp2
      go_ret
      refine ⟨v2, rfl, ?_, App.trans HA0.out hA2⟩
      refine enc_eq ?_ HO2.out
      simp [enc, fl, tl, *]
    · go_enter Try.func25, Try.ntmps25
      go_wp2_with (refine wpList_load_mid rfl 58 _ rfl _ _ rfl cs.toList _ HR0.out Try.underlying58 rfl HI.out ?_)
      refine HL.out.mono ?_
      rintro e w1 ⟨v1, rfl, ho1, hA1⟩
      obtain ⟨-, -, hB1⟩ := HR.out _ _ hA1
      go_wp2_with (at_builtin; refine wpList_append_own_at _ rfl _ _ 22 rfl B 5 i0 _ 1 1 Try.underlying22 hi hz0 hz1 hz2 rfl (by decide) v1 _ _ rfl (ho1.alloc _) ⟨w1.heap.size, 0, none⟩ 1 1 [_] rfl rfl (cell_one_new _ _ _) (by simp [Value.oneCell']) ?c3 ?c4 ?c5 ?_)
      case c3 => unfold maxLen; omega
      case c4 => omega
      case c5 => simp; omega
      intro v2 w2 hown2 hgrow2 _ hat2
      have hA2 := hA1.trans (App.of_at _ hgrow2 hat2 (by omega) : App w1 w2 v1 v2)
      have HO2 : Hid _ := own_snoc hown2
      clear hown2 hgrow2 hat2 ho1
      obtain ⟨p14, p15, hB2⟩ := HR.out _ _ hA2
      go_wp2
      go_ret
      refine ⟨v2, rfl, ?_, App.trans HA0.out hA2⟩
      refine enc_eq ?_ HO2.out
      simp [enc, fl, tl, *]

set_option maxRecDepth 1000000 in
set_option maxHeartbeats 4000000 in
theorem acq_01 (B n : Nat) (v : Value) (xs : List Value) (s : ByteArray) (a : Option Addr) (c m : Nat) (K : List Int) (hm : K.length = m) (cs : Array Value) (hsz : cs.size = 41) (h1 : cs[1]? = some (.slice a m c)) (h10 : cs[10]? = some (.string s))
    (mode wait : Int) (req : Nat) (h13 : cs[13]? = some (.int .u8 mode)) (h14 : cs[14]? = some (.int .i64 wait)) (h15 : cs[15]? = some (.int .u64 req)) (hw2 : wait < 9223372036854775808) (hr : req < 18446744073709551616)
    (hl : s.size ≤ 131072) (hk : m ≤ 131072) (w : World) (hown : w.ownsRow B 5 1 v n xs) (hB : B ≤ w.heap.size) (hn : n ≤ 1000000) (hf : Fld w v a c K) (hreq : req = 0) (hwait : 0 < wait) :
    Calls Try.prog 25 #[.agg cs, v] w fun e w' => ∃ v', e = .returned v' ∧ w'.ownsRow B 5 1 v' (n + (enc s K mode wait req).length) (xs ++ bs (enc s K mode wait req)) ∧ App w w' v v' := by
  obtain ⟨i0, hi, hz0, hz1, hz2⟩ := info_parts info5
  have hA0 : App w (w.alloc (.cells cs 58)) v v := ⟨World.grownBy_alloc w (.cells cs 58) v.ownBlock, .inl rfl⟩
  have hne : some w.heap.size ≠ v.ownBlock := fun e => by have := (hown.lt _ e.symm).2; omega
  have hlck := lck_len s K hl (by omega)
  have hB0 : B ≤ (w.alloc (.cells cs 58)).heap.size := Nat.le_trans hB hA0.1.size
  have HR0 : Hid ((w.alloc (.cells cs 58)).rangeAt w.heap.size 0 cs.toList) := fun j u hu => by
    have hu' : cs[j]? = some u := by simpa using hu
    simp [go_sem, hu']
  have HR : Hid (∀ w' v', App (w.alloc (.cells cs 58)) w' v v' → w'.cell? ⟨w.heap.size, 14, none⟩ = some (.int .i64 wait) ∧ w'.cell? ⟨w.heap.size, 15, none⟩ = some (.int .u64 req) ∧ B ≤ w'.heap.size) := fun w' v' hA =>
    ⟨(hA.cell (p := ⟨w.heap.size, 14, none⟩) (show w.heap.size < (w.alloc (.cells cs 58)).heap.size by simp) hne).trans (by simp [go_sem, h14]),
     (hA.cell (p := ⟨w.heap.size, 15, none⟩) (show w.heap.size < (w.alloc (.cells cs 58)).heap.size by simp) hne).trans (by simp [go_sem, h15]), Nat.le_trans hB0 hA.1.size⟩
  have HL : Hid (Calls Try.prog 26 #[.agg cs, v] (w.alloc (.cells cs 58)) fun e w1 => ∃ v1, e = .returned v1 ∧ w1.ownsRow B 5 1 v1 (n + (lck s K).length) (xs ++ bs (lck s K)) ∧ App (w.alloc (.cells cs 58)) w1 v v1) :=
    lockOf_any B n v xs s a c m K hm cs hsz h1 h10 hl hk _ (hown.alloc _) hB0 hn (hf.later hA0)
  have HA0 : Hid (App w (w.alloc (.cells cs 58)) v v) := hA0
  have HI : Hid ((Try.prog.info? 58).map (·.size) = some cs.toList.length) := by
    show _ = _
    rw [Array.length_toList, hsz]; exact size58
  clear hA0 hf hB0 hne hsz
  subst hreq
  by_cases hmode : mode = 1
  · go_enter Try.func25, Try.ntmps25
    go_wp2_with (refine wpList_load_mid rfl 58 _ rfl _ _ rfl cs.toList _ HR0.out Try.underlying58 rfl HI.out ?_)
    refine HL.out.mono ?_
    rintro e w1 ⟨v1, rfl, ho1, hA1⟩
    obtain ⟨-, -, hB1⟩ := HR.out _ _ hA1
    go_wp2_with (at_builtin; refine wpList_append_own_at _ rfl _ _ 22 rfl B 5 i0 _ 1 1 Try.underlying22 hi hz0 hz1 hz2 rfl (by decide) v1 _ _ rfl (ho1.alloc _) ⟨w1.heap.size, 0, none⟩ 1 1 [_] rfl rfl (cell_one_new _ _ _) (by simp [Value.oneCell']) ?c3 ?c4 ?c5 ?_)
    case c3 => unfold maxLen; omega
    case c4 => omega
    case c5 => simp; omega
    intro v2 w2 hown2 hgrow2 _ hat2
    have hA2 := hA1.trans (App.of_at _ hgrow2 hat2 (by omega) : App w1 w2 v1 v2)
    have HO2 : Hid _ := own_snoc hown2
    clear hown2 hgrow2 hat2 ho1
    obtain ⟨p14, p15, hB2⟩ := HR.out _ _ hA2
    go_wp2_with fail
    rw [show Value.int .u64 wait = .int .u64 (wait.toNat : Int) by rw [Int.toNat_of_nonneg (by omega)]]
    refine (uvarint_any B _ v2 _ wait.toNat (by omega) _ HO2.out hB2 (len_ok2 hn hlck)).mono ?_
    rintro e w3 ⟨v3, rfl, ho3, hA3'⟩
    have hA3 := hA2.trans hA3'
    have HO3 : Hid _ := own_app ho3 rfl
    clear ho3 hA3'
    obtain ⟨q14_2, q15_2, hB3⟩ := HR.out _ _ hA3
    go_wp2
    go_ret
    refine ⟨v3, rfl, ?_, App.trans HA0.out hA3⟩
    refine enc_eq ?_ HO3.out
    have hw0 : wait ≠ 0 := by omega
    simp [enc, fl, tl, *]
  · go_enter Try.func25, Try.ntmps25
    go_wp2_with (refine wpList_load_mid rfl 58 _ rfl _ _ rfl cs.toList _ HR0.out Try.underlying58 rfl HI.out ?_)
    refine HL.out.mono ?_
    rintro e w1 ⟨v1, rfl, ho1, hA1⟩
    obtain ⟨-, -, hB1⟩ := HR.out _ _ hA1
    go_wp2_with (at_builtin; refine wpList_append_own_at _ rfl _ _ 22 rfl B 5 i0 _ 1 1 Try.underlying22 hi hz0 hz1 hz2 rfl (by decide) v1 _ _ rfl (ho1.alloc _) ⟨w1.heap.size, 0, none⟩ 1 1 [_] rfl rfl (cell_one_new _ _ _) (by simp [Value.oneCell']) ?c3 ?c4 ?c5 ?_)
    case c3 => unfold maxLen; omega
    case c4 => omega
    case c5 => simp; omega
    intro v2 w2 hown2 hgrow2 _ hat2
    have hA2 := hA1.trans (App.of_at _ hgrow2 hat2 (by omega) : App w1 w2 v1 v2)
    have HO2 : Hid _ := own_snoc hown2
    clear hown2 hgrow2 hat2 ho1
    obtain ⟨p14, p15, hB2⟩ := HR.out _ _ hA2
    go_wp2_with fail
    rw [show Value.int .u64 wait = .int .u64 (wait.toNat : Int) by rw [Int.toNat_of_nonneg (by omega)]]
    refine (uvarint_any B _ v2 _ wait.toNat (by omega) _ HO2.out hB2 (len_ok2 hn hlck)).mono ?_
    rintro e w3 ⟨v3, rfl, ho3, hA3'⟩
    have hA3 := hA2.trans hA3'
    have HO3 : Hid _ := own_app ho3 rfl
    clear ho3 hA3'
    obtain ⟨q14_2, q15_2, hB3⟩ := HR.out _ _ hA3
    go_wp2
    go_ret
    refine ⟨v3, rfl, ?_, App.trans HA0.out hA3⟩
    refine enc_eq ?_ HO3.out
    have hw0 : wait ≠ 0 := by omega
    simp [enc, fl, tl, *]

set_option maxRecDepth 1000000 in
set_option maxHeartbeats 4000000 in
theorem acq_10 (B n : Nat) (v : Value) (xs : List Value) (s : ByteArray) (a : Option Addr) (c m : Nat) (K : List Int) (hm : K.length = m) (cs : Array Value) (hsz : cs.size = 41) (h1 : cs[1]? = some (.slice a m c)) (h10 : cs[10]? = some (.string s))
    (mode wait : Int) (req : Nat) (h13 : cs[13]? = some (.int .u8 mode)) (h14 : cs[14]? = some (.int .i64 wait)) (h15 : cs[15]? = some (.int .u64 req)) (hw2 : wait < 9223372036854775808) (hr : req < 18446744073709551616)
    (hl : s.size ≤ 131072) (hk : m ≤ 131072) (w : World) (hown : w.ownsRow B 5 1 v n xs) (hB : B ≤ w.heap.size) (hn : n ≤ 1000000) (hf : Fld w v a c K) (hreq : req ≠ 0) (hwait : wait ≤ 0) :
    Calls Try.prog 25 #[.agg cs, v] w fun e w' => ∃ v', e = .returned v' ∧ w'.ownsRow B 5 1 v' (n + (enc s K mode wait req).length) (xs ++ bs (enc s K mode wait req)) ∧ App w w' v v' := by
  obtain ⟨i0, hi, hz0, hz1, hz2⟩ := info_parts info5
  have hA0 : App w (w.alloc (.cells cs 58)) v v := ⟨World.grownBy_alloc w (.cells cs 58) v.ownBlock, .inl rfl⟩
  have hne : some w.heap.size ≠ v.ownBlock := fun e => by have := (hown.lt _ e.symm).2; omega
  have hlck := lck_len s K hl (by omega)
  have hB0 : B ≤ (w.alloc (.cells cs 58)).heap.size := Nat.le_trans hB hA0.1.size
  have HR0 : Hid ((w.alloc (.cells cs 58)).rangeAt w.heap.size 0 cs.toList) := fun j u hu => by
    have hu' : cs[j]? = some u := by simpa using hu
    simp [go_sem, hu']
  have HR : Hid (∀ w' v', App (w.alloc (.cells cs 58)) w' v v' → w'.cell? ⟨w.heap.size, 14, none⟩ = some (.int .i64 wait) ∧ w'.cell? ⟨w.heap.size, 15, none⟩ = some (.int .u64 req) ∧ B ≤ w'.heap.size) := fun w' v' hA =>
    ⟨(hA.cell (p := ⟨w.heap.size, 14, none⟩) (show w.heap.size < (w.alloc (.cells cs 58)).heap.size by simp) hne).trans (by simp [go_sem, h14]),
     (hA.cell (p := ⟨w.heap.size, 15, none⟩) (show w.heap.size < (w.alloc (.cells cs 58)).heap.size by simp) hne).trans (by simp [go_sem, h15]), Nat.le_trans hB0 hA.1.size⟩
  have HL : Hid (Calls Try.prog 26 #[.agg cs, v] (w.alloc (.cells cs 58)) fun e w1 => ∃ v1, e = .returned v1 ∧ w1.ownsRow B 5 1 v1 (n + (lck s K).length) (xs ++ bs (lck s K)) ∧ App (w.alloc (.cells cs 58)) w1 v v1) :=
    lockOf_any B n v xs s a c m K hm cs hsz h1 h10 hl hk _ (hown.alloc _) hB0 hn (hf.later hA0)
  have HA0 : Hid (App w (w.alloc (.cells cs 58)) v v) := hA0
  have HI : Hid ((Try.prog.info? 58).map (·.size) = some cs.toList.length) := by
    show _ = _
    rw [Array.length_toList, hsz]; exact size58
  clear hA0 hf hB0 hne hsz
  rcases Int.lt_or_eq_of_le hwait with hneg | rfl
  · by_cases hmode : mode = 1
    · go_enter Try.func25, Try.ntmps25
      go_wp2_with (refine wpList_load_mid rfl 58 _ rfl _ _ rfl cs.toList _ HR0.out Try.underlying58 rfl HI.out ?_)
      refine HL.out.mono ?_
      rintro e w1 ⟨v1, rfl, ho1, hA1⟩
      obtain ⟨-, -, hB1⟩ := HR.out _ _ hA1
      go_wp2_with (at_builtin; refine wpList_append_own_at _ rfl _ _ 22 rfl B 5 i0 _ 1 1 Try.underlying22 hi hz0 hz1 hz2 rfl (by decide) v1 _ _ rfl (ho1.alloc _) ⟨w1.heap.size, 0, none⟩ 1 1 [_] rfl rfl (cell_one_new _ _ _) (by simp [Value.oneCell']) ?c3 ?c4 ?c5 ?_)
      case c3 => unfold maxLen; omega
      case c4 => omega
      case c5 => simp; omega
      intro v2 w2 hown2 hgrow2 _ hat2
      have hA2 := hA1.trans (App.of_at _ hgrow2 hat2 (by omega) : App w1 w2 v1 v2)
      have HO2 : Hid _ := own_snoc hown2
      clear hown2 hgrow2 hat2 ho1
      obtain ⟨p14, p15, hB2⟩ := HR.out _ _ hA2
      go_wp2_with fail
      refine (uvarint_any B _ v2 _ req hr _ HO2.out hB2 (len_ok2 hn hlck)).mono ?_
      rintro e w3 ⟨v3, rfl, ho3, hA3'⟩
      have hA3 := hA2.trans hA3'
      have HO3 : Hid _ := own_app ho3 rfl
      clear ho3 hA3'
      obtain ⟨q14_2, q15_2, hB3⟩ := HR.out _ _ hA3
      go_wp2
      go_ret
      refine ⟨v3, rfl, ?_, App.trans HA0.out hA3⟩
      refine enc_eq ?_ HO3.out
      have hw0 : wait ≠ 0 := by omega
      have hw3 : ¬ 0 < wait := by omega
      simp [enc, fl, tl, *]
    · go_enter Try.func25, Try.ntmps25
      go_wp2_with (refine wpList_load_mid rfl 58 _ rfl _ _ rfl cs.toList _ HR0.out Try.underlying58 rfl HI.out ?_)
      refine HL.out.mono ?_
      rintro e w1 ⟨v1, rfl, ho1, hA1⟩
      obtain ⟨-, -, hB1⟩ := HR.out _ _ hA1
      go_wp2_with (at_builtin; refine wpList_append_own_at _ rfl _ _ 22 rfl B 5 i0 _ 1 1 Try.underlying22 hi hz0 hz1 hz2 rfl (by decide) v1 _ _ rfl (ho1.alloc _) ⟨w1.heap.size, 0, none⟩ 1 1 [_] rfl rfl (cell_one_new _ _ _) (by simp [Value.oneCell']) ?c3 ?c4 ?c5 ?_)
      case c3 => unfold maxLen; omega
      case c4 => omega
      case c5 => simp; omega
      intro v2 w2 hown2 hgrow2 _ hat2
      have hA2 := hA1.trans (App.of_at _ hgrow2 hat2 (by omega) : App w1 w2 v1 v2)
      have HO2 : Hid _ := own_snoc hown2
      clear hown2 hgrow2 hat2 ho1
      obtain ⟨p14, p15, hB2⟩ := HR.out _ _ hA2
      go_wp2_with fail
      refine (uvarint_any B _ v2 _ req hr _ HO2.out hB2 (len_ok2 hn hlck)).mono ?_
      rintro e w3 ⟨v3, rfl, ho3, hA3'⟩
      have hA3 := hA2.trans hA3'
      have HO3 : Hid _ := own_app ho3 rfl
      clear ho3 hA3'
      obtain ⟨q14_2, q15_2, hB3⟩ := HR.out _ _ hA3
      go_wp2
      go_ret
      refine ⟨v3, rfl, ?_, App.trans HA0.out hA3⟩
      refine enc_eq ?_ HO3.out
      have hw0 : wait ≠ 0 := by omega
      have hw3 : ¬ 0 < wait := by omega
      simp [enc, fl, tl, *]
  · by_cases hmode : mode = 1
    · go_enter Try.func25, Try.ntmps25
      go_wp2_with (refine wpList_load_mid rfl 58 _ rfl _ _ rfl cs.toList _ HR0.out Try.underlying58 rfl HI.out ?_)
      refine HL.out.mono ?_
      rintro e w1 ⟨v1, rfl, ho1, hA1⟩
      obtain ⟨-, -, hB1⟩ := HR.out _ _ hA1
      go_wp2_with (at_builtin; refine wpList_append_own_at _ rfl _ _ 22 rfl B 5 i0 _ 1 1 Try.underlying22 hi hz0 hz1 hz2 rfl (by decide) v1 _ _ rfl (ho1.alloc _) ⟨w1.heap.size, 0, none⟩ 1 1 [_] rfl rfl (cell_one_new _ _ _) (by simp [Value.oneCell']) ?c3 ?c4 ?c5 ?_)
      case c3 => unfold maxLen; omega
      case c4 => omega
      case c5 => simp; omega
      intro v2 w2 hown2 hgrow2 _ hat2
      have hA2 := hA1.trans (App.of_at _ hgrow2 hat2 (by omega) : App w1 w2 v1 v2)
      have HO2 : Hid _ := own_snoc hown2
      clear hown2 hgrow2 hat2 ho1
      obtain ⟨p14, p15, hB2⟩ := HR.out _ _ hA2
      go_wp2_with fail
      refine (uvarint_any B _ v2 _ req hr _ HO2.out hB2 (len_ok2 hn hlck)).mono ?_
      rintro e w3 ⟨v3, rfl, ho3, hA3'⟩
      have hA3 := hA2.trans hA3'
      have HO3 : Hid _ := own_app ho3 rfl
      clear ho3 hA3'
      obtain ⟨q14_2, q15_2, hB3⟩ := HR.out _ _ hA3
      go_wp2
      go_ret
      refine ⟨v3, rfl, ?_, App.trans HA0.out hA3⟩
      refine enc_eq ?_ HO3.out
      simp [enc, fl, tl, *]
    · go_enter Try.func25, Try.ntmps25
      go_wp2_with (refine wpList_load_mid rfl 58 _ rfl _ _ rfl cs.toList _ HR0.out Try.underlying58 rfl HI.out ?_)
      refine HL.out.mono ?_
      rintro e w1 ⟨v1, rfl, ho1, hA1⟩
      obtain ⟨-, -, hB1⟩ := HR.out _ _ hA1
      go_wp2_with (at_builtin; refine wpList_append_own_at _ rfl _ _ 22 rfl B 5 i0 _ 1 1 Try.underlying22 hi hz0 hz1 hz2 rfl (by decide) v1 _ _ rfl (ho1.alloc _) ⟨w1.heap.size, 0, none⟩ 1 1 [_] rfl rfl (cell_one_new _ _ _) (by simp [Value.oneCell']) ?c3 ?c4 ?c5 ?_)
      case c3 => unfold maxLen; omega
      case c4 => omega
      case c5 => simp; omega
      intro v2 w2 hown2 hgrow2 _ hat2
      have hA2 := hA1.trans (App.of_at _ hgrow2 hat2 (by omega) : App w1 w2 v1 v2)
      have HO2 : Hid _ := own_snoc hown2
      clear hown2 hgrow2 hat2 ho1
      obtain ⟨p14, p15, hB2⟩ := HR.out _ _ hA2
      go_wp2_with fail
      refine (uvarint_any B _ v2 _ req hr _ HO2.out hB2 (len_ok2 hn hlck)).mono ?_
      rintro e w3 ⟨v3, rfl, ho3, hA3'⟩
      have hA3 := hA2.trans hA3'
      have HO3 : Hid _ := own_app ho3 rfl
      clear ho3 hA3'
      obtain ⟨q14_2, q15_2, hB3⟩ := HR.out _ _ hA3
      go_wp2
      go_ret
      refine ⟨v3, rfl, ?_, App.trans HA0.out hA3⟩
      refine enc_eq ?_ HO3.out
      simp [enc, fl, tl, *]

set_option maxRecDepth 1000000 in
set_option maxHeartbeats 4000000 in
theorem acq_11 (B n : Nat) (v : Value) (xs : List Value) (s : ByteArray) (a : Option Addr) (c m : Nat) (K : List Int) (hm : K.length = m) (cs : Array Value) (hsz : cs.size = 41) (h1 : cs[1]? = some (.slice a m c)) (h10 : cs[10]? = some (.string s))
    (mode wait : Int) (req : Nat) (h13 : cs[13]? = some (.int .u8 mode)) (h14 : cs[14]? = some (.int .i64 wait)) (h15 : cs[15]? = some (.int .u64 req)) (hw2 : wait < 9223372036854775808) (hr : req < 18446744073709551616)
    (hl : s.size ≤ 131072) (hk : m ≤ 131072) (w : World) (hown : w.ownsRow B 5 1 v n xs) (hB : B ≤ w.heap.size) (hn : n ≤ 1000000) (hf : Fld w v a c K) (hreq : req ≠ 0) (hwait : 0 < wait) :
    Calls Try.prog 25 #[.agg cs, v] w fun e w' => ∃ v', e = .returned v' ∧ w'.ownsRow B 5 1 v' (n + (enc s K mode wait req).length) (xs ++ bs (enc s K mode wait req)) ∧ App w w' v v' := by
  obtain ⟨i0, hi, hz0, hz1, hz2⟩ := info_parts info5
  have hA0 : App w (w.alloc (.cells cs 58)) v v := ⟨World.grownBy_alloc w (.cells cs 58) v.ownBlock, .inl rfl⟩
  have hne : some w.heap.size ≠ v.ownBlock := fun e => by have := (hown.lt _ e.symm).2; omega
  have hlck := lck_len s K hl (by omega)
  have hB0 : B ≤ (w.alloc (.cells cs 58)).heap.size := Nat.le_trans hB hA0.1.size
  have HR0 : Hid ((w.alloc (.cells cs 58)).rangeAt w.heap.size 0 cs.toList) := fun j u hu => by
    have hu' : cs[j]? = some u := by simpa using hu
    simp [go_sem, hu']
  have HR : Hid (∀ w' v', App (w.alloc (.cells cs 58)) w' v v' → w'.cell? ⟨w.heap.size, 14, none⟩ = some (.int .i64 wait) ∧ w'.cell? ⟨w.heap.size, 15, none⟩ = some (.int .u64 req) ∧ B ≤ w'.heap.size) := fun w' v' hA =>
    ⟨(hA.cell (p := ⟨w.heap.size, 14, none⟩) (show w.heap.size < (w.alloc (.cells cs 58)).heap.size by simp) hne).trans (by simp [go_sem, h14]),
     (hA.cell (p := ⟨w.heap.size, 15, none⟩) (show w.heap.size < (w.alloc (.cells cs 58)).heap.size by simp) hne).trans (by simp [go_sem, h15]), Nat.le_trans hB0 hA.1.size⟩
  have HL : Hid (Calls Try.prog 26 #[.agg cs, v] (w.alloc (.cells cs 58)) fun e w1 => ∃ v1, e = .returned v1 ∧ w1.ownsRow B 5 1 v1 (n + (lck s K).length) (xs ++ bs (lck s K)) ∧ App (w.alloc (.cells cs 58)) w1 v v1) :=
    lockOf_any B n v xs s a c m K hm cs hsz h1 h10 hl hk _ (hown.alloc _) hB0 hn (hf.later hA0)
  have HA0 : Hid (App w (w.alloc (.cells cs 58)) v v) := hA0
  have HI : Hid ((Try.prog.info? 58).map (·.size) = some cs.toList.length) := by
    show _ = _
    rw [Array.length_toList, hsz]; exact size58
  clear hA0 hf hB0 hne hsz
  by_cases hmode : mode = 1
  · go_enter Try.func25, Try.ntmps25
    go_wp2_with (refine wpList_load_mid rfl 58 _ rfl _ _ rfl cs.toList _ HR0.out Try.underlying58 rfl HI.out ?_)
    refine HL.out.mono ?_
    rintro e w1 ⟨v1, rfl, ho1, hA1⟩
    obtain ⟨-, -, hB1⟩ := HR.out _ _ hA1
    go_wp2_with (at_builtin; refine wpList_append_own_at _ rfl _ _ 22 rfl B 5 i0 _ 1 1 Try.underlying22 hi hz0 hz1 hz2 rfl (by decide) v1 _ _ rfl (ho1.alloc _) ⟨w1.heap.size, 0, none⟩ 1 1 [_] rfl rfl (cell_one_new _ _ _) (by simp [Value.oneCell']) ?c3 ?c4 ?c5 ?_)
    case c3 => unfold maxLen; omega
    case c4 => omega
    case c5 => simp; omega
    intro v2 w2 hown2 hgrow2 _ hat2
    have hA2 := hA1.trans (App.of_at _ hgrow2 hat2 (by omega) : App w1 w2 v1 v2)
    have HO2 : Hid _ := own_snoc hown2
    clear hown2 hgrow2 hat2 ho1
    obtain ⟨p14, p15, hB2⟩ := HR.out _ _ hA2
    go_wp2_with fail
    refine (uvarint_any B _ v2 _ req hr _ HO2.out hB2 (len_ok2 hn hlck)).mono ?_
    rintro e w3 ⟨v3, rfl, ho3, hA3'⟩
    have hA3 := hA2.trans hA3'
    have HO3 : Hid _ := own_app ho3 rfl
    clear ho3 hA3'
    obtain ⟨q14_2, q15_2, hB3⟩ := HR.out _ _ hA3
    go_wp2_with fail
    rw [show Value.int .u64 wait = .int .u64 (wait.toNat : Int) by rw [Int.toNat_of_nonneg (by omega)]]
    refine (uvarint_any B _ v3 _ wait.toNat (by omega) _ HO3.out hB3 (len_ok3 hn hlck)).mono ?_
    rintro e w4 ⟨v4, rfl, ho4, hA4'⟩
    have hA4 := hA3.trans hA4'
    have HO4 : Hid _ := own_app ho4 rfl
    clear ho4 hA4'
    obtain ⟨q14_3, q15_3, hB4⟩ := HR.out _ _ hA4
    go_wp2
    go_ret
    refine ⟨v4, rfl, ?_, App.trans HA0.out hA4⟩
    refine enc_eq ?_ HO4.out
    have hw0 : wait ≠ 0 := by omega
    simp [enc, fl, tl, *]
  · go_enter Try.func25, Try.ntmps25
    go_wp2_with (refine wpList_load_mid rfl 58 _ rfl _ _ rfl cs.toList _ HR0.out Try.underlying58 rfl HI.out ?_)
    refine HL.out.mono ?_
    rintro e w1 ⟨v1, rfl, ho1, hA1⟩
    obtain ⟨-, -, hB1⟩ := HR.out _ _ hA1
    go_wp2_with (at_builtin; refine wpList_append_own_at _ rfl _ _ 22 rfl B 5 i0 _ 1 1 Try.underlying22 hi hz0 hz1 hz2 rfl (by decide) v1 _ _ rfl (ho1.alloc _) ⟨w1.heap.size, 0, none⟩ 1 1 [_] rfl rfl (cell_one_new _ _ _) (by simp [Value.oneCell']) ?c3 ?c4 ?c5 ?_)
    case c3 => unfold maxLen; omega
    case c4 => omega
    case c5 => simp; omega
    intro v2 w2 hown2 hgrow2 _ hat2
    have hA2 := hA1.trans (App.of_at _ hgrow2 hat2 (by omega) : App w1 w2 v1 v2)
    have HO2 : Hid _ := own_snoc hown2
    clear hown2 hgrow2 hat2 ho1
    obtain ⟨p14, p15, hB2⟩ := HR.out _ _ hA2
    go_wp2_with fail
    refine (uvarint_any B _ v2 _ req hr _ HO2.out hB2 (len_ok2 hn hlck)).mono ?_
    rintro e w3 ⟨v3, rfl, ho3, hA3'⟩
    have hA3 := hA2.trans hA3'
    have HO3 : Hid _ := own_app ho3 rfl
    clear ho3 hA3'
    obtain ⟨q14_2, q15_2, hB3⟩ := HR.out _ _ hA3
    go_wp2_with fail
    rw [show Value.int .u64 wait = .int .u64 (wait.toNat : Int) by rw [Int.toNat_of_nonneg (by omega)]]
    refine (uvarint_any B _ v3 _ wait.toNat (by omega) _ HO3.out hB3 (len_ok3 hn hlck)).mono ?_
    rintro e w4 ⟨v4, rfl, ho4, hA4'⟩
    have hA4 := hA3.trans hA4'
    have HO4 : Hid _ := own_app ho4 rfl
    clear ho4 hA4'
    obtain ⟨q14_3, q15_3, hB4⟩ := HR.out _ _ hA4
    go_wp2
    go_ret
    refine ⟨v4, rfl, ?_, App.trans HA0.out hA4⟩
    refine enc_eq ?_ HO4.out
    have hw0 : wait ≠ 0 := by omega
    simp [enc, fl, tl, *]

theorem acq_any (B n : Nat) (v : Value) (xs : List Value) (s : ByteArray) (a : Option Addr) (c m : Nat) (K : List Int) (hm : K.length = m) (cs : Array Value) (hsz : cs.size = 41) (h1 : cs[1]? = some (.slice a m c)) (h10 : cs[10]? = some (.string s))
    (mode wait : Int) (req : Nat) (h13 : cs[13]? = some (.int .u8 mode)) (h14 : cs[14]? = some (.int .i64 wait)) (h15 : cs[15]? = some (.int .u64 req)) (hw2 : wait < 9223372036854775808) (hr : req < 18446744073709551616)
    (hl : s.size ≤ 131072) (hk : m ≤ 131072) (w : World) (hown : w.ownsRow B 5 1 v n xs) (hB : B ≤ w.heap.size) (hn : n ≤ 1000000) (hf : Fld w v a c K) :
    Calls Try.prog 25 #[.agg cs, v] w fun e w' => ∃ v', e = .returned v' ∧ w'.ownsRow B 5 1 v' (n + (enc s K mode wait req).length) (xs ++ bs (enc s K mode wait req)) ∧ App w w' v v' := by
  by_cases hreq : req = 0
  · by_cases hwait : 0 < wait
    · exact acq_01 B n v xs s a c m K hm cs hsz h1 h10 mode wait req h13 h14 h15 hw2 hr hl hk w hown hB hn hf hreq hwait
    · exact acq_00 B n v xs s a c m K hm cs hsz h1 h10 mode wait req h13 h14 h15 hw2 hr hl hk w hown hB hn hf hreq (by omega)
  · by_cases hwait : 0 < wait
    · exact acq_11 B n v xs s a c m K hm cs hsz h1 h10 mode wait req h13 h14 h15 hw2 hr hl hk w hown hB hn hf hreq hwait
    · exact acq_10 B n v xs s a c m K hm cs hsz h1 h10 mode wait req h13 h14 h15 hw2 hr hl hk w hown hB hn hf hreq (by omega)
end Go.Proofs.Qxb6614035a

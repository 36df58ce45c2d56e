/- FnAcquireReadsBackItsCommand: the walk. -/
import Derived.Test.Qxb6614035aMainA
import Derived.Test.Qxb6614035aCpy
namespace Go.Proofs.Qxb6614035a
open Go.RowKit

attribute [local go_sem] and_0_1 and_0_2 and_0_4 and_0_8 and_1_1 and_1_2 and_1_4 and_1_8 and_2_1 and_2_2 and_2_4 and_2_8 and_3_1 and_3_2 and_3_4 and_3_8 and_4_1 and_4_2 and_4_4 and_4_8 and_5_1 and_5_2 and_5_4 and_5_8 and_6_1 and_6_2 and_6_4 and_6_8 and_7_1 and_7_2 and_7_4 and_7_8 and_10_1 and_10_2 and_10_4 and_10_8 and_11_1 and_11_2 and_11_4 and_11_8 and_14_1 and_14_2 and_14_4 and_14_8 and_15_1 and_15_2 and_15_4 and_15_8

set_option maxRecDepth 1000000 in
set_option maxHeartbeats 4000000 in
theorem main_some (s : ByteArray) (x0 : Addr) (n c : Nat) (L : List Int) (mode wait : Int) (req : Nat) (fen : Bool) (name : ByteArray) (a' : Option Addr) (n' c' : Nat) (T : List Int) (w : World)
    (hm : L.length = n) (hL : Src w (some x0) L) (hm' : T.length = n') (hT : Src w a' T) (hT0 : a' = none → n' = 0 ∧ c' = 0)
    (hs : s.size ≤ 131072) (hn : n ≤ 131072) (hnm : name.size ≤ 131072) (hn' : n' ≤ 131072) (hw1 : -9223372036854775808 ≤ wait) (hw2 : wait < 9223372036854775808) (hr : req < 18446744073709551616) :
    Calls Try.prog 5 #[.string s, .slice (some x0) n c, .int .u8 mode, .int .i64 wait, .int .u64 req, .bool fen, .string name, .slice a' n' c'] w fun e w' => e = .returned (.bool true) ∧ Below w.heap.size w w' := by
  have hne := fun w => run_neq_slice_nil_any (P := Try.prog) w 22 5 (some x0) n c 0 0 Try.underlying22
  simp only [Option.isNone_some, Bool.not_false] at hne
  obtain ⟨i0, hi, hz0, hz1, hz2⟩ := info_parts info5
  have HL : Hid (Src w (some x0) L) := hL
  have HT : Hid (Src w a' T) := hT
  have HT0 : Hid (a' = none → n' = 0 ∧ c' = 0) := hT0
  have HR : Hid (req < 18446744073709551616) := hr
  have HW : Hid (wait < 9223372036854775808) := hw2
  have HW1 : Hid (-9223372036854775808 ≤ wait) := hw1
  have HM : Hid (L.length = n) := hm
  have HM' : Hid (T.length = n') := hm'
  have hlck := lck_len s L hs (by omega)
  clear hT hT0 hL hr hw2 hw1 hm hm'
  go_enter Try.func5, Try.ntmps5
  go_wp2_with fail
  refine (bytes16 s (some x0) n c mode wait req fen name a' n' c' w (by unfold maxLen; omega) (by unfold maxLen; omega) (by unfold maxLen; omega) (by unfold maxLen; omega)).mono ?_
  rintro e w' ⟨b, rfl, rfl⟩
  cases b
  · go_wp2
    go_ret
    exact ⟨rfl, Below.refl _ _⟩
  go_wp2_with (at_make; refine wpList_make_full _ rfl _ _ 22 rfl w.heap.size 5 i0 _ 1 Try.underlying22 hi hz0 hz1 _ _ _ _ n rfl rfl rfl rfl (by rw [hz2]; omega) (by unfold maxLen; omega) (Nat.le_refl _) ?_)
  intro w0 hown0 hgrow0
  obtain ⟨wx, hcopy, hfx, hbx⟩ := copied (c := c) hown0 ((Below.refl _ _).grown hgrow0 (Nat.le_refl _) (fun k h => by cases h)) HM.out (by omega) HL.out
  have HF : Hid (Fld wx (.slice none 0 0) (some ⟨w.heap.size, 0, none⟩) n L) := hfx
  have HBX : Hid (Below w.heap.size w wx) := hbx
  clear hown0 hgrow0 hfx hbx HL
  go_wp2_with fail
  refine (copy_any a' n' c' T _ HM'.out (by omega) (HT.out.below HBX.out) HT0.out).mono ?_
  rintro e w2 ⟨v2, rfl, ho2, hb2⟩
  have HO2 : Hid (w2.ownsRow wx.heap.size 5 1 v2 n' (bs T)) := ho2
  have HB2 : Hid (Below wx.heap.size wx w2) := hb2
  clear ho2 hb2
  go_wp2_with fail
  refine (zacq_any wx.heap.size n' v2 (bs T) s (some ⟨w.heap.size, 0, none⟩) n n L HM.out mode wait req fen name HW.out HR.out hs hn _ HO2.out HB2.out.size (by omega) (HF.out.below HB2.out (fun k hk => (HO2.out.lt k hk).1))).mono ?_
  rintro e w3 ⟨v3, rfl, ho3, hA3⟩
  have HO3 : Hid (w3.ownsRow wx.heap.size 5 1 v3 (n' + (enc s L mode wait req).length) (bs T ++ bs (enc s L mode wait req))) := ho3
  have HA3 : Hid (App w2 w3 v2 v3) := hA3
  have HB3 : Hid (Below wx.heap.size wx w3) := HB2.out.trans (hA3.below HB2.out.size (fun k hk => (HO2.out.lt k hk).1))
  clear ho3 hA3
  go_wp2_with fail
  refine (zlck_any w3.heap.size 0 (.slice none 0 0) [] s (some ⟨w.heap.size, 0, none⟩) n n L HM.out hs hn _ (World.ownsRow_nil _ _ _ _) (Nat.le_refl _) (by omega) (HF.out.below HB3.out (fun k hk => by cases hk))).mono ?_
  rintro e w4 ⟨v4, rfl, ho4, hA4⟩
  obtain ⟨N3, hN3⟩ : ∃ N3, n' + (enc s L mode wait req).length = N3 := ⟨_, rfl⟩
  obtain ⟨N4, hN4⟩ : ∃ N4, (lck s L).length = N4 := ⟨_, rfl⟩
  obtain ⟨a3, c3, a4, c4, rfl, rfl, s3, s4, sT, sL, hbw⟩ := stage HBX.out HF.out HT.out HO2.out HB2.out HO3.out HA3.out ho4 hA4 hN3 hN4
  obtain ⟨u, p, v, J, hRd⟩ := rds n c3 c4 c' s3 s4 sT sL hN3 hN4 HM.out HM'.out hs hn hn' HW.out HR.out
  have HBW : Hid (Below w.heap.size w w4) := hbw
  have RD : Hid (Rds w4 (some ⟨w.heap.size, 0, none⟩) a3 a4 a' n c3 c4 c' n n' N3 N4 u p v J s (fl mode wait req) wait req) := hRd
  have k1 := hRd.num3
  have k2 := hRd.num3'
  have k3 := hRd.num4
  obtain ⟨g, off, rfl, -⟩ := hRd.flag
  clear ho4 hA4 s3 s4 sT sL hbw HO2 HB2 HO3 HA3 HB3 HF HT HT0 HBX hN3 hN4 hRd hlck hcopy
  go_wp2_with fail
  refine (RD.out.has1 _ (Below.refl _ _)).mono ?_
  rintro e w5 ⟨rfl, hb5⟩
  go_wp2_with fail
  refine (RD.out.has2 _ hb5).mono ?_
  rintro e w6 ⟨rfl, hb6⟩
  clear hb5
  go_wp2_with fail
  refine (RD.out.fld1 _ hb6).mono ?_
  rintro e w7 ⟨rfl, hb7⟩
  clear hb6
  go_wp2_with fail
  refine (RD.out.eq1 _ hb7).mono ?_
  rintro e w8 ⟨rfl, hb8⟩
  clear hb7
  go_wp2_with fail
  refine (RD.out.fld2 _ hb8).mono ?_
  rintro e w9 ⟨rfl, hb9⟩
  clear hb8
  go_wp2_with fail
  refine (RD.out.eq2 _ hb9).mono ?_
  rintro e wa ⟨rfl, hba⟩
  clear hb9
  have q : wa.cell? ⟨g, off + (n' + N4), none⟩ = some (.int .u8 (fl mode wait req)) := by
    obtain ⟨g', off', he, hc⟩ := RD.out.flag
    cases he
    exact hc _ hba
  obtain ⟨f, hf⟩ : ∃ f, fl mode wait req = f := ⟨_, rfl⟩
  rw [hf] at q
  have HF : Hid (fl mode wait req = f) := hf
  clear hf
  rcases Int.lt_trichotomy wait 0 with hwait | hwait | hwait
  · have hwz : wait ≠ 0 := by omega
    have hwn : ¬ 0 < wait := by omega
    by_cases hmode : mode = 1
    · by_cases hreq : req = 0
      · obtain rfl : f = 3 := by
          have := HF.out
          rw [← this]
          simp [fl, hmode, hreq, hwz, hwn]
        clear HF
        have hJ := RD.out.numJ hreq
        have hq0 : (req : Int) = 0 := by omega
        have hJ3 := RD.out.numW (by omega)
        have hJi : (n' : Int) + N4 + 1 = N3 := by omega
        clear hJ hJ3
        go_wp2_with fail
        refine (canonWait _ _).mono ?_
        rintro e wd ⟨rfl, rfl⟩
        go_wp2
        go_ret
        exact ⟨rfl, bt HBW.out hba⟩
      · obtain rfl : f = 7 := by
          have := HF.out
          rw [← this]
          simp [fl, hmode, hreq, hwz, hwn]
        clear HF
        have hq0 : (req : Int) ≠ 0 := by omega
        have hJ3 := RD.out.numW (by omega)
        subst hJ3
        go_wp2_with fail
        refine (RD.out.uvr hreq _ hba).mono ?_
        rintro e wb ⟨rfl, hbb⟩
        go_wp2_with fail
        refine (canonWait _ _).mono ?_
        rintro e wd ⟨rfl, rfl⟩
        go_wp2
        go_ret
        exact ⟨rfl, bt HBW.out hbb⟩
    · have hmb : (mode == 1) = false := by simp [hmode]
      by_cases hreq : req = 0
      · obtain rfl : f = 2 := by
          have := HF.out
          rw [← this]
          simp [fl, hmode, hreq, hwz, hwn]
        clear HF
        have hJ := RD.out.numJ hreq
        have hq0 : (req : Int) = 0 := by omega
        have hJ3 := RD.out.numW (by omega)
        have hJi : (n' : Int) + N4 + 1 = N3 := by omega
        clear hJ hJ3
        go_wp2_with fail
        refine (canonWait _ _).mono ?_
        rintro e wd ⟨rfl, rfl⟩
        go_wp2
        go_ret
        exact ⟨rfl, bt HBW.out hba⟩
      · obtain rfl : f = 6 := by
          have := HF.out
          rw [← this]
          simp [fl, hmode, hreq, hwz, hwn]
        clear HF
        have hq0 : (req : Int) ≠ 0 := by omega
        have hJ3 := RD.out.numW (by omega)
        subst hJ3
        go_wp2_with fail
        refine (RD.out.uvr hreq _ hba).mono ?_
        rintro e wb ⟨rfl, hbb⟩
        go_wp2_with fail
        refine (canonWait _ _).mono ?_
        rintro e wd ⟨rfl, rfl⟩
        go_wp2
        go_ret
        exact ⟨rfl, bt HBW.out hbb⟩
  · by_cases hmode : mode = 1
    · by_cases hreq : req = 0
      · obtain rfl : f = 1 := by
          have := HF.out
          rw [← this]
          simp [fl, hmode, hreq, hwait]
        clear HF
        have hJ := RD.out.numJ hreq
        have hq0 : (req : Int) = 0 := by omega
        have hJ3 := RD.out.numW (by omega)
        have hJi : (n' : Int) + N4 + 1 = N3 := by omega
        clear hJ hJ3
        go_wp2_with fail
        refine (canonWait _ _).mono ?_
        rintro e wd ⟨rfl, rfl⟩
        go_wp2
        go_ret
        exact ⟨rfl, bt HBW.out hba⟩
      · obtain rfl : f = 5 := by
          have := HF.out
          rw [← this]
          simp [fl, hmode, hreq, hwait]
        clear HF
        have hq0 : (req : Int) ≠ 0 := by omega
        have hJ3 := RD.out.numW (by omega)
        subst hJ3
        go_wp2_with fail
        refine (RD.out.uvr hreq _ hba).mono ?_
        rintro e wb ⟨rfl, hbb⟩
        go_wp2_with fail
        refine (canonWait _ _).mono ?_
        rintro e wd ⟨rfl, rfl⟩
        go_wp2
        go_ret
        exact ⟨rfl, bt HBW.out hbb⟩
    · have hmb : (mode == 1) = false := by simp [hmode]
      by_cases hreq : req = 0
      · obtain rfl : f = 0 := by
          have := HF.out
          rw [← this]
          simp [fl, hmode, hreq, hwait]
        clear HF
        have hJ := RD.out.numJ hreq
        have hq0 : (req : Int) = 0 := by omega
        have hJ3 := RD.out.numW (by omega)
        have hJi : (n' : Int) + N4 + 1 = N3 := by omega
        clear hJ hJ3
        go_wp2_with fail
        refine (canonWait _ _).mono ?_
        rintro e wd ⟨rfl, rfl⟩
        go_wp2
        go_ret
        exact ⟨rfl, bt HBW.out hba⟩
      · obtain rfl : f = 4 := by
          have := HF.out
          rw [← this]
          simp [fl, hmode, hreq, hwait]
        clear HF
        have hq0 : (req : Int) ≠ 0 := by omega
        have hJ3 := RD.out.numW (by omega)
        subst hJ3
        go_wp2_with fail
        refine (RD.out.uvr hreq _ hba).mono ?_
        rintro e wb ⟨rfl, hbb⟩
        go_wp2_with fail
        refine (canonWait _ _).mono ?_
        rintro e wd ⟨rfl, rfl⟩
        go_wp2
        go_ret
        exact ⟨rfl, bt HBW.out hbb⟩
  · have hwz : wait ≠ 0 := by omega
    have hwn : ¬ wait < 0 := by omega
    by_cases hmode : mode = 1
    · by_cases hreq : req = 0
      · obtain rfl : f = 11 := by
          have := HF.out
          rw [← this]
          simp [fl, hmode, hreq, hwait, hwz]
        clear HF
        have hJ := RD.out.numJ hreq
        have hq0 : (req : Int) = 0 := by omega
        have hU := RD.out.uvw hwait
        rw [hJ] at hU
        simp only [Int.natCast_add, Int.cast_ofNat_Int] at hU
        have HU : Hid _ := hU
        clear hU hJ
        go_wp2_with fail
        refine (Calls.mono (HU.out _ hba) ?_)
        rintro e wc ⟨rfl, hbc⟩
        have hw64 : wait ≤ 9223372036854775807 := by have := HW.out; omega
        have hw65 : ¬ 9223372036854775807 < wait := by omega
        have hwb : (wait == 0) = false := by simp [hwz]
        go_wp2_with fail
        refine (canonWait _ _).mono ?_
        rintro e wd ⟨rfl, rfl⟩
        go_wp2
        go_ret
        exact ⟨rfl, bt HBW.out hbc⟩
      · obtain rfl : f = 15 := by
          have := HF.out
          rw [← this]
          simp [fl, hmode, hreq, hwait, hwz]
        clear HF
        have hq0 : (req : Int) ≠ 0 := by omega
        have hU := RD.out.uvw hwait
        have HU : Hid _ := hU
        clear hU
        go_wp2_with fail
        refine (RD.out.uvr hreq _ hba).mono ?_
        rintro e wb ⟨rfl, hbb⟩
        go_wp2_with fail
        refine (Calls.mono (HU.out _ hbb) ?_)
        rintro e wc ⟨rfl, hbc⟩
        have hw64 : wait ≤ 9223372036854775807 := by have := HW.out; omega
        have hw65 : ¬ 9223372036854775807 < wait := by omega
        have hwb : (wait == 0) = false := by simp [hwz]
        go_wp2_with fail
        refine (canonWait _ _).mono ?_
        rintro e wd ⟨rfl, rfl⟩
        go_wp2
        go_ret
        exact ⟨rfl, bt HBW.out hbc⟩
    · have hmb : (mode == 1) = false := by simp [hmode]
      by_cases hreq : req = 0
      · obtain rfl : f = 10 := by
          have := HF.out
          rw [← this]
          simp [fl, hmode, hreq, hwait, hwz]
        clear HF
        have hJ := RD.out.numJ hreq
        have hq0 : (req : Int) = 0 := by omega
        have hU := RD.out.uvw hwait
        rw [hJ] at hU
        simp only [Int.natCast_add, Int.cast_ofNat_Int] at hU
        have HU : Hid _ := hU
        clear hU hJ
        go_wp2_with fail
        refine (Calls.mono (HU.out _ hba) ?_)
        rintro e wc ⟨rfl, hbc⟩
        have hw64 : wait ≤ 9223372036854775807 := by have := HW.out; omega
        have hw65 : ¬ 9223372036854775807 < wait := by omega
        have hwb : (wait == 0) = false := by simp [hwz]
        go_wp2_with fail
        refine (canonWait _ _).mono ?_
        rintro e wd ⟨rfl, rfl⟩
        go_wp2
        go_ret
        exact ⟨rfl, bt HBW.out hbc⟩
      · obtain rfl : f = 14 := by
          have := HF.out
          rw [← this]
          simp [fl, hmode, hreq, hwait, hwz]
        clear HF
        have hq0 : (req : Int) ≠ 0 := by omega
        have hU := RD.out.uvw hwait
        have HU : Hid _ := hU
        clear hU
        go_wp2_with fail
        refine (RD.out.uvr hreq _ hba).mono ?_
        rintro e wb ⟨rfl, hbb⟩
        go_wp2_with fail
        refine (Calls.mono (HU.out _ hbb) ?_)
        rintro e wc ⟨rfl, hbc⟩
        have hw64 : wait ≤ 9223372036854775807 := by have := HW.out; omega
        have hw65 : ¬ 9223372036854775807 < wait := by omega
        have hwb : (wait == 0) = false := by simp [hwz]
        go_wp2_with fail
        refine (canonWait _ _).mono ?_
        rintro e wd ⟨rfl, rfl⟩
        go_wp2
        go_ret
        exact ⟨rfl, bt HBW.out hbc⟩
end Go.Proofs.Qxb6614035a

/- FnSplitArgsMatchesOnePassModel: the walk of the law. -/
import Derived.Test.Qxb6613183aMis
namespace Go.Proofs.Qxb6613183a
open Go.RowKit

theorem info24 : (Try.prog.info? 24).map (fun i => (i.zero, i.size, i.bytes)) = some (some (.int .u64 0), 1, 8) := by kernel_rfl

abbrev nums (l : List (Bool × Int)) : List Value := l.map fun x => .int .u64 x.2

/-- The first loop's relation: what has been gathered of P. -/
def MRel (B1 B2 : Nat) (w1 wr : World) (len : Nat) (P : List (Bool × Int)) : Prop :=
  wr.ownsRow B1 24 1 (.slice (some ⟨B1, 0, none⟩) (unn P).length len) (unn P).length (nums (unn P)) ∧
  wr.ownsRow B1 24 1 (.slice (some ⟨B2, 0, none⟩) (nam P).length len) (nam P).length (nums (nam P)) ∧ Below B1 w1 wr ∧ B1 ≤ wr.heap.size ∧ B1 < B2

theorem MRel.addU {B1 B2 : Nat} {w1 wr w' : World} {len : Nat} {P : List (Bool × Int)} {n : Int} (h : MRel B1 B2 w1 wr len P) (ob : Obj)
    (hown : w'.ownsRow B1 24 1 (.slice (some ⟨B1, 0, none⟩) ((unn P).length + 1) len) ((unn P).length + 1) (nums (unn P) ++ [.int .u64 n])) (hg : (wr.alloc ob).grownBy w' (some B1)) : MRel B1 B2 w1 w' len (P ++ [(false, n)]) := by
  obtain ⟨a, b, c, d, f⟩ := h
  have e1 : unn (P ++ [(false, n)]) = unn P ++ [(false, n)] := by simp [unn]
  have e2 : nam (P ++ [(false, n)]) = nam P := by simp [nam]
  refine ⟨by rw [e1]; simpa using hown, by rw [e2]; exact (b.alloc ob).kept hg (.inr (by simp [Value.ownBlock]; omega)), (c.alloc d ob).grown hg (by simp; omega) (fun k hk => by cases hk; exact Nat.le_refl _), ?_, f⟩
  have := hg.size
  simp at this; omega
theorem MRel.addN {B1 B2 : Nat} {w1 wr w' : World} {len : Nat} {P : List (Bool × Int)} {n : Int} (h : MRel B1 B2 w1 wr len P) (ob : Obj)
    (hown : w'.ownsRow B1 24 1 (.slice (some ⟨B2, 0, none⟩) ((nam P).length + 1) len) ((nam P).length + 1) (nums (nam P) ++ [.int .u64 n])) (hg : (wr.alloc ob).grownBy w' (some B2)) : MRel B1 B2 w1 w' len (P ++ [(true, n)]) := by
  obtain ⟨a, b, c, d, f⟩ := h
  have e1 : nam (P ++ [(true, n)]) = nam P ++ [(true, n)] := by simp [nam]
  have e2 : unn (P ++ [(true, n)]) = unn P := by simp [unn]
  refine ⟨by rw [e2]; exact (a.alloc ob).kept hg (.inr (by simp [Value.ownBlock]; omega)), by rw [e1]; simpa using hown, (c.alloc d ob).grown hg (by simp; omega) (fun k hk => by cases hk; omega), ?_, f⟩
  have := hg.size
  simp at this; omega

theorem ZRow.later {w w' : World} {ad : Option Addr} {L : List (Bool × Int)} {B : Nat} (h : ZRow w ad L) (hb : Below B w w') (hB : w.heap.size ≤ B) : ZRow w' ad L := by
  rcases h with h | ⟨b, off, e, hlt, hc⟩
  · exact .inl h
  · exact .inr ⟨b, off, e, Nat.lt_of_lt_of_le hlt hb.size, fun i x hx => ⟨(hb.cell (p := ⟨b, off + i * 2, none⟩) (by exact Nat.lt_of_lt_of_le hlt hB)).trans (hc i x hx).1, (hb.cell (p := ⟨b, off + i * 2 + 1, none⟩) (by exact Nat.lt_of_lt_of_le hlt hB)).trans (hc i x hx).2⟩⟩

theorem MRel.start {w1 w2 w3 : World} {len : Nat} (h2 : w2.ownsRow w1.heap.size 24 1 (.slice (some ⟨w1.heap.size, 0, none⟩) 0 len) 0 []) (g2 : w1.grownBy w2 none)
    (h3 : w3.ownsRow w1.heap.size 24 1 (.slice (some ⟨w2.heap.size, 0, none⟩) 0 len) 0 []) (g3 : w2.grownBy w3 none) : MRel w1.heap.size w2.heap.size w1 w3 len [] := by
  have : w1.heap.size < w2.heap.size := (h2.lt _ rfl).2
  exact ⟨h2.kept g3 (.inr (by simp [Value.ownBlock])), h3, ((Below.refl _ _).grown g2 (Nat.le_refl _) (fun k h => by cases h)).grown g3 (by omega) (fun k h => by cases h), by have := g3.size; omega, this⟩

theorem mis_step (P : List (Bool × Int)) (n : Int) : misOf (P ++ [(false, n)]) = if P.any (fun x => x.1) && decide (misOf P < 0) then ((unn P).length : Int) else misOf P := by
  by_cases e : P.any (fun x => x.1) = true
  · rw [mis_hit P n e, e]
    rcases mis_cases P with ⟨a, b⟩ | ⟨a, b⟩
    · rw [a]; simp [b]
    · rw [if_neg (by simpa using b), a]
  · have e' : P.any (fun x => x.1) = false := by simpa using e
    obtain ⟨a, b⟩ := mis_first P n e'
    rw [e', a, b]; simp

theorem unn_get {L : List (Bool × Int)} {j : Nat} {x : Bool × Int} (h : (unn L)[j]? = some x) : x.1 = false := by
  have := List.mem_of_getElem? h
  simp only [unn, List.mem_filter] at this
  simpa using this.2
theorem nam_get {L : List (Bool × Int)} {j : Nat} {x : Bool × Int} (h : (nam L)[j]? = some x) : x.1 = true := by
  have := List.mem_of_getElem? h
  simp only [nam, List.mem_filter] at this
  simpa using this.2

set_option maxHeartbeats 2000000 in
theorem main_any (ad : Option Addr) (cap : Nat) (L : List (Bool × Int)) (w : World) (hl : L.length ≤ 65536) (hz : ZRow w ad L) :
    Calls Try.prog 5 #[.slice ad L.length cap] w fun e w' => e = .returned (.bool true) ∧ Below w.heap.size w w' := by
  obtain ⟨i0, hi, hz0, hz1, hz2⟩ := info_parts info24
  have hln : ¬ (65536 : Int) < (L.length : Int) := by omega
  go_enter Try.func5, Try.ntmps5
  go_wp2_with (first
    | (go_at_call 17; refine (bytes_split _ _ _ _ (by omega)).mono ?_; rintro e w' ⟨rfl, rfl⟩; rw [decide_eq_true (show L.length ≤ 1048576 by omega)])
    | (go_at_call 18; refine (build_any ad cap L _ hl hz).mono ?_; rintro e w1 ⟨rfl, hb1, hs1, hr1⟩)
    | (at_make; refine wpList_make_own _ rfl _ _ 46 rfl w1.heap.size 24 i0 _ 1 Try.underlying46 hi hz0 hz1 _ _ _ L.length rfl rfl rfl (by rw [hz2]; omega) (by unfold maxLen; omega) (Nat.le_refl _) ?_))
  intro w2 hown2 hgrow2
  have hs2 := (hown2.lt _ rfl).2
  go_wp2_with (at_make; refine wpList_make_own _ rfl _ _ 46 rfl w1.heap.size 24 i0 _ 1 Try.underlying46 hi hz0 hz1 _ _ _ L.length rfl rfl rfl (by rw [hz2]; omega) (by unfold maxLen; omega) (Nat.le_of_lt hs2) ?_)
  intro w3 hown3 hgrow3
  have hM0 := MRel.start hown2 hgrow2 hown3 hgrow3
  generalize w2.heap.size = B2 at *
  clear hown3 hgrow3 hown2 hgrow2 hs2
  go_wp2
  go_loopw [4, 5, 6, 7, 8] (fun vp vn m s i wr => ∃ (k : Nat) (P : List (Bool × Int)), k ≤ L.length ∧ Hid (L.take k = P) ∧ i = .int .i64 k ∧ m = .int .i64 (misOf P) ∧ s = .bool (P.any (fun x => x.1)) ∧
      vp = .slice (some ⟨w1.heap.size, 0, none⟩) (unn P).length L.length ∧ vn = .slice (some ⟨B2, 0, none⟩) (nam P).length L.length ∧ MRel w1.heap.size B2 w1 wr L.length P)
    (fun _ _ _ _ i _ => L.length - (intOf i).toNat)
  case atStart => exact ⟨0, [], Nat.zero_le _, rfl, rfl, rfl, rfl, rfl, rfl, hM0⟩
  case round =>
    obtain ⟨k, P, hk, HP, rfl, rfl, rfl, rfl, rfl, hR⟩ := hrel
    by_cases hlt : k < L.length
    · have hx : L[k]? = some L[k] := List.getElem?_eq_getElem hlt
      rcases hz with h0 | ⟨b, off, had, hb, hc⟩
      · subst h0; simp at hlt
      · obtain ⟨c0, c1⟩ := hc k _ hx
        have d0 := (hR.2.2.1.cell (p := ⟨b, off + k * 2, none⟩) (by exact Nat.lt_of_lt_of_le hb hb1.size)).trans ((hb1.cell (p := ⟨b, off + k * 2, none⟩) hb).trans c0)
        have d1 := (hR.2.2.1.cell (p := ⟨b, off + k * 2 + 1, none⟩) (by exact Nat.lt_of_lt_of_le hb hb1.size)).trans ((hb1.cell (p := ⟨b, off + k * 2 + 1, none⟩) hb).trans c1)
        clear c0 c1 hc
        generalize hX : L[k] = x at *
        obtain ⟨nd, num⟩ := x
        have HX : Hid (L.take (k + 1) = P ++ [(nd, num)]) := by
          have := take_snoc' hx
          rwa [HP.out] at this
        clear hX hx
        rw [had]
        have hlP : P.length ≤ k := by have := HP.out; rw [← this]; exact List.length_take_le _ _
        have hlu := unn_len P
        have hln' := nam_len P
        have hfl := hR.2.2.2.1
        cases nd
        · have HS : Hid _ := mis_step P num
          have HA : Hid ((P ++ [(false, num)]).any (fun x => x.1) = P.any (fun x => x.1)) := by simp [Hid]
          generalize (P.any fun x => x.1) = sn at *
          generalize misOf P = ms at *
          by_cases hms : ms < 0
          all_goals cases sn
          all_goals
            go_wp2_with (at_builtin; refine wpList_append_fits _ rfl _ _ 46 rfl w1.heap.size 24 i0 1 Try.underlying46 hi hz1 w1.heap.size (unn P).length L.length _ rfl (hR.1.alloc _) ⟨wr.heap.size, 0, none⟩ 1 1 [.int .u64 num] rfl rfl (cell_one_new _ _ _) (by simp [Value.oneCell']) (by omega) ?_)
            intro w' hown' hgrow'
            have hR2 := hR.addU _ hown' hgrow'
            clear hR hown' hgrow' d0 d1
            go_wp2
            go_roundw
            case rel =>
              refine ⟨k + 1, P ++ [(false, num)], by omega, HX, by go_num, ?_, by rw [HA.out], by simp [unn], by simp [nam], hR2⟩
              rw [HS.out]; first | (simp [hms]; done) | (simp; omega)
            case measure => simp [intOf]; omega
        · go_wp2_with (at_builtin; refine wpList_append_fits _ rfl _ _ 46 rfl w1.heap.size 24 i0 1 Try.underlying46 hi hz1 B2 (nam P).length L.length _ rfl (hR.2.1.alloc _) ⟨wr.heap.size, 0, none⟩ 1 1 [.int .u64 num] rfl rfl (cell_one_new _ _ _) (by simp [Value.oneCell']) (by omega) ?_)
          intro w' hown' hgrow'
          have hR2 := hR.addN _ hown' hgrow'
          clear hR hown' hgrow' d0 d1
          go_wp2
          go_roundw
          case rel => exact ⟨k + 1, P ++ [(true, num)], by omega, HX, by go_num, by rw [mis_named], by simp, by simp [unn], by simp [nam], hR2⟩
          case measure => simp [intOf]; omega
    · have hPL : L = P := by rw [← HP.out, List.take_of_length_le (by omega)]
      clear HP
      subst hPL
      have hgr : w.heap.size < wr.heap.size := Nat.lt_of_lt_of_le hs1 hR.2.2.1.size
      have hrr : ∀ i x, L[i]? = some x → wr.rangeAt w.heap.size (i * 7) (argOf x) := fun i x hx => rangeAt_below hR.2.2.1 hs1 (hr1 i x hx)
      go_wp2_with (go_at_call 19; refine (zzsplit_any w.heap.size L _ hl hgr hrr).mono ?_; rintro e w4 ⟨_, _, rfl, ⟨a1, cap1, rfl, hp⟩, ⟨a2, cap2, rfl, hn⟩, hb4⟩)
      obtain ⟨hoU, hoN, hbR, hB1R, hB12⟩ := hR
      have hB2R : B2 < wr.heap.size := (hoN.lt _ rfl).2
      have hB1R' : w1.heap.size < wr.heap.size := (hoU.lt _ rfl).2
      have HU : ∀ j x, (unn L)[j]? = some x → w4.cell? ⟨w1.heap.size, j, none⟩ = some (.int .u64 x.2) := fun j x hx => by
        have hj := (List.getElem?_eq_some_iff.1 hx).1
        rw [hb4.cell (p := ⟨w1.heap.size, j, none⟩) hB1R', hoU.cellAt j (by omega), List.getElem?_map, hx]; rfl
      have HN : ∀ j x, (nam L)[j]? = some x → w4.cell? ⟨B2, j, none⟩ = some (.int .u64 x.2) := fun j x hx => by
        have hj := (List.getElem?_eq_some_iff.1 hx).1
        rw [hb4.cell (p := ⟨B2, j, none⟩) hB2R, hoN.cellAt j (by omega), List.getElem?_map, hx]; rfl
      have HU : Hid _ := HU
      have HN : Hid _ := HN
      have hb14 : Below w.heap.size w w4 := (hb1.trans (hbR.mono (by omega))).trans (hb4.mono (by omega))
      have hB14 : w1.heap.size < w4.heap.size := Nat.lt_of_lt_of_le hB1R' hb4.size
      have hB24 : B2 < w4.heap.size := Nat.lt_of_lt_of_le hB2R hb4.size
      have hw4 : w.heap.size ≤ w4.heap.size := hb14.size
      have hlu := unn_len L
      have hln' := nam_len L
      clear hoU hoN hbR hb4 hrr hr1 hz hM0
      go_loopw [12] (fun i wq => ∃ j : Nat, j ≤ (unn L).length ∧ i = .int .i64 j ∧ Below w4.heap.size w4 wq) (fun i _ => (unn L).length - (intOf i).toNat)
      case atStart => exact ⟨0, Nat.zero_le _, rfl, Below.refl _ _⟩
      case round =>
        obtain ⟨j, hj, rfl, hq⟩ := hrel
        by_cases hjt : j < (unn L).length
        · have hx : (unn L)[j]? = some (unn L)[j] := List.getElem?_eq_getElem hjt
          have hxf := unn_get hx
          generalize (unn L)[j] = x at *
          obtain ⟨nd, num⟩ := x
          simp only at hxf
          subst hxf
          rcases hp with hp | ⟨gp, op, ha1, hgp, hrp⟩
          · rw [hp] at hjt; simp at hjt
          · obtain ⟨c0, c1, c2, c3, c4, c5, c6⟩ := seven (rangeAt_below hq hgp (hrp j _ hx))
            simp only [Bool.false_eq_true, if_false] at c0 c1 c4
            have hu := (hq.cell (p := ⟨w1.heap.size, j, none⟩) hB14).trans (HU.out j _ hx)
            simp only at hu
            have hqs := hq.size
            have hu' := fun w5 (h5 : Below wr.heap.size wr w5) => (h5.cell (p := ⟨w1.heap.size, j, none⟩) (by exact Nat.lt_of_lt_of_le hB14 hqs)).trans hu
            have HU' : Hid _ := hu'
            clear hu hu' hx hrp
            rw [ha1]
            go_wp2_with (go_at_call 20; refine (namedNum_any _ _ _ _ _ _ _ _).mono ?_; rintro e w5 ⟨rfl, hb5⟩; have hc5 := HU'.out w5 hb5)
            go_roundw
            case rel => exact ⟨j + 1, by omega, by go_num, hq.trans (hb5.mono hqs)⟩
            case measure => simp [intOf]; omega
        · have hqs := hq.size
          go_wp2
          go_loopw [15] (fun i wq => ∃ j : Nat, j ≤ (nam L).length ∧ i = .int .i64 j ∧ Below w4.heap.size w4 wq) (fun i _ => (nam L).length - (intOf i).toNat)
          case atStart => exact ⟨0, Nat.zero_le _, rfl, hq⟩
          case round =>
            clear hq hqs
            obtain ⟨j, hj, rfl, hq⟩ := hrel
            by_cases hjt : j < (nam L).length
            · have hx : (nam L)[j]? = some (nam L)[j] := List.getElem?_eq_getElem hjt
              have hxf := nam_get hx
              generalize (nam L)[j] = x at *
              obtain ⟨nd, num⟩ := x
              simp only at hxf
              subst hxf
              rcases hn with hn | ⟨gp, op, ha1, hgp, hrp⟩
              · rw [hn] at hjt; simp at hjt
              · obtain ⟨c0, c1, c2, c3, c4, c5, c6⟩ := seven (rangeAt_below hq hgp (hrp j _ hx))
                simp only [if_true] at c0 c1 c4
                have hu := (hq.cell (p := ⟨B2, j, none⟩) hB24).trans (HN.out j _ hx)
                simp only at hu
                have hqs := hq.size
                have hu' := fun w5 (h5 : Below wr.heap.size wr w5) => (h5.cell (p := ⟨B2, j, none⟩) (by exact Nat.lt_of_lt_of_le hB24 hqs)).trans hu
                have HU' : Hid _ := hu'
                clear hu hu' hx hrp
                rw [ha1]
                go_wp2_with (go_at_call 20; refine (namedNum_any _ _ _ _ _ _ _ _).mono ?_; rintro e w5 ⟨rfl, hb5⟩; have hc5 := HU'.out w5 hb5)
                go_roundw
                case rel => exact ⟨j + 1, by omega, by go_num, hq.trans (hb5.mono hqs)⟩
                case measure => simp [intOf]; omega
            · go_wp2
              go_ret
              exact ⟨rfl, hb14.trans (hq.mono hw4)⟩

set_option maxHeartbeats 400000 in
theorem main_long (ad : Option Addr) (len cap : Nat) (w : World) (hl : ¬ len ≤ 65536) (hm : len ≤ 9223372036854775807) :
    Calls Try.prog 5 #[.slice ad len cap] w fun e w' => e = .returned (.bool true) ∧ Below w.heap.size w w' := by
  have hln : (65536 : Int) < (len : Int) := by omega
  by_cases h1 : len ≤ 1048576
  · go_enter Try.func5, Try.ntmps5
    go_wp2_with (go_at_call 17; refine (bytes_split _ _ _ _ (by omega)).mono ?_; rintro e w' ⟨rfl, rfl⟩; rw [decide_eq_true h1])
    go_ret
    exact ⟨rfl, Below.refl _ _⟩
  · go_enter Try.func5, Try.ntmps5
    go_wp2_with (go_at_call 17; refine (bytes_split _ _ _ _ (by omega)).mono ?_; rintro e w' ⟨rfl, rfl⟩; rw [decide_eq_false h1])
    go_ret
    exact ⟨rfl, Below.refl _ _⟩
end Go.Proofs.Qxb6613183a

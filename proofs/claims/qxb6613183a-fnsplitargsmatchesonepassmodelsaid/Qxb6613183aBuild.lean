/- zzBuildArgs: the list of Args. -/
import Derived.Test.Qxb6613183aArgs
import Derived.Deep.MidRow
import Derived.Deep.RegionWith
import Derived.Deep.DrawnRows
namespace Go.Proofs.Qxb6613183a
open Go.RowKit
attribute [local go_sem ↓] Go.wp_at_zero Go.wp_at_succ

theorem info29 : (Try.prog.info? 29).map (fun i => (i.zero, i.size, i.bytes)) = some (some (.agg #[.string ByteArray.empty, .bool false, .int .u8 0, .int .u8 0, .int .u64 0, .string ByteArray.empty, .nilIface]), 7, 64) := by kernel_rfl

/-- The cells of the Arg that is built for one ZArg. -/
def argOf (x : Bool × Int) : List Value := (argCells (if x.1 then ⟨#[97]⟩ else ⟨#[]⟩) x.1 2 64 x.2 ⟨#[]⟩ .nilIface).toList
theorem argOf_len (x : Bool × Int) : (argOf x).length = 7 := rfl

/-- The slice of ZArgs as it lies in memory. -/
def ZRow (w : World) (ad : Option Addr) (L : List (Bool × Int)) : Prop :=
  L = [] ∨ ∃ b off, ad = some ⟨b, off, none⟩ ∧ b < w.heap.size ∧ ∀ i x, L[i]? = some x → w.cell? ⟨b, off + i * 2, none⟩ = some (.bool x.1) ∧ w.cell? ⟨b, off + i * 2 + 1, none⟩ = some (.int .u64 x.2)

/-- The loop's relation. -/
def BRel (w wr : World) (L : List (Bool × Int)) (k : Nat) : Prop :=
  (∀ i, i < L.length → wr.there w.heap.size (i * 7) 7) ∧ (∀ i x, i < k → L[i]? = some x → wr.rangeAt w.heap.size (i * 7) (argOf x)) ∧ Below w.heap.size w wr ∧ w.heap.size < wr.heap.size

theorem BRel.start {w w0 : World} {L : List (Bool × Int)} {z : List Value} (hown : w0.ownsRow w.heap.size 29 7 (.slice (some ⟨w.heap.size, 0, none⟩) L.length L.length) L.length z) (hg : w.grownBy w0 none) : BRel w w0 L 0 := by
  refine ⟨fun i hi j hj => ?_, fun i x h => absurd h (by omega), (Below.refl _ _).grown hg (Nat.le_refl _) (fun k h => by cases h), (hown.lt _ rfl).2⟩
  have hlen := hown.1
  have hlt : i * 7 + j < L.length * 7 := by omega
  refine ⟨?_, hown.frozenAt _⟩
  rw [hown.cellAt _ hlt, List.getElem?_eq_getElem (by omega)]
  rfl

theorem Below.setCells {B : Nat} {a : World} {b : Nat} (hb : B ≤ b) : ∀ (vs : List Value) (o : Nat) (w : World), Below B a w → Below B a (w.setCells b o vs)
  | [], _, _, h => h
  | v :: r, o, w, h => Below.setCells hb r (o + 1) (w.setCell ⟨b, o, none⟩ v) (h.setCell hb v)

theorem size_setCells (b : Nat) : ∀ (vs : List Value) (o : Nat) (w : World), (w.setCells b o vs).heap.size = w.heap.size
  | [], _, _ => rfl
  | v :: r, o, w => (size_setCells b r (o + 1) (w.setCell ⟨b, o, none⟩ v)).trans (by simp)

theorem BRel.step {w wr : World} {L : List (Bool × Int)} {k : Nat} {x : Bool × Int} (h : BRel w wr L k) (hx : L[k]? = some x) (ob : Obj) : BRel w (((wr.setCells w.heap.size (k * 7) (argOf x)).alloc ob).drew) L (k + 1) := by
  obtain ⟨hth, hrg, hb, hs⟩ := h
  have hk : k < L.length := (List.getElem?_eq_some_iff.1 hx).1
  refine ⟨fun i hi => ?_, fun i y hi hy => ?_, ?_, ?_⟩
  · rw [World.there_drew]
    exact World.there_alloc (World.there_setCells (hth i hi) _ _ _) _
  · rw [World.rangeAt_drew]
    apply World.rangeAt_alloc
    by_cases hik : i = k
    · subst hik
      rw [hx] at hy
      cases hy
      exact World.rangeAt_setCells_same _ _ _ _ (hth i hk)
    · refine World.rangeAt_setCells_apart (hrg i y (by omega) hy) _ _ _ (Or.inr (Or.inl ?_))
      rw [argOf_len]; omega
  · exact ((Below.setCells (Nat.le_refl _) _ _ _ hb).alloc (by rw [size_setCells]; omega) _).drew
  · simp [size_setCells]; omega

theorem setCells7 (w : World) (g p : Nat) (x0 x1 x2 x3 x4 x5 x6 : Value) :
    ((((((w.setCell ⟨g, p, none⟩ x0).setCell ⟨g, p + 1, none⟩ x1).setCell ⟨g, p + 2, none⟩ x2).setCell ⟨g, p + 3, none⟩ x3).setCell ⟨g, p + 4, none⟩ x4).setCell ⟨g, p + 5, none⟩ x5).setCell ⟨g, p + 6, none⟩ x6 = w.setCells g p [x0, x1, x2, x3, x4, x5, x6] := by
  simp only [World.setCells, Nat.add_assoc, Nat.reduceAdd]

set_option maxHeartbeats 1000000 in
theorem build_any (ad : Option Addr) (cap : Nat) (L : List (Bool × Int)) (w : World) (hl : L.length ≤ 65536) (hz : ZRow w ad L) :
    Calls Try.prog 18 #[.slice ad L.length cap] w fun e w' => e = .returned (.slice (some ⟨w.heap.size, 0, none⟩) L.length L.length) ∧ Below w.heap.size w w' ∧ w.heap.size < w'.heap.size ∧
      ∀ i x, L[i]? = some x → w'.rangeAt w.heap.size (i * 7) (argOf x) := by
  obtain ⟨i0, hi, hz0, hz1, hz2⟩ := info_parts info29
  go_enter Try.func18, Try.ntmps18
  go_wp2_with (at_make; refine wpList_make_full _ rfl _ _ 44 rfl w.heap.size 29 i0 _ 7 Try.underlying44 hi hz0 hz1 _ _ _ _ L.length rfl rfl rfl rfl ?b2 ?b3 (Nat.le_refl _) ?_)
  case b2 => rw [hz2]; omega
  case b3 => unfold maxLen; omega
  intro w0 hown0 hgrow0
  go_wp2
  go_loopw [4] (fun i wr => ∃ k : Nat, k ≤ L.length ∧ i = .int .i64 k ∧ BRel w wr L k)
    (fun i _ => L.length - (intOf i).toNat)
  case atStart => exact ⟨0, Nat.zero_le _, rfl, BRel.start hown0 hgrow0⟩
  case round =>
    obtain ⟨k, hk, rfl, hR⟩ := hrel
    by_cases hlt : k < L.length
    · have hx : L[k]? = some L[k] := List.getElem?_eq_getElem hlt
      rcases hz with h0 | ⟨b, off, had, hb, hc⟩
      · subst h0; simp at hlt
      · obtain ⟨c0, c1⟩ := hc k _ hx
        have d0 := (hR.2.2.1.cell (p := ⟨b, off + k * 2, none⟩) hb).trans c0
        have d1 := (hR.2.2.1.cell (p := ⟨b, off + k * 2 + 1, none⟩) hb).trans c1
        clear c0 c1 hc
        generalize hX : L[k] = x at *
        obtain ⟨nd, num⟩ := x
        have hX' : L[k]? = some (nd, num) := hx
        have HX : Hid (L[k]? = some (nd, num)) := hX'
        clear hX hx hX'
        rw [had]
        have t7 := hR.1 k hlt
        have t70 := t7 0 (by omega)
        have t71 := t7 1 (by omega)
        have t72 := t7 2 (by omega)
        have t73 := t7 3 (by omega)
        have t74 := t7 4 (by omega)
        have t75 := t7 5 (by omega)
        have t76 := t7 6 (by omega)
        simp only [Option.isSome_iff_exists, Nat.add_zero] at t70 t71 t72 t73 t74 t75 t76
        obtain ⟨⟨v0, e0⟩, f0⟩ := t70
        obtain ⟨⟨v1, e1⟩, f1⟩ := t71
        obtain ⟨⟨v2, e2⟩, f2⟩ := t72
        obtain ⟨⟨v3, e3⟩, f3⟩ := t73
        obtain ⟨⟨v4, e4⟩, f4⟩ := t74
        obtain ⟨⟨v5, e5⟩, f5⟩ := t75
        obtain ⟨⟨v6, e6⟩, f6⟩ := t76
        have hlt' : (k : Int) < (L.length : Int) := by omega
        have hge' : (0 : Int) ≤ (k : Int) := by omega
        have hne : b ≠ w.heap.size := by omega
        have hsz := hR.2.2.2
        clear t7
        cases nd
        · go_wp2
          go_region_with (go_at_call 23; refine (newArg_any _ _ _ _).mono ?_; rintro e w' ⟨rfl, rfl⟩)
          all_goals
            go_wp2
            go_roundw
            case rel => refine ⟨k + 1, by omega, by go_num, ?_⟩; rw [setCells7]; exact hR.step HX.out _
            case measure => simp [intOf]; omega
        · go_wp2
          go_region_with (go_at_call 23; refine (newArg_any _ _ _ _).mono ?_; rintro e w' ⟨rfl, rfl⟩)
          all_goals
            go_wp2
            go_roundw
            case rel => refine ⟨k + 1, by omega, by go_num, ?_⟩; rw [setCells7]; exact hR.step HX.out _
            case measure => simp [intOf]; omega
    · go_wp2
      go_ret
      exact ⟨rfl, hR.2.2.1, hR.2.2.2, fun i x hx => hR.2.1 i x (by have := (List.getElem?_eq_some_iff.1 hx).1; omega) hx⟩
end Go.Proofs.Qxb6613183a

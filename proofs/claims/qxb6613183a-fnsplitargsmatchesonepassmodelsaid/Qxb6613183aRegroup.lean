/- regroupArgs: the unnamed and the named, each in its order. -/
import Derived.Test.Qxb6613183aBuild
import Derived.Deep.AppendLies
namespace Go.Proofs.Qxb6613183a
open Go.RowKit

/-! ### plain -/
def unn (L : List (Bool × Int)) : List (Bool × Int) := L.filter (fun x => !x.1)
def nam (L : List (Bool × Int)) : List (Bool × Int) := L.filter (fun x => x.1)
theorem unn_len (L : List (Bool × Int)) : (unn L).length ≤ L.length := List.length_filter_le _ _
theorem nam_len (L : List (Bool × Int)) : (nam L).length ≤ L.length := List.length_filter_le _ _
theorem take_snoc' {α : Type} {L : List α} {k : Nat} {x : α} (h : L[k]? = some x) : L.take (k + 1) = L.take k ++ [x] := by
  rw [List.take_add_one, h]; rfl
theorem unn_f {L : List (Bool × Int)} {k : Nat} {n : Int} (h : L[k]? = some (false, n)) : unn (L.take (k + 1)) = unn (L.take k) ++ [(false, n)] := by
  rw [take_snoc' h]; simp [unn, List.filter_append]
theorem nam_f {L : List (Bool × Int)} {k : Nat} {n : Int} (h : L[k]? = some (false, n)) : nam (L.take (k + 1)) = nam (L.take k) := by
  rw [take_snoc' h]; simp [nam, List.filter_append]
theorem unn_t {L : List (Bool × Int)} {k : Nat} {n : Int} (h : L[k]? = some (true, n)) : unn (L.take (k + 1)) = unn (L.take k) := by
  rw [take_snoc' h]; simp [unn, List.filter_append]
theorem nam_t {L : List (Bool × Int)} {k : Nat} {n : Int} (h : L[k]? = some (true, n)) : nam (L.take (k + 1)) = nam (L.take k) ++ [(true, n)] := by
  rw [take_snoc' h]; simp [nam, List.filter_append]

/-! ### two rows of the call's own -/
def TwoRows (B : Nat) (e : TypeId) (size : Nat) (w wr : World) (vp vn : Value) (np nn : Nat) (xp xn : List Value) : Prop :=
  wr.ownsRow B e size vp np xp ∧ wr.ownsRow B e size vn nn xn ∧ (vp.ownBlock = none ∨ vp.ownBlock ≠ vn.ownBlock) ∧ Below B w wr ∧ B ≤ wr.heap.size

theorem TwoRows.swap {B : Nat} {e : TypeId} {size : Nat} {w wr : World} {vp vn : Value} {np nn : Nat} {xp xn : List Value} (h : TwoRows B e size w wr vp vn np nn xp xn) : TwoRows B e size w wr vn vp nn np xn xp := by
  obtain ⟨a, b, c, d, f⟩ := h
  refine ⟨b, a, ?_, d, f⟩
  rcases c with c | c
  · cases hv : vn.ownBlock with
    | none => exact .inl rfl
    | some k => right; rw [c]; simp
  · exact .inr (Ne.symm c)

theorem TwoRows.app {B : Nat} {e : TypeId} {size : Nat} {w wr w' : World} {vp vn vp' : Value} {np nn np' : Nat} {xp xn xp' : List Value} (h : TwoRows B e size w wr vp vn np nn xp xn) (ob : Obj)
    (hown : w'.ownsRow B e size vp' np' xp') (hg : (wr.alloc ob).grownBy w' vp.ownBlock) (hat : vp'.ownBlock = vp.ownBlock ∨ vp'.ownBlock = some (wr.heap.size + 1)) : TwoRows B e size w w' vp' vn np' nn xp' xn := by
  obtain ⟨a, b, c, d, f⟩ := h
  have hsz : (wr.alloc ob).heap.size = wr.heap.size + 1 := by simp
  refine ⟨hown, (b.alloc ob).kept hg ?_, ?_, (d.alloc f ob).grown hg (by omega) (fun k hk => (a.lt k hk).1), by have := hg.size; omega⟩
  · rcases c with c | c
    · cases hv : vn.ownBlock with
      | none => exact .inl rfl
      | some k => right; rw [c]; simp
    · exact .inr (Ne.symm c)
  · rcases hat with hat | hat
    · rw [hat]; exact c
    · right
      rw [hat]
      intro he
      have := (b.lt _ he.symm).2
      omega

theorem seven {w : World} {g o : Nat} {x : Bool × Int} (h : w.rangeAt g o (argOf x)) :
    w.cell? ⟨g, o, none⟩ = some (.string (if x.1 then ⟨#[97]⟩ else ⟨#[]⟩)) ∧ w.cell? ⟨g, o + 1, none⟩ = some (.bool x.1) ∧ w.cell? ⟨g, o + 2, none⟩ = some (.int .u8 2) ∧ w.cell? ⟨g, o + 3, none⟩ = some (.int .u8 64) ∧
    w.cell? ⟨g, o + 4, none⟩ = some (.int .u64 x.2) ∧ w.cell? ⟨g, o + 5, none⟩ = some (.string ⟨#[]⟩) ∧ w.cell? ⟨g, o + 6, none⟩ = some .nilIface :=
  ⟨h 0 _ rfl, h 1 _ rfl, h 2 _ rfl, h 3 _ rfl, h 4 _ rfl, h 5 _ rfl, h 6 _ rfl⟩

theorem rangeAt_below {B : Nat} {w w' : World} (h : Below B w w') {g o : Nat} (hg : g < B) {cs : List Value} (hr : w.rangeAt g o cs) : w'.rangeAt g o cs := fun j v hv => (h.cell (p := ⟨g, o + j, none⟩) hg).trans (hr j v hv)

theorem argOf_one (x : Bool × Int) : ∀ u ∈ argOf x, u.oneCell' = true := by
  intro u hu
  simp [argOf] at hu
  rcases hu with rfl | rfl | rfl | rfl | rfl | rfl | rfl <;> rfl

set_option maxHeartbeats 1000000 in
theorem regroup_any (g : Nat) (L : List (Bool × Int)) (w : World) (hl : L.length ≤ 65536) (hg : g < w.heap.size) (hr : ∀ i x, L[i]? = some x → w.rangeAt g (i * 7) (argOf x)) :
    Calls Try.prog 26 #[.slice (some ⟨g, 0, none⟩) L.length L.length] w fun e w' => ∃ vp vn, e = .returned (.tuple #[vp, vn]) ∧
      TwoRows w.heap.size 29 7 w w' vp vn (unn L).length (nam L).length ((unn L).flatMap argOf) ((nam L).flatMap argOf) := by
  obtain ⟨i0, hi, hz0, hz1, hz2⟩ := info_parts info29
  go_enter Try.func26, Try.ntmps26
  go_wp2
  go_loopw [2, 3, 7] (fun vp vn i wr => ∃ k : Nat, k ≤ L.length ∧ i = .int .i64 k ∧ TwoRows w.heap.size 29 7 w wr vp vn (unn (L.take k)).length (nam (L.take k)).length ((unn (L.take k)).flatMap argOf) ((nam (L.take k)).flatMap argOf))
    (fun _ _ i _ => L.length - (intOf i).toNat)
  case atStart => exact ⟨0, Nat.zero_le _, rfl, World.ownsRow_nil _ _ _ _, World.ownsRow_nil _ _ _ _, .inl rfl, Below.refl _ _, Nat.le_refl _⟩
  case round =>
    obtain ⟨k, hk, rfl, hR⟩ := hrel
    by_cases hlt : k < L.length
    · have hx : L[k]? = some L[k] := List.getElem?_eq_getElem hlt
      have hra := rangeAt_below hR.2.2.2.1 hg (hr k _ hx)
      generalize hX : L[k] = x at *
      obtain ⟨nd, num⟩ := x
      have HX : Hid (L[k]? = some (nd, num)) := hx
      clear hX hx
      obtain ⟨c0, c1, c2, c3, c4, c5, c6⟩ := seven hra
      clear hra
      have hlu := unn_len (L.take k)
      have hln := nam_len (L.take k)
      have hlt' : (k : Int) < (L.length : Int) := by omega
      have hlk : (L.take k).length ≤ k := List.length_take_le _ _
      have hfl := hR.2.2.2.2
      cases nd
      · simp only [Bool.false_eq_true, if_false] at c0
        go_wp2_with (at_builtin; refine wpList_append_own_at _ rfl _ _ 44 rfl w.heap.size 29 i0 _ 7 64 Try.underlying44 hi hz0 hz1 hz2 rfl (by decide) _ _ _ rfl (hR.1.alloc _) ⟨wr.heap.size, 0, none⟩ 1 1 (argOf (false, num)) rfl rfl ?c1 (argOf_one _) ?c3 ?c4 ?c5 ?_)
        case c1 => exact fun j u h => h
        case c3 => unfold maxLen; omega
        case c4 => omega
        case c5 => omega
        intro v' w1 hown1 hgrow1 _ hat1
        have hR2 := hR.app _ hown1 hgrow1 hat1
        clear hR c0 c1 c2 c3 c4 c5 c6
        go_wp2
        go_roundw
        case rel => exact ⟨k + 1, by omega, by go_num, by rw [unn_f HX.out, nam_f HX.out]; simpa using hR2⟩
        case measure => simp [intOf]; omega
      · simp only [if_true] at c0
        go_wp2_with (at_builtin; refine wpList_append_own_at _ rfl _ _ 44 rfl w.heap.size 29 i0 _ 7 64 Try.underlying44 hi hz0 hz1 hz2 rfl (by decide) _ _ _ rfl (hR.2.1.alloc _) ⟨wr.heap.size, 0, none⟩ 1 1 (argOf (true, num)) rfl rfl ?c1 (argOf_one _) ?c3 ?c4 ?c5 ?_)
        case c1 => exact fun j u h => h
        case c3 => unfold maxLen; omega
        case c4 => omega
        case c5 => omega
        intro v' w1 hown1 hgrow1 _ hat1
        have hR2 := (hR.swap.app _ hown1 hgrow1 hat1).swap
        clear hR c0 c1 c2 c3 c4 c5 c6
        go_wp2
        go_roundw
        case rel => exact ⟨k + 1, by omega, by go_num, by rw [unn_t HX.out, nam_t HX.out]; simpa using hR2⟩
        case measure => simp [intOf]; omega
    · go_wp2
      go_ret2
      exact ⟨_, _, rfl, by rw [List.take_of_length_le (by omega)] at hR; exact hR⟩
end Go.Proofs.Qxb6613183a

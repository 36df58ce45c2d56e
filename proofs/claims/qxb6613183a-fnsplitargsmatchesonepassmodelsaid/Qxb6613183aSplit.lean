/- splitArgs, ZZSplitArgs. -/
import Derived.Test.Qxb6613183aRegroup
namespace Go.Proofs.Qxb6613183a
open Go.RowKit

/-! ### plain -/
def pre (L : List (Bool × Int)) : Nat := (L.takeWhile (fun x => !x.1)).length
def misOf (L : List (Bool × Int)) : Int := if (L.drop (pre L)).any (fun x => !x.1) then (pre L : Int) else -1

theorem pre_eq : ∀ (L : List (Bool × Int)) (n : Nat), n ≤ L.length → (∀ i x, i < n → L[i]? = some x → x.1 = false) → (∀ x, L[n]? = some x → x.1 = true) → pre L = n
  | [], n, hn, _, _ => by simp at hn; subst hn; rfl
  | y :: L, 0, _, _, h2 => by
    have := h2 y rfl
    simp [pre, this]
  | y :: L, n + 1, hn, h1, h2 => by
    have hy := h1 0 y (by omega) rfl
    have := pre_eq L n (by simpa using hn) (fun i x hi hx => h1 (i + 1) x (by omega) hx) h2
    simp [pre, hy] at this ⊢
    exact this

theorem mis_some {L : List (Bool × Int)} {n k : Nat} {x : Bool × Int} (hp : pre L = n) (hk : n ≤ k) (hx : L[k]? = some x) (hf : x.1 = false) : misOf L = n := by
  unfold misOf
  rw [hp, if_pos]
  rw [List.any_eq_true]
  refine ⟨x, ?_, by simp [hf]⟩
  rw [List.mem_iff_getElem?]
  exact ⟨k - n, by rw [List.getElem?_drop, ← hx]; congr 1; omega⟩

theorem mis_none {L : List (Bool × Int)} {n : Nat} (hp : pre L = n) (h : ∀ i x, n ≤ i → L[i]? = some x → x.1 = true) : misOf L = -1 := by
  unfold misOf
  rw [hp, if_neg]
  rw [List.any_eq_true]
  rintro ⟨x, hx, hf⟩
  rw [List.mem_iff_getElem?] at hx
  obtain ⟨i, hi⟩ := hx
  rw [List.getElem?_drop] at hi
  have := h _ x (by omega) hi
  simp [this] at hf

theorem unn_all {L : List (Bool × Int)} (h : ∀ (i : Nat) (x : Bool × Int), L[i]? = some x → x.1 = false) : unn L = L ∧ nam L = [] := by
  constructor
  · unfold unn; rw [List.filter_eq_self]
    intro x hx
    obtain ⟨i, hi⟩ := List.mem_iff_getElem?.1 hx
    simp [h i x hi]
  · unfold nam; rw [List.filter_eq_nil_iff]
    intro x hx
    obtain ⟨i, hi⟩ := List.mem_iff_getElem?.1 hx
    simp [h i x hi]
theorem nam_all {L : List (Bool × Int)} (h : ∀ (i : Nat) (x : Bool × Int), L[i]? = some x → x.1 = true) : unn L = [] ∧ nam L = L := by
  constructor
  · unfold unn; rw [List.filter_eq_nil_iff]
    intro x hx
    obtain ⟨i, hi⟩ := List.mem_iff_getElem?.1 hx
    simp [h i x hi]
  · unfold nam; rw [List.filter_eq_self]
    intro x hx
    obtain ⟨i, hi⟩ := List.mem_iff_getElem?.1 hx
    simp [h i x hi]

theorem halves {L : List (Bool × Int)} {n : Nat} (h1 : ∀ i x, i < n → L[i]? = some x → x.1 = false) (h2 : ∀ i x, n ≤ i → L[i]? = some x → x.1 = true) : unn L = L.take n ∧ nam L = L.drop n := by
  have a := unn_all (L := L.take n) (fun i x hx => by
    rw [List.getElem?_take] at hx
    split at hx
    · exact h1 i x (by assumption) hx
    · cases hx)
  have b := nam_all (L := L.drop n) (fun i x hx => by
    rw [List.getElem?_drop] at hx
    exact h2 _ x (by omega) hx)
  have e : L = L.take n ++ L.drop n := (List.take_append_drop n L).symm
  constructor
  · conv => lhs; rw [e]
    unfold unn at a b ⊢
    rw [List.filter_append, a.1, b.1, List.append_nil]
  · conv => lhs; rw [e]
    unfold nam at a b ⊢
    rw [List.filter_append, a.2, b.2, List.nil_append]

theorem flat_get : ∀ (l : List (Bool × Int)) (i j : Nat) (x : Bool × Int), l[i]? = some x → j < 7 → (l.flatMap argOf)[i * 7 + j]? = (argOf x)[j]?
  | [], i, j, x, h, _ => by simp at h
  | y :: l, 0, j, x, h, hj => by
    simp at h; subst h
    rw [List.flatMap_cons, List.getElem?_append_left (by rw [argOf_len]; omega)]
    simp
  | y :: l, i + 1, j, x, h, hj => by
    rw [List.flatMap_cons, List.getElem?_append_right (by rw [argOf_len]; omega), argOf_len]
    have := flat_get l i j x (by simpa using h) hj
    rw [← this]; congr 1; omega

/-- The slice v reads as the Args of l. -/
def Rd (w : World) (v : Value) (l : List (Bool × Int)) : Prop :=
  ∃ a cap, v = .slice a l.length cap ∧ (l = [] ∨ ∃ g off, a = some ⟨g, off, none⟩ ∧ g < w.heap.size ∧ ∀ i x, l[i]? = some x → w.rangeAt g (off + i * 7) (argOf x))

theorem Rd.of_own {w : World} {B : Nat} {v : Value} {l : List (Bool × Int)} (h : w.ownsRow B 29 7 v l.length (l.flatMap argOf)) : Rd w v l := by
  have hc := fun g (hg : v.ownBlock = some g) => h.cells hg
  have hlt := h.lt
  rcases h.2 with ⟨rfl, h0⟩ | ⟨g, cap, cur, rfl, _⟩
  · exact ⟨none, 0, by rw [h0], .inl (List.eq_nil_of_length_eq_zero h0)⟩
  · refine ⟨_, cap, rfl, .inr ⟨g, 0, rfl, (hlt g rfl).2, fun i x hx j u hu => ?_⟩⟩
    have hj : j < 7 := by have := (List.getElem?_eq_some_iff.1 hu).1; rwa [argOf_len] at this
    have := hc g rfl (i * 7 + j) u (by rw [flat_get l i j x hx hj]; exact hu)
    rw [Addr.add_mid] at this
    rwa [show 0 + i * 7 + j = 0 + (i * 7 + j) by omega]

theorem Rd.later {w w' : World} {v : Value} {l : List (Bool × Int)} (h : Rd w v l) (hb : Below w.heap.size w w') : Rd w' v l := by
  obtain ⟨a, cap, rfl, h⟩ := h
  refine ⟨a, cap, rfl, h.imp id ?_⟩
  rintro ⟨g, off, rfl, hg, hr⟩
  exact ⟨g, off, rfl, Nat.lt_of_lt_of_le hg hb.size, fun i x hx => rangeAt_below hb hg (hr i x hx)⟩

theorem cut_rd {w : World} {g : Nat} {L : List (Bool × Int)} {k m : Nat} (hg : g < w.heap.size) (hr : ∀ i x, L[i]? = some x → w.rangeAt g (i * 7) (argOf x)) (hk : k ≤ L.length)
    (hp : pre L = k) (HN : ∀ x, L[k]? = some x → x.1 = true) (HR : ∀ i x, i < k → L[i]? = some x → x.1 = false) (HM : ∀ i x, k < i → i < m → L[i]? = some x → x.1 = true) (hm : L.length ≤ m)
    (a : Option Addr) (ha : a = some ⟨g, k * 7, none⟩ ∨ L.length ≤ k) (nq : Nat) :
    misOf L = -1 ∧ Rd (w.drewN nq) (.slice (some ⟨g, 0, none⟩) k k) (unn L) ∧ Rd (w.drewN nq) (.slice a (L.length - k) (L.length - k)) (nam L) ∧ Below w.heap.size w (w.drewN nq) := by
  have hall : ∀ i x, k ≤ i → L[i]? = some x → x.1 = true := fun i x hi hx => by
    by_cases e : i = k
    · subst e; exact HN x hx
    · exact HM i x (by omega) (by have := (List.getElem?_eq_some_iff.1 hx).1; omega) hx
  obtain ⟨h1, h2⟩ := halves HR hall
  have hb : Below w.heap.size w (w.drewN nq) := below_drewN (Below.refl _ _) nq
  refine ⟨mis_none hp hall, Rd.later ?_ hb, Rd.later ?_ hb, hb⟩
  · rw [h1]
    refine ⟨_, k, by rw [List.length_take, Nat.min_eq_left hk], .inr ⟨g, 0, rfl, hg, fun i x hx => ?_⟩⟩
    rw [List.getElem?_take] at hx
    split at hx
    · rw [Nat.zero_add]; exact hr i x hx
    · cases hx
  · rw [h2]
    refine ⟨_, L.length - k, by rw [List.length_drop], ?_⟩
    rcases ha with ha | ha
    · refine .inr ⟨g, k * 7, ha, hg, fun i x hx => ?_⟩
      rw [List.getElem?_drop] at hx
      have := hr _ x hx
      rwa [show (k + i) * 7 = k * 7 + i * 7 by omega] at this
    · exact .inl (List.eq_nil_of_length_eq_zero (by rw [List.length_drop]; omega))

set_option maxHeartbeats 1000000 in
theorem split_any (g : Nat) (L : List (Bool × Int)) (w : World) (hl : L.length ≤ 65536) (hg : g < w.heap.size) (hr : ∀ i x, L[i]? = some x → w.rangeAt g (i * 7) (argOf x)) :
    Calls Try.prog 24 #[.slice (some ⟨g, 0, none⟩) L.length L.length] w fun e w' => ∃ vp vn, e = .returned (.tuple #[vp, vn, .int .i64 (misOf L)]) ∧
      Rd w' vp (unn L) ∧ Rd w' vn (nam L) ∧ Below w.heap.size w w' := by
  go_enter Try.func24, Try.ntmps24
  go_wp2
  go_loop [5] (fun i => ∃ k : Nat, k ≤ L.length ∧ i = .int .i64 k ∧ ∀ i x, i < k → L[i]? = some x → x.1 = false) (fun i => L.length - (intOf i).toNat)
  case atStart => exact ⟨0, Nat.zero_le _, rfl, fun i x h => absurd h (by omega)⟩
  case round =>
    obtain ⟨k, hk, rfl, hR⟩ := hrel
    by_cases hgo : ∃ num, L[k]? = some (false, num)
    · obtain ⟨num, HX⟩ := hgo
      have hlt : k < L.length := (List.getElem?_eq_some_iff.1 HX).1
      have hck := (seven (hr k _ HX)).2.1
      have HX : Hid (L[k]? = some (false, num)) := HX
      go_wp2
      go_round
      case rel => exact ⟨k + 1, by omega, by go_num, fun i x hi hx => by
        by_cases e : i = k
        · subst e; rw [HX.out] at hx; cases hx; rfl
        · exact hR i x (by omega) hx⟩
      case measure => simp [intOf]; omega
    · have hnx : ∀ x, L[k]? = some x → x.1 = true := fun x hx => by
        obtain ⟨b, num⟩ := x
        cases b
        · exact absurd ⟨num, hx⟩ hgo
        · rfl
      have hpre : Hid (pre L = k) := pre_eq L k hk hR hnx
      have hck : k < L.length → w.cell? ⟨g, k * 7 + 1, none⟩ = some (.bool true) := fun hlt => by
        have hx : L[k]? = some L[k] := List.getElem?_eq_getElem hlt
        have := (seven (hr k _ hx)).2.1
        rwa [hnx _ hx] at this
      clear hgo
      have HN : Hid (∀ x, L[k]? = some x → x.1 = true) := hnx
      have HR : Hid (∀ i x, i < k → L[i]? = some x → x.1 = false) := hR
      clear hnx hR
      by_cases hlt : k < L.length
      all_goals
        try have hck' := hck hlt
        clear hck
        go_wp2
        go_loop [6] (fun i => ∃ m : Nat, k + 1 ≤ m ∧ m ≤ L.length + 1 ∧ i = .int .i64 m ∧ ∀ i x, k < i → i < m → L[i]? = some x → x.1 = true) (fun i => L.length + 1 - (intOf i).toNat)
        case atStart => exact ⟨k + 1, Nat.le_refl _, by omega, by go_num, fun i x h h' => absurd h (by omega)⟩
        case round =>
          obtain ⟨m, hkm, hm, rfl, hM⟩ := hrel
          have hkL : (k : Int) ≤ (L.length : Int) := by omega
          have hk0 : (0 : Int) ≤ (k : Int) := by omega
          by_cases hmt : m < L.length
          · first
            | (exfalso; omega)
            | (have hx : L[m]? = some L[m] := List.getElem?_eq_getElem hmt
               have hcm := (seven (hr m _ hx)).2.1
               generalize hX : L[m] = x at *
               obtain ⟨nd, num⟩ := x
               have HX : Hid (L[m]? = some (nd, num)) := hx
               have HM : Hid (∀ i x, k < i → i < m → L[i]? = some x → x.1 = true) := hM
               clear hX hx hM
               cases nd
               · go_wp2_with (go_at_call 26; refine (regroup_any g L _ hl hg hr).mono ?_; rintro e w' ⟨vp, vn, rfl, hT⟩)
                 go_ret3
                 exact ⟨vp, vn, by rw [mis_some hpre.out (by omega) HX.out rfl]; rfl, Rd.of_own hT.1, Rd.of_own hT.2.1, hT.2.2.2.1⟩
               · go_wp2
                 go_round
                 case rel => exact ⟨m + 1, by omega, by omega, by go_num, fun i x hi hi' hx => by
                   by_cases e : i = m
                   · subst e; rw [HX.out] at hx; cases hx; rfl
                   · exact HM.out i x hi (by omega) hx⟩
                 case measure => simp [intOf]; omega)
          · have HM : Hid (∀ i x, k < i → i < m → L[i]? = some x → x.1 = true) := hM
            clear hM
            go_wp2
            go_quiet (fail)
            go_wp2
            have F := fun a ha => cut_rd hg hr hk hpre.out HN.out HR.out HM.out (by omega) a ha nq
            go_ret3
            first
            | exact ⟨_, _, by rw [(F _ (.inl rfl)).1]; rfl, (F _ (.inl rfl)).2⟩
            | exact ⟨_, _, by rw [(F none (.inr (by omega))).1]; rfl, (F _ (.inr (by omega))).2⟩

set_option maxHeartbeats 400000 in
theorem zzsplit_any (g : Nat) (L : List (Bool × Int)) (w : World) (hl : L.length ≤ 65536) (hg : g < w.heap.size) (hr : ∀ i x, L[i]? = some x → w.rangeAt g (i * 7) (argOf x)) :
    Calls Try.prog 19 #[.slice (some ⟨g, 0, none⟩) L.length L.length] w fun e w' => ∃ vp vn, e = .returned (.tuple #[vp, vn, .int .i64 (misOf L)]) ∧
      Rd w' vp (unn L) ∧ Rd w' vn (nam L) ∧ Below w.heap.size w w' := by
  go_enter Try.func19, Try.ntmps19
  go_wp2_with (go_at_call 24; refine (split_any g L _ hl hg hr).mono ?_; rintro e w' ⟨vp, vn, rfl, hT⟩)
  go_ret3
  exact ⟨vp, vn, rfl, hT⟩
end Go.Proofs.Qxb6613183a

/-
  PLAIN: the least of a list by '<' on binary64, as jpfMin's loop finds it, is the first element that no element is below.
-/
import Derived.Test.YouanwFloat
namespace Go.Proofs.Youanw.Fl
open Ieee

/-- 'x < y' -/
def ltF (x y : Nat) : Bool := double.order x y == some .lt

theorem ltF_iff (x y : Nat) : ltF x y = (!nan x && !nan y && decide (at_ x < at_ y)) := lt_iff x y

/-- The loop: 'if item < best { best = item }'. -/
def minF (x : Nat) (r : List Nat) : Nat := r.foldl (fun best item => if ltF item best then item else best) x

theorem minF_snoc (x : Nat) (r : List Nat) (u : Nat) : minF x (r ++ [u]) = if ltF u (minF x r) then u else minF x r := by
  unfold minF; rw [List.foldl_append]; rfl

theorem minF_take (x : Nat) (r : List Nat) (k u : Nat) (h : r[k]? = some u) : minF x (r.take (k + 1)) = if ltF u (minF x (r.take k)) then u else minF x (r.take k) := by
  have hk := (List.getElem?_eq_some_iff.1 h).1
  have e := (List.getElem?_eq_some_iff.1 h).2
  rw [List.take_succ_eq_append_getElem hk, e, minF_snoc]

theorem minF_nan (x : Nat) (r : List Nat) (h : nan x = true) : minF x r = x := by
  unfold minF
  induction r with
  | nil => rfl
  | cons u t ih =>
    have : ltF u x = false := by rw [ltF_iff, h]; simp
    simp only [List.foldl_cons, this, Bool.false_eq_true, if_false]
    exact ih

/-- 'p' is the first place that no element is below; 'm' stands there. -/
structure FirstMin (l : List Nat) (p m : Nat) : Prop where
  here : l[p]? = some m
  num : nan m = false
  least : ∀ (j v : Nat), l[j]? = some v → ltF v m = false
  first : ∀ (i v : Nat), i < p → l[i]? = some v → nan v = true ∨ ltF m v = true

theorem firstMin (x : Nat) (h : nan x = false) (r : List Nat) : ∃ p, FirstMin (x :: r) p (minF x r) := by
  have key : ∀ k, k ≤ r.length → ∃ p, FirstMin (x :: r.take k) p (minF x (r.take k)) := by
    intro k
    induction k with
    | zero =>
      intro _
      refine ⟨0, ?_, h, ?_, fun i v hi => absurd hi (by omega)⟩
      · rfl
      · intro j v hv
        cases j with
        | zero => simp at hv; subst hv; simp [minF, ltF_iff]
        | succ j => simp at hv
    | succ k ih =>
      intro hk
      obtain ⟨p, f⟩ := ih (by omega)
      have hu : r[k]? = some (r[k]'(by omega)) := List.getElem?_eq_getElem _
      generalize hU : r[k]'(by omega) = u at hu
      have el : x :: r.take (k + 1) = (x :: r.take k) ++ [u] := by
        rw [List.take_succ_eq_append_getElem (by omega), hU]; rfl
      have hlen : (x :: r.take k).length = k + 1 := by simp; omega
      have hp : p < k + 1 := by have := (List.getElem?_eq_some_iff.1 f.here).1; omega
      rw [el, minF_take x r k u hu]
      generalize minF x (r.take k) = m at *
      generalize x :: r.take k = l at *
      by_cases c : ltF u m = true
      · rw [if_pos c]
        have c' := c
        rw [ltF_iff] at c'
        simp only [Bool.and_eq_true, Bool.not_eq_true', decide_eq_true_eq] at c'
        refine ⟨k + 1, ?_, c'.1.1, ?_, ?_⟩
        · rw [List.getElem?_append_right (by omega)]; simp [hlen]
        · intro j v hv
          by_cases hj : j < k + 1
          · rw [List.getElem?_append_left (by omega)] at hv
            have := f.least j v hv
            rw [ltF_iff] at this ⊢
            rw [c'.1.2] at this; rw [c'.1.1]
            cases hnv : nan v
            · rw [hnv] at this; simp at this ⊢; omega
            · simp
          · have : j = k + 1 := by have := (List.getElem?_eq_some_iff.1 hv).1; simp at this; omega
            subst this
            rw [List.getElem?_append_right (by omega)] at hv
            simp [hlen] at hv; subst hv
            rw [ltF_iff]; simp
        · intro i v hi hv
          rw [List.getElem?_append_left (by omega)] at hv
          cases hnv : nan v
          · right
            have := f.least i v hv
            rw [ltF_iff, hnv, f.num] at this
            rw [ltF_iff, hnv, c'.1.1]
            simp at this ⊢; omega
          · left; rfl
      · rw [if_neg c]
        refine ⟨p, ?_, f.num, ?_, ?_⟩
        · rw [List.getElem?_append_left (by omega)]; exact f.here
        · intro j v hv
          by_cases hj : j < k + 1
          · rw [List.getElem?_append_left (by omega)] at hv; exact f.least j v hv
          · have : j = k + 1 := by have := (List.getElem?_eq_some_iff.1 hv).1; simp at this; omega
            subst this
            rw [List.getElem?_append_right (by omega)] at hv
            simp [hlen] at hv; subst hv
            simpa using c
        · intro i v hi hv
          rw [List.getElem?_append_left (by omega)] at hv
          exact f.first i v hi hv
  have := key r.length (Nat.le_refl _)
  rwa [List.take_of_length_le (Nat.le_refl _)] at this

/-- '1 / x' of a zero has an answer. -/
theorem one_div_zero (x : Nat) (h : (double.order x 0 != some .eq) = false) : ∃ r, double.div 4607182418800017408 x = some r := by
  rw [ne_iff, nan_zero, at_zero] at h
  have h1 : nan x = false ∧ at_ x = 0 := by
    revert h; cases nan x <;> simp
  have e1 : double.read 4607182418800017408 = .number false (2 ^ 52) (-52) := by decide
  unfold nan at h1
  unfold Format.div
  rw [e1]
  cases hr : double.read x with
  | nan => rw [hr] at h1; simp [Datum.isNaN] at h1
  | infinity s =>
    exfalso
    have : at_ x = sg s big := by unfold at_; rw [hr]; rfl
    have hb := big_pos
    rw [h1.2] at this
    unfold sg at this; split at this <;> omega
  | number s m i =>
    have : at_ x = sg s (m * 2 ^ (i + 1074).toNat) := by unfold at_; rw [hr]; rfl
    rw [h1.2] at this
    have hm : m * 2 ^ (i + 1074).toNat = 0 := by
      unfold sg at this; split at this <;> omega
    have hm0 : m = 0 := by
      rcases Nat.mul_eq_zero.1 hm with h | h
      · exact h
      · have := Nat.two_pow_pos (i + 1074).toNat; omega
    subst hm0
    exact ⟨_, rfl⟩

end Go.Proofs.Youanw.Fl

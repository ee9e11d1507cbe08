/-
  THE WALK OF FnSumMonotone.
-/
import Derived.Test.YouanwSum
import Derived.Test.YouanwClones
import Derived.Test.YouanwFloat
import Derived.RegionTactic
import Derived.ChangeAlike
import Derived.Deep.QuietTactic
import Derived.BigQuiet
import Derived.BigRegion
namespace Go.Proofs.Youanw
open Go.RowKit
attribute [local go_sem] run_store_float

theorem bytes21_yes (a b : Option Addr) (n c m d : Nat) (w : World) (h : n ≤ 65536) (h2 : m ≤ 65536) : Calls Uang.prog 21 #[.slice a n c, .slice b m d] w fun e w' => e = .returned (.bool true) ∧ w = w' := by
  go_enter Uang.func21, Uang.ntmps21
  go_wp2
  go_ret
  exact ⟨rfl, rfl⟩

/-- Whatever the lengths. -/
theorem bytes21_any (a b : Option Addr) (n c m d : Nat) (w : World) : Calls Uang.prog 21 #[.slice a n c, .slice b m d] w fun e w' => (∃ r, e = .returned (.bool r)) ∧ w = w' := by
  by_cases h1 : n ≤ 1048576
  · by_cases h2 : m ≤ 1048576
    · by_cases h3 : n + m ≤ 1048576
      all_goals
        go_enter Uang.func21, Uang.ntmps21
        go_wp2
        go_ret
        exact ⟨⟨_, rfl⟩, rfl⟩
    · go_enter Uang.func21, Uang.ntmps21
      go_wp2
      go_ret
      exact ⟨⟨_, rfl⟩, rfl⟩
  · go_enter Uang.func21, Uang.ntmps21
    go_wp2
    go_ret
    exact ⟨⟨_, rfl⟩, rfl⟩

/-- A long list, or lists of two lengths: true at once. -/
theorem sumMono_off (a b : Option Addr) (n c m d : Nat) (w : World) (h : 65536 < n ∨ 65536 < m ∨ n ≠ m) : Calls Uang.prog 6 #[.slice a n c, .slice b m d] w fun e w' => e = .returned (.bool true) ∧ Below w.heap.size w w' := by
  by_cases h1 : 65536 < n
  · go_enter Uang.func6, Uang.ntmps6
    go_wp2_with fail
    refine (bytes21_any _ _ _ _ _ _ _).mono ?_
    rintro e w' ⟨⟨r, rfl⟩, rfl⟩
    cases r
    all_goals
      go_wp2
      go_ret
      exact ⟨rfl, Below.refl _ _⟩
  · by_cases h2 : 65536 < m
    · go_enter Uang.func6, Uang.ntmps6
      go_wp2_with fail
      refine (bytes21_any _ _ _ _ _ _ _).mono ?_
      rintro e w' ⟨⟨r, rfl⟩, rfl⟩
      cases r
      all_goals
        go_wp2
        go_ret
        exact ⟨rfl, Below.refl _ _⟩
    · have h3 : n ≠ m := by omega
      have h4 : ((n : Int) != (m : Int)) = true := by rw [bne_iff_ne]; omega
      go_enter Uang.func6, Uang.ntmps6
      go_wp2_with fail
      refine (bytes21_yes _ _ _ _ _ _ _ (by omega) (by omega)).mono ?_
      rintro e w' ⟨rfl, rfl⟩
      go_wp2
      go_ret
      exact ⟨rfl, Below.refl _ _⟩

/-- The bits that the tape gives for 'x - x' of an infinity or a NaN. -/
def nb (u : Nat) (w : World) : Nat := (Question.nanBits .f64 u u).cut (w.tape w.drawn (.nanBits .f64 u u))

theorem nb_nan (u : Nat) (w : World) : Fl.nan (nb u w) = true := by
  unfold nb Question.cut Fl.nan
  simp only
  generalize w.tape w.drawn (.nanBits .f64 u u) = t
  apply Fl.read_nan
  have h1 : t / 2 % (2 ^ 52 - 1) < 2 ^ 52 - 1 := Nat.mod_lt _ (by omega)
  have h2 : t % 2 = 0 ∨ t % 2 = 1 := by omega
  generalize t / 2 % (2 ^ 52 - 1) = r at *
  rcases h2 with h2 | h2 <;> (rw [h2]; omega)

theorem run_sub_nan (u : Nat) (h : Fl.fin u = false) (w : World) : (binOp .sub 37 (.float .f64 u) (.float .f64 u)).run Uang.prog w = .ok (.float .f64 (nb u w)) w.drew := by
  have e : FloatKind.f64.format.sub u u = none := Fl.sub_self_not h
  simp [binOp, Op.floatArith, e, nb, Question.forced]

theorem run_sub_fin (u : Nat) (h : Fl.fin u = true) (w : World) : (binOp .sub 37 (.float .f64 u) (.float .f64 u)).run Uang.prog w = .ok (.float .f64 0) w := by
  have e : FloatKind.f64.format.sub u u = some 0 := Fl.sub_self_fin h
  exact run_float_arith w .sub 37 .f64 u u 0 e

theorem nb_ne (u : Nat) (w : World) : (FloatKind.f64.format.order (nb u w) 0 != some .eq) = true := by
  have := Fl.ne_iff (nb u w) 0
  rw [nb_nan] at this
  exact this

theorem zero_ne : (FloatKind.f64.format.order 0 0 != some .eq) = false := by decide


/-- The run of the sums. -/
def accF (l : List Nat) (k : Nat) : Nat := (l.take k).foldl (fun s u => (Ieee.double.add s u).getD 0) 0

theorem accF_succ (l : List Nat) (k u : Nat) (h : l[k]? = some u) : accF l (k + 1) = (Ieee.double.add (accF l k) u).getD 0 := by
  unfold accF
  have hk := (List.getElem?_eq_some_iff.1 h).1
  have e := (List.getElem?_eq_some_iff.1 h).2
  rw [List.take_succ_eq_append_getElem hk, List.foldl_append, e]
  rfl

theorem accF_nan (l : List Nat) (h : ∀ (j u : Nat), l[j]? = some u → Fl.fin u = true) : ∀ k, k ≤ l.length → Fl.nan (accF l k) = false
  | 0, _ => Fl.nan_zero
  | k + 1, hk => by
    have ih := accF_nan l h k (by omega)
    have hu : l[k]? = some (l[k]'(by omega)) := List.getElem?_eq_getElem _
    rw [accF_succ l k _ hu]
    obtain ⟨r, h1, h2⟩ := Fl.add_some ih (h k _ hu)
    rw [h1]; exact h2

theorem accF_add (l : List Nat) (h : ∀ (j u : Nat), l[j]? = some u → Fl.fin u = true) (k u : Nat) (hu : l[k]? = some u) : Ieee.double.add (accF l k) u = some (accF l (k + 1)) := by
  have hk := (List.getElem?_eq_some_iff.1 hu).1
  rw [accF_succ l k _ hu]
  obtain ⟨r, h1, h2⟩ := Fl.add_some (accF_nan l h k (by omega)) (h k _ hu)
  rw [h1]; rfl

theorem accF_runs (l : List Nat) (h : ∀ (j u : Nat), l[j]? = some u → Fl.fin u = true) : Runs (accF l) l := ⟨rfl, fun k u hu => accF_add l h k u hu⟩

/-- THE SUMS KEEP THE ORDER. -/
theorem accF_mono (la lb : List Nat) (n : Nat) (ha : la.length = n) (hb : lb.length = n) (h : ∀ (j u v : Nat), la[j]? = some u → lb[j]? = some v → Fl.fin u = true ∧ Fl.fin v = true ∧ Fl.at_ u ≤ Fl.at_ v) :
    ((∀ (j u : Nat), la[j]? = some u → Fl.fin u = true) ∧ (∀ (j u : Nat), lb[j]? = some u → Fl.fin u = true)) ∧ ∀ k, k ≤ n → Fl.at_ (accF la k) ≤ Fl.at_ (accF lb k) := by
  have fa : ∀ (j u : Nat), la[j]? = some u → Fl.fin u = true := fun j u hu => by
    have hj := (List.getElem?_eq_some_iff.1 hu).1
    exact (h j u _ hu (List.getElem?_eq_getElem (by omega))).1
  have fb : ∀ (j u : Nat), lb[j]? = some u → Fl.fin u = true := fun j u hu => by
    have hj := (List.getElem?_eq_some_iff.1 hu).1
    exact (h j _ u (List.getElem?_eq_getElem (by omega)) hu).2.1
  refine ⟨⟨fa, fb⟩, fun k => ?_⟩
  induction k with
  | zero => intro _; exact Int.le_refl _
  | succ k ih =>
    intro hk
    have hu : la[k]? = some (la[k]'(by omega)) := List.getElem?_eq_getElem _
    have hv : lb[k]? = some (lb[k]'(by omega)) := List.getElem?_eq_getElem _
    have hh := h k _ _ hu hv
    exact Fl.add_mono (accF_nan la fa k (by omega)) (accF_nan lb fb k (by omega)) hh.1 hh.2.1 (ih (by omega)) hh.2.2 (accF_add la fa k _ hu) (accF_add lb fb k _ hv)

/-- The last test. -/
theorem accF_le (la lb : List Nat) (n : Nat) (ha : la.length = n) (hb : lb.length = n) (h : ∀ (j u v : Nat), la[j]? = some u → lb[j]? = some v → Fl.fin u = true ∧ Fl.fin v = true ∧ Fl.at_ u ≤ Fl.at_ v) :
    (FloatKind.f64.format.order (accF la n) (accF lb n) == some .lt || FloatKind.f64.format.order (accF la n) (accF lb n) == some .eq) = true := by
  obtain ⟨⟨fa, fb⟩, hm⟩ := accF_mono la lb n ha hb h
  have := Fl.le_iff (accF la n) (accF lb n)
  rw [accF_nan la fa n (by omega), accF_nan lb fb n (by omega)] at this
  refine Eq.trans this ?_
  simp [hm n (Nat.le_refl _)]

set_option maxHeartbeats 1000000 in
theorem sumMono_same (a b : Option Addr) (n c d : Nat) (la lb : List Nat) (w : World) (ha : a = none → n = 0 ∧ c = 0) (hb : b = none → n = 0 ∧ d = 0) (hla : la.length = n) (hlb : lb.length = n)
    (hsa : Src w a (la.map (Value.float .f64))) (hsb : Src w b (lb.map (Value.float .f64))) (h : n ≤ 65536) :
    Calls Uang.prog 6 #[.slice a n c, .slice b n d] w fun e w' => e = .returned (.bool true) ∧ Below w.heap.size w w' := by
  go_enter Uang.func6, Uang.ntmps6
  go_wp2_with (go_at_call 21; refine (bytes21_yes _ _ _ _ _ _ _ (by omega) (by omega)).mono ?_; rintro e w' ⟨rfl, rfl⟩)
  go_loopw [5] (fun i wr => ∃ k : Nat, k ≤ n ∧ i = .int .i64 k ∧ Below w.heap.size w wr ∧ ∀ (j u v : Nat), j < k → la[j]? = some u → lb[j]? = some v → Fl.fin u = true ∧ Fl.fin v = true ∧ Fl.at_ u ≤ Fl.at_ v) (fun i _ => n - (intOf i).toNat)
  case atStart => exact ⟨0, Nat.zero_le _, rfl, Below.refl _ _, fun j u v hj => absurd hj (by omega)⟩
  case round =>
    obtain ⟨k, hk, rfl, hbel, hall⟩ := hrel
    by_cases hlt : k < n
    · obtain ⟨ba, offa, u, hae, hu, hcu⟩ := hsa.at_ hbel (k := k) (by omega)
      obtain ⟨bb, offb, v, hbe, hv, hcv⟩ := hsb.at_ hbel (k := k) (by omega)
      cases hae
      cases hbe
      have hne := nb_ne
      have hz := zero_ne
      cases hfu : Fl.fin u
      · have hsu := run_sub_nan u hfu
        clear hfu hall hsa hsb
        go_wp2
        go_region
        all_goals (go_wp2; go_ret; exact ⟨rfl, hbel.drew.drew⟩)
      · have hsu := run_sub_fin u hfu
        cases hfv : Fl.fin v
        · have hsv := run_sub_nan v hfv
          clear hfu hfv hall hsa hsb
          go_wp2
          go_region
          all_goals (go_wp2; go_ret; exact ⟨rfl, hbel.drew.drew⟩)
        · have hsv := run_sub_fin v hfv
          have hle := Fl.le_iff u v
          rw [Fl.fin_nan hfu, Fl.fin_nan hfv] at hle
          by_cases hc : Fl.at_ u ≤ Fl.at_ v
          · have HA : Hid (∀ (j u v : Nat), j < k + 1 → la[j]? = some u → lb[j]? = some v → Fl.fin u = true ∧ Fl.fin v = true ∧ Fl.at_ u ≤ Fl.at_ v) := by
              intro j u' v' hj hu' hv'
              by_cases e : j < k
              · exact hall j u' v' e hu' hv'
              · have : j = k := by omega
                subst this; rw [hu] at hu'; rw [hv] at hv'; cases hu'; cases hv'; exact ⟨hfu, hfv, hc⟩
            have hle2 : (FloatKind.f64.format.order u v == some .lt || FloatKind.f64.format.order u v == some .eq) = true := hle.trans (by simp [hc])
            clear hfu hfv hall hsa hsb hc hle
            go_wp2
            go_quiet (fail)
            go_wp2
            go_quiet (fail)
            go_wp2
            go_roundw
            case rel => exact ⟨k + 1, by omega, by go_num, below_drewN hbel _, HA.out⟩
            case measure => simp [intOf]; omega
          · have hle2 : (FloatKind.f64.format.order u v == some .lt || FloatKind.f64.format.order u v == some .eq) = false := hle.trans (by simp [hc])
            clear hfu hfv hall hsa hsb hc hle
            go_wp2
            go_quiet (fail)
            go_wp2
            go_quiet (fail)
            go_wp2
            go_ret
            exact ⟨rfl, below_drewN (below_drewN hbel _) _⟩
    · have HA : Hid (∀ (j u v : Nat), j < k → la[j]? = some u → lb[j]? = some v → Fl.fin u = true ∧ Fl.fin v = true ∧ Fl.at_ u ≤ Fl.at_ v) := hall
      clear hall
      go_wp2_with fail
      refine (cloneF_any a n c la _ ha hla (hsa.below hbel) (by omega)).mono ?_
      rintro e w1 ⟨a', c', rfl, hs1, hb1⟩
      go_wp2_with fail
      refine (cloneF_any b n d lb _ hb hlb ((hsb.below hbel).below hb1) (by omega)).mono ?_
      rintro e w2 ⟨b', d', rfl, hs2, hb2⟩
      have hkn : k = n := by omega
      have HA2 : Hid (∀ (j u v : Nat), la[j]? = some u → lb[j]? = some v → Fl.fin u = true ∧ Fl.fin v = true ∧ Fl.at_ u ≤ Fl.at_ v) := by
        intro j u v hu hv
        have := (List.getElem?_eq_some_iff.1 hu).1
        exact HA.out j u v (by omega) hu hv
      have HL : Hid _ := accF_le la lb n hla hlb HA2.out
      have HM : Hid _ := (accF_mono la lb n hla hlb HA2.out).1
      clear HA HA2 hkn
      go_wp2_with fail
      refine (ZZSum_any a' n c' la _ _ (accF_runs la HM.out.1) hla (hs1.below hb2) (by omega)).mono ?_
      rintro e w3 ⟨rfl, hb3⟩
      go_wp2_with fail
      refine (ZZSum_any b' n d' lb _ _ (accF_runs lb HM.out.2) hlb (hs2.below hb3) (by omega)).mono ?_
      rintro e w4 ⟨rfl, hb4⟩
      have hl := HL.out
      go_wp2
      go_ret
      exact ⟨rfl, Below.next hbel (Below.next hb1 (Below.next hb2 (Below.next hb3 hb4)))⟩
end Go.Proofs.Youanw

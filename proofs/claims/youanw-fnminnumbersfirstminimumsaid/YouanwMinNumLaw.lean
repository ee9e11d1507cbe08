/-
  THE WALK OF FnMinNumbersFirstMinimum.
-/
import Derived.Test.YouanwMinNum
import Derived.Test.YouanwClones
import Derived.Deep.QuietTactic
import Derived.BigQuiet
namespace Go.Proofs.Youanw
open Go.RowKit

theorem bytes23_yes (a : Option Addr) (n cap : Nat) (w : World) (h : n ≤ 1048576) : Calls Uang.prog 23 #[.slice a n cap] w fun e w' => e = .returned (.bool true) ∧ w = w' := by
  go_enter Uang.func23, Uang.ntmps23
  go_wp2
  go_ret
  exact ⟨rfl, rfl⟩

theorem bytes23_no (a : Option Addr) (n cap : Nat) (w : World) (h : 1048576 < n) : Calls Uang.prog 23 #[.slice a n cap] w fun e w' => e = .returned (.bool false) ∧ w = w' := by
  go_enter Uang.func23, Uang.ntmps23
  go_wp2
  go_ret
  exact ⟨rfl, rfl⟩

theorem minNum_big (a : Option Addr) (n cap : Nat) (w : World) (h : 4096 < n) : Calls Uang.prog 7 #[.slice a n cap] w fun e w' => e = .returned (.bool true) ∧ Below w.heap.size w w' := by
  by_cases h2 : n ≤ 1048576
  · go_enter Uang.func7, Uang.ntmps7
    go_wp2_with (go_at_call 23; refine (bytes23_yes _ _ _ _ h2).mono ?_; rintro e w' ⟨rfl, rfl⟩)
    go_ret
    exact ⟨rfl, Below.refl _ _⟩
  · go_enter Uang.func7, Uang.ntmps7
    go_wp2_with (go_at_call 23; refine (bytes23_no _ _ _ _ (by omega)).mono ?_; rintro e w' ⟨rfl, rfl⟩)
    go_ret
    exact ⟨rfl, Below.refl _ _⟩

set_option maxHeartbeats 400000 in
theorem minNum_nil (a : Option Addr) (cap : Nat) (w : World) (ha : a = none → cap = 0) :
    Calls Uang.prog 7 #[.slice a 0 cap] w fun e w' => e = .returned (.bool true) ∧ Below w.heap.size w w' := by
  go_enter Uang.func7, Uang.ntmps7
  go_wp2_with (go_at_call 23; refine (bytes23_yes _ _ _ _ (by omega)).mono ?_; rintro e w' ⟨rfl, rfl⟩)
  refine (cloneF_any a 0 cap [] _ (fun e => ⟨rfl, ha e⟩) rfl (Src.nil _ _) (by omega)).mono ?_
  rintro e w1 ⟨a', cap', rfl, hs1, hb1⟩
  go_wp2_with fail
  refine (ZZMinF_any a' 0 cap' [] _ rfl hs1 (by omega)).mono ?_
  rintro e w2 ⟨rfl, hb2⟩
  simp only [minOut]
  go_wp2
  go_ret
  exact ⟨rfl, Below.next hb1 hb2⟩

set_option maxHeartbeats 400000 in
theorem minNum_nan (a : Option Addr) (n cap x : Nat) (r : List Nat) (w : World) (ha : a = none → n = 0 ∧ cap = 0) (hx : (x :: r).length = n) (hs : Src w a ((x :: r).map (Value.float .f64))) (h : n ≤ 4096) (hnan : Fl.nan x = true) :
    Calls Uang.prog 7 #[.slice a n cap] w fun e w' => e = .returned (.bool true) ∧ Below w.heap.size w w' := by
  have hn1 : 1 ≤ n := by simp at hx; omega
  have hn0 : ((n : Int) == 0) = false := beq_eq_false_iff_ne.2 (by omega)
  go_enter Uang.func7, Uang.ntmps7
  go_wp2_with (go_at_call 23; refine (bytes23_yes _ _ _ _ (by omega)).mono ?_; rintro e w' ⟨rfl, rfl⟩)
  refine (cloneF_any a n cap (x :: r) _ ha hx hs (by omega)).mono ?_
  rintro e w1 ⟨a', cap', rfl, hs1, hb1⟩
  go_wp2_with fail
  refine (ZZMinF_any a' n cap' (x :: r) _ hx hs1 (by omega)).mono ?_
  rintro e w2 ⟨rfl, hb2⟩
  simp only [minOut]
  rw [Fl.minF_nan x r hnan]
  obtain ⟨b, off, u, hxe, hu, hcx⟩ := hs1.at_ hb2 (k := 0) (by simp)
  cases hxe
  cases hu
  rw [Nat.add_zero] at hcx
  go_wp2_with (go_at_call 25; refine (isNaN_any _ _).mono ?_; rintro e w' ⟨rfl, rfl⟩)
  go_ret
  exact ⟨rfl, Below.next hb1 hb2⟩

theorem isNaN_same (x : Nat) (w : World) : Calls Uang.prog 25 #[.float .f64 x] w fun e w' => e = .returned (.bool (Fl.nan x)) ∧ w' = w :=
  (isNaN_any x w).mono fun _ _ ⟨h1, h2⟩ => ⟨h1, h2.symm⟩

set_option maxHeartbeats 1000000 in
theorem minNum_num (a : Option Addr) (n cap x : Nat) (r : List Nat) (w : World) (ha : a = none → n = 0 ∧ cap = 0) (hx : (x :: r).length = n) (hs : Src w a ((x :: r).map (Value.float .f64))) (h : n ≤ 4096) (hnan : Fl.nan x = false) :
    Calls Uang.prog 7 #[.slice a n cap] w fun e w' => e = .returned (.bool true) ∧ Below w.heap.size w w' := by
  have hn1 : 1 ≤ n := by simp at hx; omega
  have hn0 : ((n : Int) == 0) = false := beq_eq_false_iff_ne.2 (by omega)
  obtain ⟨p, fm⟩ := Fl.firstMin x hnan r
  go_enter Uang.func7, Uang.ntmps7
  go_wp2_with (go_at_call 23; refine (bytes23_yes _ _ _ _ (by omega)).mono ?_; rintro e w' ⟨rfl, rfl⟩)
  refine (cloneF_any a n cap (x :: r) _ ha hx hs (by omega)).mono ?_
  rintro e w1 ⟨a', cap', rfl, hs1, hb1⟩
  go_wp2_with fail
  refine (ZZMinF_any a' n cap' (x :: r) _ hx hs1 (by omega)).mono ?_
  rintro e w2 ⟨rfl, hb2⟩
  simp only [minOut]
  generalize Fl.minF x r = m at *
  have hs2 := hs1.below hb2
  obtain ⟨b, off, u, hxe, hu, hcx⟩ := hs2.at_ (Below.refl _ _) (k := 0) (by simp)
  cases hxe
  cases hu
  rw [Nat.add_zero] at hcx
  have hpn : p < n := by have := (List.getElem?_eq_some_iff.1 fm.here).1; omega
  clear hs hs1
  go_wp2_with (go_at_call 25; refine (isNaN_any _ _).mono ?_; rintro e w' ⟨rfl, rfl⟩)
  generalize x :: r = l at *
  clear hcx
  go_loopw [5, 6] (fun t i wr => ∃ k : Nat, k ≤ n ∧ i = .int .i64 k ∧ Below w2.heap.size w2 wr ∧ ((t = .int .i64 (-1) ∧ k ≤ p) ∨ (t = .int .i64 p ∧ k = p + 1))) (fun _ i _ => n - (intOf i).toNat)
  case atStart => exact ⟨0, Nat.zero_le _, rfl, Below.refl _ _, .inl ⟨rfl, Nat.zero_le _⟩⟩
  case round =>
    obtain ⟨k, hk, rfl, hbel, ⟨rfl, hkp⟩ | ⟨rfl, rfl⟩⟩ := hrel
    · obtain ⟨b', off', u, hxe, hu, hcx⟩ := hs2.at_ hbel (k := k) (by omega)
      cases hxe
      cases hnu : Fl.nan u
      · go_wp2_with (go_at_call 25; refine (isNaN_any _ _).mono ?_; rintro e w' ⟨rfl, rfl⟩)
        clear hcx
        go_loopw [7, 8] (fun s j wj => ∃ q : Nat, q ≤ n ∧ j = .int .i64 q ∧ s = .bool true ∧ Below w2.heap.size w2 wj ∧ ∀ (i v : Nat), i < q → l[i]? = some v → Fl.ltF v u = false) (fun _ j _ => n - (intOf j).toNat)
        case atStart => exact ⟨0, Nat.zero_le _, rfl, rfl, hbel, fun i v hi => absurd hi (by omega)⟩
        case round =>
          obtain ⟨q, hq, rfl, rfl, hbj, hall⟩ := hrel
          by_cases hlt : q < n
          · obtain ⟨b1, off1, u', hxe, hu', hcu⟩ := hs2.at_ hbj (k := k) (by omega)
            cases hxe
            obtain rfl : u' = u := by rw [hu] at hu'; cases hu'; rfl
            obtain ⟨b1, off1, v, hxe, hv, hcv⟩ := hs2.at_ hbj (k := q) (by omega)
            cases hxe
            cases hc : Fl.ltF v u'
            · have HA : Hid (∀ (i v : Nat), i < q + 1 → l[i]? = some v → Fl.ltF v u' = false) := by
                intro i v' hi hv'
                by_cases e : i < q
                · exact hall i v' e hv'
                · have : i = q := by omega
                  subst this; rw [hv] at hv'; cases hv'; exact hc
              have hc2 : (FloatKind.f64.format.order v u' == some .lt) = false := hc
              clear hall hc hu'
              cases hnv : Fl.nan v
              all_goals
                go_wp2
                go_quiet ((go_at_call 25; exact Calls.quiet_of_same (isNaN_same _ _)))
                go_wp2
                go_roundw
                case rel => exact ⟨q + 1, by omega, by go_num, rfl, below_drewN hbj _, HA.out⟩
                case measure => simp [intOf]; omega
            · have hc2 : (FloatKind.f64.format.order v u' == some .lt) = true := hc
              have hnv : Fl.nan v = false := by
                rw [Fl.ltF_iff] at hc; simp at hc; exact hc.1.1
              have HK : Hid (k + 1 ≤ p) := by
                have : k ≠ p := fun e => by
                  subst e; rw [fm.here] at hu; cases hu; rw [fm.least q v hv] at hc; cases hc
                show k + 1 ≤ p
                omega
              clear hall hc hu'
              go_wp2
              go_quiet ((go_at_call 25; exact Calls.quiet_of_same (isNaN_same _ _)))
              go_wp2
              go_roundw
              case rel => exact ⟨k + 1, by omega, by go_num, below_drewN hbj _, .inl ⟨rfl, HK.out⟩⟩
              case measure => simp [intOf]; omega
          · have hkp2 : k = p := by
              by_cases e : k < p
              · exfalso
                rcases fm.first k u e hu with h1 | h1
                · rw [h1] at hnu; cases hnu
                · have hm := (List.getElem?_eq_some_iff.1 fm.here).1
                  have := hall p m (by omega) fm.here
                  rw [h1] at this; cases this
              · omega
            subst hkp2
            clear hall
            go_wp2
            go_roundw
            case rel => exact ⟨k + 1, by omega, by go_num, hbj, .inr ⟨rfl, rfl⟩⟩
            case measure => simp [intOf]; omega
      · have HK : Hid (k + 1 ≤ p) := by
          have : k ≠ p := fun e => by
            subst e; rw [fm.here] at hu; cases hu; rw [fm.num] at hnu; cases hnu
          show k + 1 ≤ p
          omega
        go_wp2_with (go_at_call 25; refine (isNaN_any _ _).mono ?_; rintro e w' ⟨rfl, rfl⟩)
        go_roundw
        case rel => exact ⟨k + 1, by omega, by go_num, hbel, .inl ⟨rfl, HK.out⟩⟩
        case measure => simp [intOf]; omega
    · obtain ⟨b', off', u, hxe, hu, hcx⟩ := hs2.at_ hbel (k := p) (by omega)
      cases hxe
      have hum : u = m := by rw [fm.here] at hu; cases hu; rfl
      subst hum
      by_cases hlt : p + 1 < n
      · go_wp2_with (go_at_call 26; refine (same_any _ fm.num _).mono ?_; rintro e w' ⟨rfl, rfl⟩)
        go_ret
        exact ⟨rfl, Below.next hb1 (Below.next hb2 hbel)⟩
      · go_wp2_with (go_at_call 26; refine (same_any _ fm.num _).mono ?_; rintro e w' ⟨rfl, rfl⟩)
        go_ret
        exact ⟨rfl, Below.next hb1 (Below.next hb2 hbel)⟩

theorem minNum_any (a : Option Addr) (n cap : Nat) (l : List Nat) (w : World) (ha : a = none → n = 0 ∧ cap = 0) (hx : l.length = n) (hs : Src w a (l.map (Value.float .f64))) (_ : ∀ u ∈ l, (Lit.float .f64 u).wf = true) :
    Calls Uang.prog 7 #[.slice a n cap] w fun e w' => e = .returned (.bool true) ∧ Below w.heap.size w w' := by
  by_cases h : n ≤ 4096
  · match l, hx, hs with
    | [], hx, _ =>
      subst hx
      exact minNum_nil a cap w (fun e => (ha e).2)
    | x :: r, hx, hs =>
      cases hn : Fl.nan x
      · exact minNum_num a n cap x r w ha hx hs h hn
      · exact minNum_nan a n cap x r w ha hx hs h hn
  · exact minNum_big a n cap w (by omega)

end Go.Proofs.Youanw

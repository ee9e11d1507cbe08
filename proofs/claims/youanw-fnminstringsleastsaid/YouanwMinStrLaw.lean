/-
  THE WALK OF FnMinStringsLeast.
-/
import Derived.Test.YouanwStr
import Derived.Test.YouanwClones
namespace Go.Proofs.Youanw
open Go.RowKit

set_option maxHeartbeats 400000 in
theorem minStr_big (a : Option Addr) (n cap : Nat) (l : List ByteArray) (w : World) (hx : l.length = n) (hs : Src w a (l.map Value.string)) (h : 4096 < n) :
    Calls Uang.prog 8 #[.slice a n cap] w fun e w' => e = .returned (.bool true) ∧ Below w.heap.size w w' := by
  go_enter Uang.func8, Uang.ntmps8
  go_wp2_with fail
  refine (bytes27_any a n cap l _ hx hs).mono ?_
  rintro e w' ⟨⟨r, rfl⟩, rfl⟩
  cases r
  all_goals
    go_wp2
    go_ret
    exact ⟨rfl, Below.refl _ _⟩

set_option maxHeartbeats 1000000 in
theorem minStr_small (a : Option Addr) (n cap : Nat) (l : List ByteArray) (w : World) (ha : a = none → n = 0 ∧ cap = 0) (hx : l.length = n) (hs : Src w a (l.map Value.string)) (hg : ∀ u ∈ l, u.size ≤ maxLen) (h : n ≤ 4096) :
    Calls Uang.prog 8 #[.slice a n cap] w fun e w' => e = .returned (.bool true) ∧ Below w.heap.size w w' := by
  have hg2 : ∀ (j : Nat) (u : ByteArray), l[j]? = some u → u.size ≤ maxLen := fun j u hu => hg u (List.mem_of_getElem? hu)
  clear hg
  go_enter Uang.func8, Uang.ntmps8
  go_wp2_with fail
  refine (bytes27_any a n cap l _ hx hs).mono ?_
  rintro e w' ⟨⟨r, rfl⟩, rfl⟩
  cases r
  · go_wp2
    go_ret
    exact ⟨rfl, Below.refl _ _⟩
  go_wp2_with fail
  refine (strBytes_any a n cap l _ hx hs (by omega)).mono ?_
  rintro e w' ⟨⟨t, rfl⟩, rfl⟩
  by_cases ht : 1048576 < t
  · go_wp2
    go_ret
    exact ⟨rfl, Below.refl _ _⟩
  go_wp2_with fail
  refine (cloneS_any a n cap l _ ha hx hs (by omega)).mono ?_
  rintro e w1 ⟨a', cap', rfl, hs1, hb1⟩
  go_wp2_with fail
  refine (ZZMinS_any a' n cap' l _ hx hs1 (by omega)).mono ?_
  rintro e w2 ⟨rfl, hb2⟩
  have hs2 := hs1.below hb2
  clear hs hs1
  cases l with
  | nil =>
    subst hx
    simp only [minOutS]
    go_wp2
    go_ret
    exact ⟨rfl, Below.next hb1 hb2⟩
  | cons x r =>
    have hn0 : ((n : Int) == 0) = false := beq_eq_false_iff_ne.2 (by simp at hx; omega)
    have hleast := St.minS_least x r
    simp only [minOutS]
    generalize St.minS x r = m at *
    generalize x :: r = l at *
    obtain ⟨p0, hp0⟩ := List.getElem?_of_mem hleast.1
    have hp0n : p0 < n := by have := (List.getElem?_eq_some_iff.1 hp0).1; omega
    go_wp2
    go_loopw [5, 6] (fun t i wr => ∃ k : Nat, k ≤ n ∧ i = .int .i64 k ∧ Below w2.heap.size w2 wr ∧ ((t = .int .i64 (-1) ∧ ∀ (i : Nat) (v : ByteArray), i < k → l[i]? = some v → v ≠ m) ∨ (∃ p : Nat, p < n ∧ t = .int .i64 p ∧ l[p]? = some m))) (fun _ i _ => n - (intOf i).toNat)
    case atStart => exact ⟨0, Nat.zero_le _, rfl, Below.refl _ _, .inl ⟨rfl, fun i v hi => absurd hi (by omega)⟩⟩
    case round =>
      obtain ⟨k, hk, rfl, hbel, ⟨rfl, hnot⟩ | ⟨p, hpn, rfl, hp⟩⟩ := hrel
      · have hkn : k < n := by
          by_cases e : k < n
          · exact e
          · exact absurd rfl (hnot p0 m (by omega) hp0)
        obtain ⟨b, off, u, hxe, hu, hcx⟩ := hs2.at_ hbel (k := k) (by omega)
        cases hxe
        have HN : Hid (∀ (i : Nat) (v : ByteArray), i < k → l[i]? = some v → v ≠ m) := hnot
        clear hcx hnot
        go_wp2
        go_loopw [7, 8] (fun s j wj => ∃ q : Nat, q ≤ n ∧ j = .int .i64 q ∧ s = .bool true ∧ Below w2.heap.size w2 wj ∧ ∀ (i : Nat) (v : ByteArray), i < q → l[i]? = some v → St.less v u = false) (fun _ j _ => n - (intOf j).toNat)
        case atStart => exact ⟨0, Nat.zero_le _, rfl, rfl, hbel, fun i v hi => absurd hi (by omega)⟩
        case round =>
          obtain ⟨q, hq, rfl, rfl, hbj, hall⟩ := hrel
          by_cases hlt : q < n
          · obtain ⟨b1, off1, u', hxe, hu', hcu⟩ := hs2.at_ hbj (k := k) (by omega)
            cases hxe
            obtain rfl : u' = u := by rw [hu] at hu'; cases hu'; rfl
            obtain ⟨b1, off1, v, hxe, hv, hcv⟩ := hs2.at_ hbj (k := q) (by omega)
            cases hxe
            have hus := hg2 k u' hu
            have hvs := hg2 q v hv
            cases hc : St.less v u'
            · have HA : Hid (∀ (i : Nat) (v : ByteArray), i < q + 1 → l[i]? = some v → St.less v u' = false) := by
                intro i v' hi hv'
                by_cases e : i < q
                · exact hall i v' e hv'
                · have : i = q := by omega
                  subst this; rw [hv] at hv'; cases hv'; exact hc
              clear hall hu'
              go_wp2
              go_quiet ((go_at_call 31; exact Calls.quiet_of (lessStr_is v u' _ _ hvs hus hc)))
              go_wp2
              go_roundw
              case rel => exact ⟨q + 1, by omega, by go_num, rfl, below_drewN hbj _, HA.out⟩
              case measure => simp [intOf]; omega
            · have HK : Hid (∀ (i : Nat) (v : ByteArray), i < k + 1 → l[i]? = some v → v ≠ m) := by
                intro i v' hi hv' e
                by_cases e2 : i < k
                · exact HN.out i v' e2 hv' e
                · have : i = k := by omega
                  subst this; rw [hu] at hv'; cases hv'; subst e
                  rw [hleast.2 v (List.mem_of_getElem? hv)] at hc; cases hc
              clear hall hu'
              go_wp2
              go_quiet ((go_at_call 31; exact Calls.quiet_of (lessStr_is v u' _ _ hvs hus hc)))
              go_wp2
              go_roundw
              case rel => exact ⟨k + 1, by omega, by go_num, below_drewN hbj _, .inl ⟨rfl, HK.out⟩⟩
              case measure => simp [intOf]; omega
          · have hum : u = m := St.less_total (hleast.2 u (List.mem_of_getElem? hu)) (hall p0 m (by omega) hp0)
            subst hum
            clear hall
            go_wp2
            go_roundw
            case rel => exact ⟨k + 1, by omega, by go_num, hbj, .inr ⟨k, by omega, rfl, hu⟩⟩
            case measure => simp [intOf]; omega
      · obtain ⟨b, off, u, hxe, hu, hcx⟩ := hs2.at_ hbel (k := p) (by omega)
        cases hxe
        obtain rfl : u = m := by rw [hp] at hu; cases hu; rfl
        by_cases hlt : k < n
        all_goals
          go_wp2
          go_ret
          exact ⟨by simp, Below.next hb1 (Below.next hb2 hbel)⟩

theorem minStr_any (a : Option Addr) (n cap : Nat) (l : List ByteArray) (w : World) (ha : a = none → n = 0 ∧ cap = 0) (hx : l.length = n) (hs : Src w a (l.map Value.string)) (hg : ∀ u ∈ l, u.size ≤ maxLen) :
    Calls Uang.prog 8 #[.slice a n cap] w fun e w' => e = .returned (.bool true) ∧ Below w.heap.size w w' := by
  by_cases h : n ≤ 4096
  · exact minStr_small a n cap l w ha hx hs hg h
  · exact minStr_big a n cap l w hx hs (by omega)

end Go.Proofs.Youanw

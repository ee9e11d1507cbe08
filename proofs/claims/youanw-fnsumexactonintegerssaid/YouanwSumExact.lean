/-
  THE WALK OF FnSumExactOnIntegers.
-/
import Derived.Test.YouanwSum
import Derived.Test.YouanwClones
import Derived.Test.YouanwFloat
namespace Go.Proofs.Youanw
open Go.RowKit
attribute [local go_sem] run_store_float

theorem bytes18_yes (a : Option Addr) (n cap : Nat) (w : World) (h : n ≤ 1048576) : Calls Uang.prog 18 #[.slice a n cap] w fun e w' => e = .returned (.bool true) ∧ w' = w := by
  go_enter Uang.func18, Uang.ntmps18
  go_wp2
  go_ret
  exact ⟨rfl, rfl⟩

theorem bytes18_no (a : Option Addr) (n cap : Nat) (w : World) (h : 1048576 < n) : Calls Uang.prog 18 #[.slice a n cap] w fun e w' => e = .returned (.bool false) ∧ w' = w := by
  go_enter Uang.func18, Uang.ntmps18
  go_wp2
  go_ret
  exact ⟨rfl, rfl⟩

theorem sumExact_big (a : Option Addr) (n cap : Nat) (w : World) (h : 65536 < n) : Calls Uang.prog 5 #[.slice a n cap] w fun e w' => e = .returned (.bool true) ∧ Below w.heap.size w w' := by
  by_cases h2 : n ≤ 1048576
  · go_enter Uang.func5, Uang.ntmps5
    go_wp2_with (go_at_call 18; refine (bytes18_yes _ _ _ _ h2).mono ?_; rintro e w' ⟨rfl, rfl⟩)
    go_ret
    exact ⟨rfl, Below.refl _ _⟩
  · go_enter Uang.func5, Uang.ntmps5
    go_wp2_with (go_at_call 18; refine (bytes18_no _ _ _ _ (by omega)).mono ?_; rintro e w' ⟨rfl, rfl⟩)
    go_ret
    exact ⟨rfl, Below.refl _ _⟩

/-- The sum of the first k. -/
def S (l : List Int) (k : Nat) : Int := (l.take k).sum

theorem S_succ (l : List Int) (k : Nat) (u : Int) (h : l[k]? = some u) : S l (k + 1) = S l k + u := by
  unfold S
  have hk := (List.getElem?_eq_some_iff.1 h).1
  have e := (List.getElem?_eq_some_iff.1 h).2
  rw [List.take_succ_eq_append_getElem hk, List.sum_append, e]
  simp

theorem S_bd (l : List Int) (n : Nat) (h : ∀ j u, j < n → l[j]? = some u → -68719476736 ≤ u ∧ u ≤ 68719476736) (hn : n ≤ l.length) : ∀ k, k ≤ n → -(68719476736 * (k : Int)) ≤ S l k ∧ S l k ≤ 68719476736 * (k : Int)
  | 0, _ => by simp [S]
  | k + 1, hk => by
    have ih := S_bd l n h hn k (by omega)
    have hu : l[k]? = some (l[k]'(by omega)) := List.getElem?_eq_getElem _
    have := h k _ (by omega) hu
    rw [S_succ l k _ hu]
    omega

theorem S_bd2 {l : List Int} {n : Nat} (h : ∀ j u, j < n → l[j]? = some u → -68719476736 ≤ u ∧ u ≤ 68719476736) (hn : n ≤ l.length) (hn2 : n ≤ 65536) {k : Nat} (hk : k ≤ n) : -4503599627370496 ≤ S l k ∧ S l k ≤ 4503599627370496 := by
  have := S_bd l n h hn k hk
  omega

/-- The run of the float sums is the float of the sums. -/
theorem S_runs (l : List Int) (h : ∀ j u, j < l.length → l[j]? = some u → -68719476736 ≤ u ∧ u ≤ 68719476736) (hn : l.length ≤ 65536) : Runs (fun k => floatOfInt .f64 (S l k)) (l.map (floatOfInt .f64)) := by
  refine ⟨Fl.ofInt_zero, fun k v hv => ?_⟩
  rw [List.getElem?_map, Option.map_eq_some_iff] at hv
  obtain ⟨u, hu, rfl⟩ := hv
  have hk := (List.getElem?_eq_some_iff.1 hu).1
  have b1 := S_bd2 h (Nat.le_refl _) hn (k := k) (by omega)
  have b2 := h k u hk hu
  simp only []
  rw [S_succ l k u hu]
  exact Fl.ofInt_add (S l k) u (by omega) (by omega)

/-- The last test: the float sum is the float of the sum. -/
theorem S_eq (l : List Int) (n : Nat) (h : -4503599627370496 ≤ S l n ∧ S l n ≤ 4503599627370496) : (FloatKind.f64.format.order (floatOfInt .f64 (S l n)) (floatOfInt .f64 (S l n)) == some .eq) = true := by
  have : Fl.nan (Fl.ofInt (S l n)) = false := (Fl.ofInt_at (S l n) (by omega)).1
  have h2 := Fl.eq_iff (Fl.ofInt (S l n)) (Fl.ofInt (S l n))
  rw [this] at h2
  simp only [Bool.not_false, Bool.true_and, decide_true] at h2
  exact h2

set_option maxHeartbeats 400000 in
theorem sumExact_small (a : Option Addr) (n cap : Nat) (l : List Int) (w : World) (ha : a = none → n = 0 ∧ cap = 0) (hx : l.length = n) (hs : Src w a (l.map (Value.int .i64))) (h : n ≤ 65536) :
    Calls Uang.prog 5 #[.slice a n cap] w fun e w' => e = .returned (.bool true) ∧ Below w.heap.size w w' := by
  go_enter Uang.func5, Uang.ntmps5
  go_wp2_with (go_at_call 18; refine (bytes18_yes _ _ _ _ (by omega)).mono ?_; rintro e w' ⟨rfl, rfl⟩)
  go_loop [3] (fun i => ∃ k : Nat, k ≤ n ∧ i = .int .i64 k ∧ ∀ j u, j < k → l[j]? = some u → -68719476736 ≤ u ∧ u ≤ 68719476736) (fun i => n - (intOf i).toNat)
  case atStart => exact ⟨0, Nat.zero_le _, rfl, fun j u hj => absurd hj (by omega)⟩
  case round =>
    obtain ⟨k, hk, rfl, hall⟩ := hrel
    by_cases hlt : k < n
    · obtain ⟨b, off, u, hxe, hu, hcx⟩ := hs.at_ (Below.refl _ _) (k := k) (by omega)
      cases hxe
      by_cases h1 : u < -68719476736
      · go_wp2
        go_ret
        exact ⟨rfl, Below.refl _ _⟩
      · by_cases h2 : 68719476736 < u
        · go_wp2
          go_ret
          exact ⟨rfl, Below.refl _ _⟩
        · have HA : Hid (∀ j v, j < k + 1 → l[j]? = some v → -68719476736 ≤ v ∧ v ≤ 68719476736) := by
            intro j v hj hv
            by_cases e : j < k
            · exact hall j v e hv
            · have : j = k := by omega
              subst this; rw [hu] at hv; cases hv; omega
          clear hall
          go_wp2
          go_round
          case rel => exact ⟨k + 1, by omega, by go_num, HA.out⟩
          case measure => simp [intOf]; omega
    · have HA : Hid (∀ j u, j < k → l[j]? = some u → -68719476736 ≤ u ∧ u ≤ 68719476736) := hall
      clear hall
      go_wp2_with fail
      refine (cloneI_any a n cap l _ ha hx hs (by omega)).mono ?_
      rintro e w1 ⟨a', cap', rfl, hs1, hb1⟩
      obtain ⟨i0, hi, hz0, hz1, hz2⟩ := info_parts Uang.info37
      go_wp2_with (at_make; refine wpList_make_full _ rfl _ _ 36 rfl w1.heap.size 37 i0 (.float .f64 0) 1 Uang.underlying36 hi hz0 hz1 .i64 .i64 _ _ n rfl rfl (by omega) (by omega) (by rw [hz2]; omega) (by unfold maxLen; omega) (Nat.le_refl _) ?_; intro w0 hown0 hgrow0)
      have hkn : k = n := by omega
      have HB : Hid (∀ j, j ≤ n → -4503599627370496 ≤ S l j ∧ S l j ≤ 4503599627370496) := fun j hj => S_bd2 (n := n) (by subst hkn; exact HA.out) (by omega) h hj
      have HR : Hid (Runs (fun k => floatOfInt .f64 (S l k)) (l.map (floatOfInt .f64))) := S_runs l (by rw [hx, ← hkn]; exact HA.out) (by omega)
      clear HA hkn
      go_loopw [5, 6] (fun s i wr => ∃ (j : Nat) (zs : List Value), j ≤ n ∧ i = .int .i64 j ∧ s = .int .i64 (S l j) ∧ wr.ownsRow w1.heap.size 37 1 (.slice (some ⟨w1.heap.size, 0, none⟩) n n) n zs ∧ zs.take j = ((l.map (floatOfInt .f64)).map (Value.float .f64)).take j ∧ Below w1.heap.size w1 wr) (fun _ i _ => n - (intOf i).toNat)
      case atStart => exact ⟨0, _, Nat.zero_le _, rfl, rfl, hown0, by simp, (Below.refl _ _).grown hgrow0 (Nat.le_refl _) (fun k hk => by cases hk)⟩
      case round =>
        obtain ⟨j, zs, hj, rfl, rfl, hown, hzs, hbel⟩ := hrel
        have hSj := HB.out j hj
        by_cases hlj : j < n
        · obtain ⟨b, off, u, hxe, hu, hcx⟩ := hs1.at_ hbel (k := j) (by omega)
          cases hxe
          obtain ⟨z, hcy⟩ := own_at hown hlj
          have hfy : wr.frozen? ⟨w1.heap.size, j, none⟩ = false := hown.frozenAt j
          have R := own_store hown hlj (v := .float .f64 (floatOfInt .f64 u)) (by rw [List.getElem?_map, List.getElem?_map, hu]; rfl) hzs hbel
          have hS1 := HB.out (j + 1) (by omega)
          have HS : Hid (S l (j + 1) = S l j + u) := S_succ l j u hu
          have hb1' : -4503599627370496 ≤ S l j + u := by have := HS.out; omega
          have hb2' : S l j + u ≤ 4503599627370496 := by have := HS.out; omega
          have hcx2 := hs1.at_block (k := j) (by omega)
          have hcx2 := (((Below.refl w1.heap.size wr).setCell (p := ⟨w1.heap.size, j, none⟩) (Nat.le_refl _) (.float .f64 (floatOfInt .f64 u))).cell (p := ⟨b, off + j, none⟩) hcx2).trans hcx
          clear hown hzs hbel hs hs1 hS1
          go_wp2
          go_roundw
          case rel => exact ⟨j + 1, _, by omega, by go_num, by rw [HS.out], R.1, R.2.1, R.2.2⟩
          case measure => simp [intOf]; omega
        · have hsr := own_full hown (by simpa using hx) hlj hzs
          have hjn : j = n := by omega
          subst hjn
          have HE : Hid _ := S_eq l j hSj
          clear hown hzs hs hs1
          go_wp2_with fail
          refine (ZZSum_any _ j j _ _ _ HR.out (by simpa using hx) hsr (by omega)).mono ?_
          rintro e w2 ⟨rfl, hb2⟩
          have he := HE.out
          go_wp2
          go_ret
          exact ⟨rfl, Below.next hb1 (Below.next hbel hb2)⟩
end Go.Proofs.Youanw

/-
  THE WALKS of jpfMin over numbers, ZZb7MinNums, zzIsNaN, zzSameFloat.
-/
import Derived.Test.YouanwParts
import Derived.Test.YouanwMinPlain
import Derived.Laws.FloatArith
namespace Go.Proofs.Youanw
open Go.RowKit
attribute [local go_sem] run_store_float as53 as37 as37f

set_option maxHeartbeats 400000 in
theorem toNum_made (a : Option Addr) (n cap : Nat) (l : List Nat) (w : World) (hx : l.length = n) (hs : Src w a (l.map (fun b => .iface 37 (.float .f64 b)))) (hn : n ≤ 1048576) :
    Calls Uang.prog 36 #[.iface 53 (.slice a n cap)] w fun e w' => ∃ g, e = .returned (.tuple #[.slice (some ⟨g, 0, none⟩) n n, .bool true]) ∧ Src w' (some ⟨g, 0, none⟩) (l.map (Value.float .f64)) ∧ Below w.heap.size w w' := by
  obtain ⟨i0, hi, hz0, hz1, hz2⟩ := info_parts Uang.info37
  go_enter Uang.func36, Uang.ntmps36
  go_wp2_with (at_make; refine wpList_make_full _ rfl _ _ 36 rfl w.heap.size 37 i0 (.float .f64 0) 1 Uang.underlying36 hi hz0 hz1 .i64 .i64 _ _ n rfl rfl (by omega) (by omega) (by rw [hz2]; omega) (by unfold maxLen; omega) (Nat.le_refl _) ?_; intro w0 hown0 hgrow0)
  go_loopw [22] (fun i wr => ∃ (k : Nat) (zs : List Value), k ≤ n ∧ i = .int .i64 k ∧ wr.ownsRow w.heap.size 37 1 (.slice (some ⟨w.heap.size, 0, none⟩) n n) n zs ∧ zs.take k = (l.map (Value.float .f64)).take k ∧ Below w.heap.size w wr) (fun i _ => n - (intOf i).toNat)
  case atStart => exact ⟨0, _, Nat.zero_le _, rfl, hown0, by simp, (Below.refl _ _).grown hgrow0 (Nat.le_refl _) (fun k hk => by cases hk)⟩
  case round =>
    obtain ⟨k, zs, hk, rfl, hown, hzs, hbel⟩ := hrel
    by_cases hlt : k < n
    · obtain ⟨b, off, u, hxe, hu, hcx⟩ := hs.at_ hbel (k := k) (by omega)
      cases hxe
      obtain ⟨z, hcy⟩ := own_at hown hlt
      have hfy : wr.frozen? ⟨w.heap.size, k, none⟩ = false := hown.frozenAt k
      have R := own_store hown hlt (v := .float .f64 u) (by rw [List.getElem?_map, hu]; rfl) hzs hbel
      clear hown hzs hbel hs
      go_wp2
      go_roundw
      case rel => exact ⟨k + 1, _, by omega, by go_num, R.1, R.2.1, R.2.2⟩
      case measure => simp [intOf]; omega
    · go_wp2
      go_ret2
      exact ⟨_, rfl, own_full hown (by simpa using hx) hlt hzs, hbel⟩

/-- What jpfMin gives for a list of numbers. -/
def minRes : List Nat → Value
  | [] => .nilIface
  | x :: r => .iface 37 (.float .f64 (Fl.minF x r))

set_option maxHeartbeats 400000 in
theorem jpfMinF_any (g : Nat) (a : Option Addr) (n cap : Nat) (l : List Nat) (w : World) (hx : l.length = n) (hg : w.cell? ⟨g, 0, none⟩ = some (.iface 53 (.slice a n cap)))
    (hs : Src w a (l.map (fun b => .iface 37 (.float .f64 b)))) (hn : n ≤ 1048576) :
    Calls Uang.prog 35 #[.slice (some ⟨g, 0, none⟩) 1 1] w fun e w' => e = .returned (.tuple #[minRes l, .nilIface]) ∧ Below w.heap.size w w' := by
  have hcase : l = [] ∨ (∃ x, l = [x]) ∨ ∃ x q, l = x :: q ∧ 2 ≤ n := by
    match l, hx with
    | [], _ => exact .inl rfl
    | [x], _ => exact .inr (.inl ⟨x, rfl⟩)
    | x :: y :: r, hx => exact .inr (.inr ⟨x, y :: r, rfl, by simp at hx; omega⟩)
  rcases hcase with rfl | ⟨x, rfl⟩ | ⟨x, q, rfl, hn2⟩
  · subst hx
    go_enter Uang.func35, Uang.ntmps35
    go_wp2_with fail
    refine (toNum_made a 0 cap [] _ rfl hs hn).mono ?_
    rintro e w1 ⟨g1, rfl, hs1, hb1⟩
    go_wp2
    go_ret2
    exact ⟨rfl, hb1⟩
  · subst hx
    go_enter Uang.func35, Uang.ntmps35
    go_wp2_with fail
    refine (toNum_made a 1 cap [x] _ rfl hs hn).mono ?_
    rintro e w1 ⟨g1, rfl, hs1, hb1⟩
    obtain ⟨b, off, u, hxe, hu, hcx⟩ := hs1.at_ (Below.refl _ _) (k := 0) (by simp)
    cases hxe
    cases hu
    go_wp2
    go_ret2
    exact ⟨rfl, hb1⟩
  · go_enter Uang.func35, Uang.ntmps35
    go_wp2_with fail
    refine (toNum_made a n cap (x :: q) _ hx hs hn).mono ?_
    rintro e w1 ⟨g1, rfl, hs1, hb1⟩
    obtain ⟨b, off, u, hxe, hu, hcx⟩ := hs1.at_ (Below.refl _ _) (k := 0) (by simp)
    cases hxe
    cases hu
    clear hs
    go_wp2
    have hql : q.length = n - 1 := by simp at hx; omega
    go_loop [6, 38] (fun s i => ∃ k : Nat, k ≤ n - 1 ∧ i = .int .i64 k ∧ s = .float .f64 (Fl.minF x (q.take k))) (fun _ i => (n - 1) - (intOf i).toNat)
    case atStart => exact ⟨0, Nat.zero_le _, rfl, rfl⟩
    case round =>
      obtain ⟨k, hk, rfl, rfl⟩ := hrel
      by_cases hlt : k < n - 1
      · obtain ⟨b, off, u, hxe, hu, hcu⟩ := hs1.at_ (Below.refl _ _) (k := k + 1) (by simp; omega)
        cases hxe
        rw [Nat.zero_add, Nat.add_comm k 1] at hcu
        have hu2 : q[k]? = some u := by simpa using hu
        have HM : Hid _ := Fl.minF_take x q k u hu2
        cases hc : Fl.ltF u (Fl.minF x (q.take k))
        · have hc2 : (FloatKind.f64.format.order u (Fl.minF x (q.take k)) == some .lt) = false := hc
          have HM2 : Hid (Fl.minF x (q.take (k + 1)) = Fl.minF x (q.take k)) := by have := HM.out; rw [hc] at this; exact this
          clear hc HM
          go_wp2
          go_round
          case rel => exact ⟨k + 1, by omega, by go_num, by rw [HM2.out]⟩
          case measure => simp [intOf]; omega
        · have hc2 : (FloatKind.f64.format.order u (Fl.minF x (q.take k)) == some .lt) = true := hc
          have HM2 : Hid (Fl.minF x (q.take (k + 1)) = u) := by have := HM.out; rw [hc] at this; exact this
          clear hc HM
          go_wp2
          go_round
          case rel => exact ⟨k + 1, by omega, by go_num, by rw [HM2.out]⟩
          case measure => simp [intOf]; omega
      · have HM : Hid (q.take k = q) := List.take_of_length_le (by omega)
        go_wp2
        go_ret2
        refine ⟨?_, hb1⟩
        simp only [minRes]
        rw [HM.out]
        rfl

/-! An interface value against nil. -/
theorem nil_eq37 (b : Nat) (w : World) : (binOp .eql 20 (.iface 37 (.float .f64 b)) .nilIface).run Uang.prog w = .ok (.bool false) w := by kernel_rfl
theorem nil_eq (w : World) : (binOp .eql 20 .nilIface .nilIface).run Uang.prog w = .ok (.bool true) w := by kernel_rfl

/-- What ZZb7MinNums gives. -/
def minOut : List Nat → Value
  | [] => .tuple #[.float .f64 0, .bool true]
  | x :: r => .tuple #[.float .f64 (Fl.minF x r), .bool false]

set_option maxHeartbeats 400000 in
theorem ZZMinF_any (a : Option Addr) (n cap : Nat) (l : List Nat) (w : World) (hx : l.length = n)
    (hs : Src w a (l.map (Value.float .f64))) (hn : n ≤ 1048576) :
    Calls Uang.prog 24 #[.slice a n cap] w fun e w' => e = .returned (minOut l) ∧ Below w.heap.size w w' := by
  obtain ⟨i0, hi, hz0, hz1, hz2⟩ := info_parts Uang.info20
  have hnil := nil_eq
  have hnil37 := nil_eq37
  go_enter Uang.func24, Uang.ntmps24
  go_wp2_with (at_make; refine wpList_make_full _ rfl _ _ 53 rfl w.heap.size 20 i0 .nilIface 1 Uang.underlying53 hi hz0 hz1 .i64 .i64 _ _ n rfl rfl (by omega) (by omega) (by rw [hz2]; omega) (by unfold maxLen; omega) (Nat.le_refl _) ?_; intro w0 hown0 hgrow0)
  go_loopw [5] (fun i wr => ∃ (k : Nat) (zs : List Value), k ≤ n ∧ i = .int .i64 k ∧ wr.ownsRow w.heap.size 20 1 (.slice (some ⟨w.heap.size, 0, none⟩) n n) n zs ∧ zs.take k = (l.map (fun b => Value.iface 37 (.float .f64 b))).take k ∧ Below w.heap.size w wr) (fun i _ => n - (intOf i).toNat)
  case atStart => exact ⟨0, _, Nat.zero_le _, rfl, hown0, by simp, (Below.refl _ _).grown hgrow0 (Nat.le_refl _) (fun k hk => by cases hk)⟩
  case round =>
    obtain ⟨k, zs, hk, rfl, hown, hzs, hbel⟩ := hrel
    by_cases hlt : k < n
    · obtain ⟨b, off, u, hxe, hu, hcx⟩ := hs.at_ hbel (k := k) (by omega)
      cases hxe
      obtain ⟨z, hcy⟩ := own_at hown hlt
      have hfy : wr.frozen? ⟨w.heap.size, k, none⟩ = false := hown.frozenAt k
      have R := own_store hown hlt (v := .iface 37 (.float .f64 u)) (by rw [List.getElem?_map, hu]; rfl) hzs hbel
      clear hown hzs hbel hs
      go_wp2
      go_roundw
      case rel => exact ⟨k + 1, _, by omega, by go_num, R.1, R.2.1, R.2.2⟩
      case measure => simp [intOf]; omega
    · have hsr := own_full hown (by simpa using hx) hlt hzs
      clear hown hzs hs
      go_wp2_with fail
      refine (jpfMinF_any wr.heap.size _ n n l _ hx (one_cell wr _ _) (hsr.below (one_below wr _)) hn).mono ?_
      rintro e w2 ⟨rfl, hb2⟩
      cases l with
      | nil =>
        simp only [minRes]
        go_wp2
        go_ret2
        exact ⟨rfl, hbel.trans ((one_then hb2).mono hbel.size)⟩
      | cons x r =>
        simp only [minRes]
        go_wp2
        go_ret2
        exact ⟨rfl, hbel.trans ((one_then hb2).mono hbel.size)⟩

theorem isNaN_any (x : Nat) (w : World) : Calls Uang.prog 25 #[.float .f64 x] w fun e w' => e = .returned (.bool (Fl.nan x)) ∧ w = w' := by
  have hs : (FloatKind.f64.format.order x x != some .eq) = Fl.nan x := Fl.self_ne x
  go_enter Uang.func25, Uang.ntmps25
  go_wp2
  go_ret
  exact ⟨rfl, rfl⟩

/-- A number is the same as itself. -/
theorem same_any (x : Nat) (hx : Fl.nan x = false) (w : World) : Calls Uang.prog 26 #[.float .f64 x, .float .f64 x] w fun e w' => e = .returned (.bool true) ∧ w = w' := by
  have hs : (FloatKind.f64.format.order x x != some .eq) = false := (Fl.self_ne x).trans hx
  clear hx
  cases hz : (FloatKind.f64.format.order x 0 != some .eq)
  · obtain ⟨r, hr⟩ := Fl.one_div_zero x hz
    have hq : ∀ w, (binOp .quo 37 (.float .f64 4607182418800017408) (.float .f64 x)).run Uang.prog w = .ok (.float .f64 r) w := fun w => run_float_arith w .quo 37 .f64 _ _ _ hr
    clear hr
    go_enter Uang.func26, Uang.ntmps26
    go_wp2
    go_ret
    exact ⟨by simp, rfl⟩
  · go_enter Uang.func26, Uang.ntmps26
    go_wp2
    go_ret
    exact ⟨rfl, rfl⟩

end Go.Proofs.Youanw

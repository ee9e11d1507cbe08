/-
  THE WALKS of toArrayNum (all floats), jpfSum and ZZb7Sum.
-/
import Derived.Test.YouanwParts
import Derived.Laws.FloatArith
namespace Go.Proofs.Youanw
open Go.RowKit
attribute [local go_sem] run_store_float as53 as37 as37f

set_option maxHeartbeats 400000 in
theorem toNum_all (a : Option Addr) (n cap : Nat) (l : List Nat) (w : World) (hx : l.length = n) (hs : Src w a (l.map (fun b => .iface 37 (.float .f64 b)))) (hn : n ≤ 1048576) :
    Calls Uang.prog 36 #[.iface 53 (.slice a n cap)] w fun e w' => ∃ a' cap', e = .returned (.tuple #[.slice a' n cap', .bool true]) ∧ Src w' a' (l.map (Value.float .f64)) ∧ Below w.heap.size w w' := by
  obtain ⟨i0, hi, hz0, hz1, hz2⟩ := info_parts Uang.info37
  go_enter Uang.func36, Uang.ntmps36
  go_wp2_with (at_make; refine wpList_make_full _ rfl _ _ 36 rfl w.heap.size 37 i0 (.float .f64 0) 1 Uang.underlying36 hi hz0 hz1 .i64 .i64 _ _ n rfl rfl (by omega) (by omega) (by rw [hz2]; omega) (by unfold maxLen; omega) (Nat.le_refl _) ?_; intro w0 hown0 hgrow0)
  go_loopw [22] (fun i wr => ∃ (k : Nat) (zs : List Value), k ≤ n ∧ i = .int .i64 k ∧ wr.ownsRow w.heap.size 37 1 (.slice (some ⟨w.heap.size, 0, none⟩) n n) n zs ∧ zs.take k = (l.map (Value.float .f64)).take k ∧ Below w.heap.size w wr) (fun i _ => n - (intOf i).toNat)
  case atStart => exact ⟨0, _, Nat.zero_le _, rfl, hown0, by simp, (Below.refl _ _).grown hgrow0 (Nat.le_refl _) (fun k hk => by cases hk)⟩
  case round =>
    obtain ⟨k, zs, hk, rfl, hown, hzs, hbel⟩ := hrel
    by_cases hlt : k < n
    · obtain ⟨b, off, u, hxe, hu, hcx⟩ := hs.at_ hbel (k := k) (by omega)
      cases hxe
      obtain ⟨z, hcy⟩ := own_at hown hlt
      have hfy : wr.frozen? ⟨w.heap.size, k, none⟩ = false := hown.frozenAt k
      have R := own_store hown hlt (v := .float .f64 u) (by rw [List.getElem?_map, hu]; rfl) hzs hbel
      clear hown hzs hbel hs
      go_wp2
      go_roundw
      case rel => exact ⟨k + 1, _, by omega, by go_num, R.1, R.2.1, R.2.2⟩
      case measure => simp [intOf]; omega
    · go_wp2
      go_ret2
      exact ⟨_, _, rfl, own_full hown (by simpa using hx) hlt hzs, hbel⟩

/-- 'acc' is the run of the sums. -/
def Runs (acc : Nat → Nat) (l : List Nat) : Prop := acc 0 = 0 ∧ ∀ k u, l[k]? = some u → Ieee.double.add (acc k) u = some (acc (k + 1))

set_option maxHeartbeats 400000 in
theorem jpfSum_any (g : Nat) (a : Option Addr) (n cap : Nat) (l : List Nat) (w : World) (acc : Nat → Nat) (hacc : Runs acc l) (hx : l.length = n) (hg : w.cell? ⟨g, 0, none⟩ = some (.iface 53 (.slice a n cap)))
    (hs : Src w a (l.map (fun b => .iface 37 (.float .f64 b)))) (hn : n ≤ 1048576) :
    Calls Uang.prog 34 #[.slice (some ⟨g, 0, none⟩) 1 1] w fun e w' => e = .returned (.tuple #[.iface 37 (.float .f64 (acc n)), .nilIface]) ∧ Below w.heap.size w w' := by
  go_enter Uang.func34, Uang.ntmps34
  go_wp2_with fail
  refine (toNum_all a n cap l _ hx hs hn).mono ?_
  rintro e w1 ⟨a', cap', rfl, hs1, hb1⟩
  have h0 : acc 0 = 0 := hacc.1
  go_wp2
  go_loop [6, 18] (fun s i => ∃ k : Nat, k ≤ n ∧ i = .int .i64 k ∧ s = .float .f64 (acc k)) (fun _ i => n - (intOf i).toNat)
  case atStart => exact ⟨0, Nat.zero_le _, rfl, by rw [h0]⟩
  case round =>
    obtain ⟨k, hk, rfl, rfl⟩ := hrel
    by_cases hlt : k < n
    · obtain ⟨b, off, u, hxe, hu, hcx⟩ := hs1.at_ (Below.refl _ _) (k := k) (by omega)
      cases hxe
      have hr : ∀ w, (binOp .add 37 (.float .f64 (acc k)) (.float .f64 u)).run Uang.prog w = .ok (.float .f64 (acc (k + 1))) w := fun w => run_float_arith w .add 37 .f64 _ _ _ (hacc.2 k u hu)
      clear h0
      go_wp2
      go_round
      case rel => exact ⟨k + 1, by omega, by go_num, rfl⟩
      case measure => simp [intOf]; omega
    · have : k = n := by omega
      subst this
      go_wp2
      go_ret2
      exact ⟨rfl, hb1⟩

set_option maxHeartbeats 400000 in
theorem ZZSum_any (a : Option Addr) (n cap : Nat) (l : List Nat) (w : World) (acc : Nat → Nat) (hacc : Runs acc l) (hx : l.length = n)
    (hs : Src w a (l.map (Value.float .f64))) (hn : n ≤ 1048576) :
    Calls Uang.prog 20 #[.slice a n cap] w fun e w' => e = .returned (.float .f64 (acc n)) ∧ Below w.heap.size w w' := by
  obtain ⟨i0, hi, hz0, hz1, hz2⟩ := info_parts Uang.info20
  go_enter Uang.func20, Uang.ntmps20
  go_wp2_with (at_make; refine wpList_make_full _ rfl _ _ 53 rfl w.heap.size 20 i0 .nilIface 1 Uang.underlying53 hi hz0 hz1 .i64 .i64 _ _ n rfl rfl (by omega) (by omega) (by rw [hz2]; omega) (by unfold maxLen; omega) (Nat.le_refl _) ?_; intro w0 hown0 hgrow0)
  go_loopw [4] (fun i wr => ∃ (k : Nat) (zs : List Value), k ≤ n ∧ i = .int .i64 k ∧ wr.ownsRow w.heap.size 20 1 (.slice (some ⟨w.heap.size, 0, none⟩) n n) n zs ∧ zs.take k = (l.map (fun b => Value.iface 37 (.float .f64 b))).take k ∧ Below w.heap.size w wr) (fun i _ => n - (intOf i).toNat)
  case atStart => exact ⟨0, _, Nat.zero_le _, rfl, hown0, by simp, (Below.refl _ _).grown hgrow0 (Nat.le_refl _) (fun k hk => by cases hk)⟩
  case round =>
    obtain ⟨k, zs, hk, rfl, hown, hzs, hbel⟩ := hrel
    by_cases hlt : k < n
    · obtain ⟨b, off, u, hxe, hu, hcx⟩ := hs.at_ hbel (k := k) (by omega)
      cases hxe
      obtain ⟨z, hcy⟩ := own_at hown hlt
      have hfy : wr.frozen? ⟨w.heap.size, k, none⟩ = false := hown.frozenAt k
      have R := own_store hown hlt (v := .iface 37 (.float .f64 u)) (by rw [List.getElem?_map, hu]; rfl) hzs hbel
      clear hown hzs hbel hs
      go_wp2
      go_roundw
      case rel => exact ⟨k + 1, _, by omega, by go_num, R.1, R.2.1, R.2.2⟩
      case measure => simp [intOf]; omega
    · have hsr := own_full hown (by simpa using hx) hlt hzs
      clear hown hzs hs
      go_wp2_with fail
      refine (jpfSum_any wr.heap.size _ n n l _ acc hacc hx (one_cell wr _ _) (hsr.below (one_below wr _)) hn).mono ?_
      rintro e w2 ⟨rfl, hb2⟩
      go_wp2
      go_ret
      exact ⟨rfl, hbel.trans ((one_then hb2).mono hbel.size)⟩
end Go.Proofs.Youanw

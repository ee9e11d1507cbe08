/-
  THE WALKS OF THE THREE COPYING FUNCTIONS.
-/
import Derived.Test.YouanwParts
namespace Go.Proofs.Youanw
open Go.RowKit
attribute [local go_sem] run_store_float

set_option maxHeartbeats 400000 in
theorem cloneI_some (x : Addr) (n cap : Nat) (l : List Int) (w : World) (hx : l.length = n) (hs : Src w (some x) (l.map (Value.int .i64))) (hn : n ≤ 1048576) :
    Calls Uang.prog 19 #[.slice (some x) n cap] w fun e w' => ∃ a' cap', e = .returned (.slice a' n cap') ∧ Src w' a' (l.map (Value.int .i64)) ∧ Below w.heap.size w w' := by
  have hnil : ∀ (w : World) (a : Option Addr) (n c n' c' : Nat), (binOp .eql 30 (.slice a n c) (.slice none n' c')).run Uang.prog w = .ok (.bool a.isNone) w := fun w a n c n' c' => Lib.run_eql_slice_nil w _ _ a n c n' c' Uang.underlying30
  obtain ⟨i0, hi, hz0, hz1, hz2⟩ := info_parts Uang.info2
  go_enter Uang.func19, Uang.ntmps19
  go_wp2_with (at_make; refine wpList_make_full _ rfl _ _ 30 rfl w.heap.size 2 i0 (.int .i64 0) 1 Uang.underlying30 hi hz0 hz1 .i64 .i64 _ _ n rfl rfl (by omega) (by omega) (by rw [hz2]; omega) (by unfold maxLen; omega) (Nat.le_refl _) ?_; intro w0 hown0 hgrow0)
  go_loopw [4] (fun i wr => ∃ (k : Nat) (zs : List Value), k ≤ n ∧ i = .int .i64 k ∧ wr.ownsRow w.heap.size 2 1 (.slice (some ⟨w.heap.size, 0, none⟩) n n) n zs ∧ zs.take k = (l.map (Value.int .i64)).take k ∧ Below w.heap.size w wr) (fun i _ => n - (intOf i).toNat)
  case atStart => exact ⟨0, _, Nat.zero_le _, rfl, hown0, by simp, (Below.refl _ _).grown hgrow0 (Nat.le_refl _) (fun k hk => by cases hk)⟩
  case round =>
    obtain ⟨k, zs, hk, rfl, hown, hzs, hbel⟩ := hrel
    by_cases hlt : k < n
    · obtain ⟨b, off, u, hxe, hu, hcx⟩ := hs.at_ hbel (k := k) (by omega)
      cases hxe
      obtain ⟨z, hcy⟩ := own_at hown hlt
      have hfy : wr.frozen? ⟨w.heap.size, k, none⟩ = false := hown.frozenAt k
      have R := own_store hown hlt (v := (Value.int .i64) u) (by rw [List.getElem?_map, hu]; rfl) hzs hbel
      clear hown hzs hbel hs
      go_wp2
      go_roundw
      case rel => exact ⟨k + 1, _, by omega, by go_num, R.1, R.2.1, R.2.2⟩
      case measure => simp [intOf]; omega
    · go_wp2
      go_ret
      exact ⟨_, _, rfl, own_full hown (by simpa using hx) hlt hzs, hbel⟩

theorem cloneI_nil (w : World) : Calls Uang.prog 19 #[.slice none 0 0] w fun e w' => e = .returned (.slice none 0 0) ∧ w' = w := by
  have hnil : ∀ (w : World) (a : Option Addr) (n c n' c' : Nat), (binOp .eql 30 (.slice a n c) (.slice none n' c')).run Uang.prog w = .ok (.bool a.isNone) w := fun w a n c n' c' => Lib.run_eql_slice_nil w _ _ a n c n' c' Uang.underlying30
  go_enter Uang.func19, Uang.ntmps19
  go_wp2
  go_ret
  exact ⟨rfl, rfl⟩

/-- A copy that reads as the slice did. -/
theorem cloneI_any (a : Option Addr) (n cap : Nat) (l : List Int) (w : World) (ha : a = none → n = 0 ∧ cap = 0) (hx : l.length = n) (hs : Src w a (l.map (Value.int .i64))) (hn : n ≤ 1048576) :
    Calls Uang.prog 19 #[.slice a n cap] w fun e w' => ∃ a' cap', e = .returned (.slice a' n cap') ∧ Src w' a' (l.map (Value.int .i64)) ∧ Below w.heap.size w w' := by
  cases a with
  | some x => exact cloneI_some x n cap l w hx hs hn
  | none =>
    obtain ⟨rfl, rfl⟩ := ha rfl
    refine (cloneI_nil w).mono ?_
    rintro e w' ⟨rfl, rfl⟩
    exact ⟨none, 0, rfl, hs, Below.refl _ _⟩

set_option maxHeartbeats 400000 in
theorem cloneF_some (x : Addr) (n cap : Nat) (l : List Nat) (w : World) (hx : l.length = n) (hs : Src w (some x) (l.map (Value.float .f64))) (hn : n ≤ 1048576) :
    Calls Uang.prog 22 #[.slice (some x) n cap] w fun e w' => ∃ a' cap', e = .returned (.slice a' n cap') ∧ Src w' a' (l.map (Value.float .f64)) ∧ Below w.heap.size w w' := by
  have hnil : ∀ (w : World) (a : Option Addr) (n c n' c' : Nat), (binOp .eql 36 (.slice a n c) (.slice none n' c')).run Uang.prog w = .ok (.bool a.isNone) w := fun w a n c n' c' => Lib.run_eql_slice_nil w _ _ a n c n' c' Uang.underlying36
  obtain ⟨i0, hi, hz0, hz1, hz2⟩ := info_parts Uang.info37
  go_enter Uang.func22, Uang.ntmps22
  go_wp2_with (at_make; refine wpList_make_full _ rfl _ _ 36 rfl w.heap.size 37 i0 (.float .f64 0) 1 Uang.underlying36 hi hz0 hz1 .i64 .i64 _ _ n rfl rfl (by omega) (by omega) (by rw [hz2]; omega) (by unfold maxLen; omega) (Nat.le_refl _) ?_; intro w0 hown0 hgrow0)
  go_loopw [4] (fun i wr => ∃ (k : Nat) (zs : List Value), k ≤ n ∧ i = .int .i64 k ∧ wr.ownsRow w.heap.size 37 1 (.slice (some ⟨w.heap.size, 0, none⟩) n n) n zs ∧ zs.take k = (l.map (Value.float .f64)).take k ∧ Below w.heap.size w wr) (fun i _ => n - (intOf i).toNat)
  case atStart => exact ⟨0, _, Nat.zero_le _, rfl, hown0, by simp, (Below.refl _ _).grown hgrow0 (Nat.le_refl _) (fun k hk => by cases hk)⟩
  case round =>
    obtain ⟨k, zs, hk, rfl, hown, hzs, hbel⟩ := hrel
    by_cases hlt : k < n
    · obtain ⟨b, off, u, hxe, hu, hcx⟩ := hs.at_ hbel (k := k) (by omega)
      cases hxe
      obtain ⟨z, hcy⟩ := own_at hown hlt
      have hfy : wr.frozen? ⟨w.heap.size, k, none⟩ = false := hown.frozenAt k
      have R := own_store hown hlt (v := (Value.float .f64) u) (by rw [List.getElem?_map, hu]; rfl) hzs hbel
      clear hown hzs hbel hs
      go_wp2
      go_roundw
      case rel => exact ⟨k + 1, _, by omega, by go_num, R.1, R.2.1, R.2.2⟩
      case measure => simp [intOf]; omega
    · go_wp2
      go_ret
      exact ⟨_, _, rfl, own_full hown (by simpa using hx) hlt hzs, hbel⟩

theorem cloneF_nil (w : World) : Calls Uang.prog 22 #[.slice none 0 0] w fun e w' => e = .returned (.slice none 0 0) ∧ w' = w := by
  have hnil : ∀ (w : World) (a : Option Addr) (n c n' c' : Nat), (binOp .eql 36 (.slice a n c) (.slice none n' c')).run Uang.prog w = .ok (.bool a.isNone) w := fun w a n c n' c' => Lib.run_eql_slice_nil w _ _ a n c n' c' Uang.underlying36
  go_enter Uang.func22, Uang.ntmps22
  go_wp2
  go_ret
  exact ⟨rfl, rfl⟩

/-- A copy that reads as the slice did. -/
theorem cloneF_any (a : Option Addr) (n cap : Nat) (l : List Nat) (w : World) (ha : a = none → n = 0 ∧ cap = 0) (hx : l.length = n) (hs : Src w a (l.map (Value.float .f64))) (hn : n ≤ 1048576) :
    Calls Uang.prog 22 #[.slice a n cap] w fun e w' => ∃ a' cap', e = .returned (.slice a' n cap') ∧ Src w' a' (l.map (Value.float .f64)) ∧ Below w.heap.size w w' := by
  cases a with
  | some x => exact cloneF_some x n cap l w hx hs hn
  | none =>
    obtain ⟨rfl, rfl⟩ := ha rfl
    refine (cloneF_nil w).mono ?_
    rintro e w' ⟨rfl, rfl⟩
    exact ⟨none, 0, rfl, hs, Below.refl _ _⟩

set_option maxHeartbeats 400000 in
theorem cloneS_some (x : Addr) (n cap : Nat) (l : List ByteArray) (w : World) (hx : l.length = n) (hs : Src w (some x) (l.map (Value.string))) (hn : n ≤ 1048576) :
    Calls Uang.prog 29 #[.slice (some x) n cap] w fun e w' => ∃ a' cap', e = .returned (.slice a' n cap') ∧ Src w' a' (l.map (Value.string)) ∧ Below w.heap.size w w' := by
  have hnil : ∀ (w : World) (a : Option Addr) (n c n' c' : Nat), (binOp .eql 29 (.slice a n c) (.slice none n' c')).run Uang.prog w = .ok (.bool a.isNone) w := fun w a n c n' c' => Lib.run_eql_slice_nil w _ _ a n c n' c' Uang.underlying29
  obtain ⟨i0, hi, hz0, hz1, hz2⟩ := info_parts Uang.info9
  go_enter Uang.func29, Uang.ntmps29
  go_wp2_with (at_make; refine wpList_make_full _ rfl _ _ 29 rfl w.heap.size 9 i0 (.string ByteArray.empty) 1 Uang.underlying29 hi hz0 hz1 .i64 .i64 _ _ n rfl rfl (by omega) (by omega) (by rw [hz2]; omega) (by unfold maxLen; omega) (Nat.le_refl _) ?_; intro w0 hown0 hgrow0)
  go_loopw [4] (fun i wr => ∃ (k : Nat) (zs : List Value), k ≤ n ∧ i = .int .i64 k ∧ wr.ownsRow w.heap.size 9 1 (.slice (some ⟨w.heap.size, 0, none⟩) n n) n zs ∧ zs.take k = (l.map (Value.string)).take k ∧ Below w.heap.size w wr) (fun i _ => n - (intOf i).toNat)
  case atStart => exact ⟨0, _, Nat.zero_le _, rfl, hown0, by simp, (Below.refl _ _).grown hgrow0 (Nat.le_refl _) (fun k hk => by cases hk)⟩
  case round =>
    obtain ⟨k, zs, hk, rfl, hown, hzs, hbel⟩ := hrel
    by_cases hlt : k < n
    · obtain ⟨b, off, u, hxe, hu, hcx⟩ := hs.at_ hbel (k := k) (by omega)
      cases hxe
      obtain ⟨z, hcy⟩ := own_at hown hlt
      have hfy : wr.frozen? ⟨w.heap.size, k, none⟩ = false := hown.frozenAt k
      have R := own_store hown hlt (v := (Value.string) u) (by rw [List.getElem?_map, hu]; rfl) hzs hbel
      clear hown hzs hbel hs
      go_wp2
      go_roundw
      case rel => exact ⟨k + 1, _, by omega, by go_num, R.1, R.2.1, R.2.2⟩
      case measure => simp [intOf]; omega
    · go_wp2
      go_ret
      exact ⟨_, _, rfl, own_full hown (by simpa using hx) hlt hzs, hbel⟩

theorem cloneS_nil (w : World) : Calls Uang.prog 29 #[.slice none 0 0] w fun e w' => e = .returned (.slice none 0 0) ∧ w' = w := by
  have hnil : ∀ (w : World) (a : Option Addr) (n c n' c' : Nat), (binOp .eql 29 (.slice a n c) (.slice none n' c')).run Uang.prog w = .ok (.bool a.isNone) w := fun w a n c n' c' => Lib.run_eql_slice_nil w _ _ a n c n' c' Uang.underlying29
  go_enter Uang.func29, Uang.ntmps29
  go_wp2
  go_ret
  exact ⟨rfl, rfl⟩

/-- A copy that reads as the slice did. -/
theorem cloneS_any (a : Option Addr) (n cap : Nat) (l : List ByteArray) (w : World) (ha : a = none → n = 0 ∧ cap = 0) (hx : l.length = n) (hs : Src w a (l.map (Value.string))) (hn : n ≤ 1048576) :
    Calls Uang.prog 29 #[.slice a n cap] w fun e w' => ∃ a' cap', e = .returned (.slice a' n cap') ∧ Src w' a' (l.map (Value.string)) ∧ Below w.heap.size w w' := by
  cases a with
  | some x => exact cloneS_some x n cap l w hx hs hn
  | none =>
    obtain ⟨rfl, rfl⟩ := ha rfl
    refine (cloneS_nil w).mono ?_
    rintro e w' ⟨rfl, rfl⟩
    exact ⟨none, 0, rfl, hs, Below.refl _ _⟩

end Go.Proofs.Youanw

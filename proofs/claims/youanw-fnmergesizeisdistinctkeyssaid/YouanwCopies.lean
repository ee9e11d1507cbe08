/-
  THE WALKS OF THE TWO FUNCTIONS THAT COPY A SLICE OF SLICES.
-/
import Derived.Test.YouanwGrid
namespace Go.Proofs.Youanw
open Go.RowKit

theorem Uang.info29 : (Uang.prog.info? 29).map (fun i => (i.zero, i.size, i.bytes)) = some (some (.slice none 0 0), 1, 24) := by kernel_rfl
theorem Uang.info30 : (Uang.prog.info? 30).map (fun i => (i.zero, i.size, i.bytes)) = some (some (.slice none 0 0), 1, 24) := by kernel_rfl

/-- What is owned stays owned while only newer blocks turn. -/
theorem own_below {w w' : World} {base e : Nat} {g n cap : Nat} {xs : List Value} (h : w.ownsRow base e 1 (.slice (some ⟨g, 0, none⟩) n cap) n xs) (hb : Below w.heap.size w w') (hg : g < w.heap.size) :
    w'.ownsRow base e 1 (.slice (some ⟨g, 0, none⟩) n cap) n xs := by
  refine ⟨h.1, ?_⟩
  rcases h.2 with ⟨h', _⟩ | ⟨g', cap', cur, h', r1, hh, r2⟩
  · cases h'
  · cases h'
    exact .inr ⟨g, cap, cur, rfl, r1, (hb.block g hg).trans hh, r2⟩

/-- A store elsewhere. -/
theorem Src.setCell {w : World} {a : Option Addr} {xs : List Value} (h : Src w a xs) {B k : Nat} (hB : ∀ x, a = some x → B < x.block) (v : Value) : Src (w.setCell ⟨B, k, none⟩ v) a xs := by
  intro hne
  obtain ⟨b, off, ha, hlt, hc⟩ := h hne
  have hbB : B < b := hB _ ha
  refine ⟨b, off, ha, by simpa [World.setCell] using hlt, fun j hj => ?_⟩
  rw [World.cell?_of_block (w := w) (a := ⟨b, off + j, none⟩) (Below.heap_setCell w ⟨B, k, none⟩ v b (by show b ≠ B; omega))]
  exact hc j hj

/-- The first k rows have been copied: 'zs' is what lies at block B, 'rs' the new rows. -/
structure Copied {α : Type} (f : α → Value) (B : Nat) (w : World) (ks : List (Row α)) (k : Nat) (zs : List Value) (rs : List (Row α)) : Prop where
  vals : zs.take k = rs.map Row.val
  same : rs.map (·.l) = (ks.take k).map (·.l)
  len : rs.length = k
  ok : ∀ r ∈ rs, r.Ok f w
  far : ∀ r ∈ rs, ∀ x, r.a = some x → B < x.block

theorem Copied.start {α : Type} (f : α → Value) (B : Nat) (w : World) (ks : List (Row α)) (zs : List Value) : Copied f B w ks 0 zs [] :=
  ⟨by simp, by simp, rfl, by simp, by simp⟩

theorem Copied.below {α : Type} {f : α → Value} {B : Nat} {w w' : World} {ks : List (Row α)} {k : Nat} {zs : List Value} {rs : List (Row α)} (h : Copied f B w ks k zs rs) (hb : Below w.heap.size w w') : Copied f B w' ks k zs rs :=
  ⟨h.vals, h.same, h.len, fun r hr => ⟨(h.ok r hr).1.below hb, (h.ok r hr).2⟩, h.far⟩

theorem Copied.store {α : Type} {f : α → Value} {B : Nat} {w : World} {ks : List (Row α)} {k : Nat} {zs : List Value} {rs : List (Row α)} (h : Copied f B w ks k zs rs) {r r0 : Row α} (hr : ks[k]? = some r0) (hl : r.l = r0.l)
    {e n cap : Nat} (_ : (w.setCell ⟨B, k, none⟩ r.val).ownsRow B e 1 (.slice (some ⟨B, 0, none⟩) n cap) n (zs.set k r.val)) (hz : zs.length = n * 1) (hk : k < n) (hs : Src w r.a (r.l.map f)) (hnil : r.a = none → r.l.length = 0 ∧ r.cap = 0) (hfar : ∀ x, r.a = some x → B < x.block) :
    Copied f B (w.setCell ⟨B, k, none⟩ r.val) ks (k + 1) (zs.set k r.val) (rs ++ [r]) := by
  refine ⟨?_, ?_, by simp [h.len], fun q hq => ?_, fun q hq => ?_⟩
  · rw [List.take_succ_eq_append_getElem (by simp; omega), List.getElem_set_self, List.take_set_of_le (Nat.le_refl _), h.vals]; simp
  · have hk' := (List.getElem?_eq_some_iff.1 hr).1
    have e := (List.getElem?_eq_some_iff.1 hr).2
    rw [List.take_succ_eq_append_getElem hk', e, List.map_append, List.map_append, h.same]; simp [hl]
  · rcases List.mem_append.1 hq with hq | hq
    · exact ⟨(h.ok q hq).1.setCell (h.far q hq) _, (h.ok q hq).2⟩
    · simp at hq; subst hq; exact ⟨hs.setCell hfar _, hnil⟩
  · rcases List.mem_append.1 hq with hq | hq
    · exact h.far q hq
    · simp at hq; subst hq; exact hfar

theorem Copied.grid {α : Type} {f : α → Value} {B : Nat} {w : World} {ks : List (Row α)} {k : Nat} {zs : List Value} {rs : List (Row α)} (h : Copied f B w ks k zs rs) {e n cap : Nat}
    (hown : w.ownsRow B e 1 (.slice (some ⟨B, 0, none⟩) n cap) n zs) (hk : k ≤ n) (hlt : ¬ k < n) : Grid f w (some ⟨B, 0, none⟩) rs := by
  have hl := hown.1
  have hv := h.vals
  rw [List.take_of_length_le (by omega)] at hv
  rw [hv] at hown
  exact ⟨Src.own hown, h.ok⟩

theorem Copied.lists {α : Type} {f : α → Value} {B : Nat} {w : World} {ks : List (Row α)} {k : Nat} {zs : List Value} {rs : List (Row α)} (h : Copied f B w ks k zs rs) (hk : ks.length ≤ k) : rs.map (·.l) = ks.map (·.l) := by
  rw [h.same, List.take_of_length_le hk]

set_option maxHeartbeats 400000 in
theorem cloneI_new (a : Option Addr) (n cap : Nat) (l : List Int) (w : World) (ha : a = none → n = 0 ∧ cap = 0) (hx : l.length = n) (hs : Src w a (l.map (Value.int .i64))) (hn : n ≤ 1048576) :
    Calls Uang.prog 19 #[.slice a n cap] w fun e w' => ∃ a' cap', e = .returned (.slice a' n cap') ∧ Src w' a' (l.map (Value.int .i64)) ∧ (∀ x, a' = some x → w.heap.size ≤ x.block) ∧ (a' = none → n = 0 ∧ cap' = 0) ∧ Below w.heap.size w w' := by
  cases a with
  | none =>
    obtain ⟨rfl, rfl⟩ := ha rfl
    refine (cloneI_nil w).mono ?_
    rintro e w' ⟨rfl, rfl⟩
    exact ⟨none, 0, rfl, hs, fun x hx => absurd hx (by simp), fun _ => ⟨rfl, rfl⟩, Below.refl _ _⟩
  | some x =>
  have hnil : ∀ (w : World) (a : Option Addr) (n c n' c' : Nat), (binOp .eql 30 (.slice a n c) (.slice none n' c')).run Uang.prog w = .ok (.bool a.isNone) w := fun w a n c n' c' => Lib.run_eql_slice_nil w _ _ a n c n' c' Uang.underlying30
  obtain ⟨i0, hi, hz0, hz1, hz2⟩ := info_parts Uang.info2
  go_enter Uang.func19, Uang.ntmps19
  go_wp2_with (at_make; refine wpList_make_full _ rfl _ _ 30 rfl w.heap.size 2 i0 (.int .i64 0) 1 Uang.underlying30 hi hz0 hz1 .i64 .i64 _ _ n rfl rfl (by omega) (by omega) (by rw [hz2]; omega) (by unfold maxLen; omega) (Nat.le_refl _) ?_; intro w0 hown0 hgrow0)
  go_loopw [4] (fun i wr => ∃ (k : Nat) (zs : List Value), k ≤ n ∧ i = .int .i64 k ∧ wr.ownsRow w.heap.size 2 1 (.slice (some ⟨w.heap.size, 0, none⟩) n n) n zs ∧ zs.take k = (l.map (Value.int .i64)).take k ∧ Below w.heap.size w wr) (fun i _ => n - (intOf i).toNat)
  case atStart => exact ⟨0, _, Nat.zero_le _, rfl, hown0, by simp, (Below.refl _ _).grown hgrow0 (Nat.le_refl _) (fun k hk => by cases hk)⟩
  case round =>
    obtain ⟨k, zs, hk, rfl, hown, hzs, hbel⟩ := hrel
    by_cases hlt : k < n
    · obtain ⟨b, off, u, hxe, hu, hcx⟩ := hs.at_ hbel (k := k) (by omega)
      cases hxe
      obtain ⟨z, hcy⟩ := own_at hown hlt
      have hfy : wr.frozen? ⟨w.heap.size, k, none⟩ = false := hown.frozenAt k
      have R := own_store hown hlt (v := (Value.int .i64) u) (by rw [List.getElem?_map, hu]; rfl) hzs hbel
      clear hown hzs hbel hs
      go_wp2
      go_roundw
      case rel => exact ⟨k + 1, _, by omega, by go_num, R.1, R.2.1, R.2.2⟩
      case measure => simp [intOf]; omega
    · go_wp2
      go_ret
      exact ⟨_, _, rfl, own_full hown (by simpa using hx) hlt hzs, fun x hx => (by cases hx; exact Nat.le_refl _), fun h => absurd h (by simp), hbel⟩

set_option maxHeartbeats 400000 in
theorem cloneRowsI_some (x : Addr) (n cap : Nat) (ks : List (Row Int)) (w : World) (hx : ks.length = n) (hg : Grid (Value.int .i64) w (some x) ks) (hn : n ≤ 4096) (hb : ∀ r ∈ ks, r.l.length ≤ 1048576) :
    Calls Uang.prog 14 #[.slice (some x) n cap] w fun e w' => ∃ a' cap' ks', e = .returned (.slice a' n cap') ∧ Grid (Value.int .i64) w' a' ks' ∧ ks'.map (·.l) = ks.map (·.l) ∧ Below w.heap.size w w' := by
  have hnil : ∀ (w : World) (a : Option Addr) (n c n' c' : Nat), (binOp .eql 23 (.slice a n c) (.slice none n' c')).run Uang.prog w = .ok (.bool a.isNone) w := fun w a n c n' c' => Lib.run_eql_slice_nil w _ _ a n c n' c' Uang.underlying23
  obtain ⟨i0, hi, hz0, hz1, hz2⟩ := info_parts Uang.info30
  go_enter Uang.func14, Uang.ntmps14
  go_wp2_with (at_make; refine wpList_make_full _ rfl _ _ 23 rfl w.heap.size 30 i0 (.slice none 0 0) 1 Uang.underlying23 hi hz0 hz1 .i64 .i64 _ _ n rfl rfl (by omega) (by omega) (by rw [hz2]; omega) (by unfold maxLen; omega) (Nat.le_refl _) ?_; intro w0 hown0 hgrow0)
  go_loopw [4] (fun i wr => ∃ (k : Nat) (zs : List Value) (rs : List (Row Int)), k ≤ n ∧ i = .int .i64 k ∧ wr.ownsRow w.heap.size 30 1 (.slice (some ⟨w.heap.size, 0, none⟩) n n) n zs ∧ Copied (Value.int .i64) w.heap.size wr ks k zs rs ∧ Below w.heap.size w wr) (fun i _ => n - (intOf i).toNat)
  case atStart => exact ⟨0, _, [], Nat.zero_le _, rfl, hown0, Copied.start _ _ _ _ _, (Below.refl _ _).grown hgrow0 (Nat.le_refl _) (fun k hk => by cases hk)⟩
  case round =>
    obtain ⟨k, zs, rs, hk, rfl, hown, hcop, hbel⟩ := hrel
    by_cases hlt : k < n
    · obtain ⟨b, off, ra, rc, rl, hxe, hr, hcx, hsr, hrn, _⟩ := hg.row hbel (k := k) (by omega)
      cases hxe
      have hrl : rl.length ≤ 1048576 := hb _ (List.mem_of_getElem? hr)
      go_wp2_with fail
      refine (cloneI_new ra rl.length rc rl _ hrn rfl (hsr.below hbel) hrl).mono ?_
      rintro e w1 ⟨a1, c1, rfl, hs1, hloc1, hnil1, hb1⟩
      have hBlt : w.heap.size < wr.heap.size := (hown.lt _ rfl).2
      have hown1 := own_below hown hb1 hBlt
      obtain ⟨z, hcy⟩ := own_at hown1 hlt
      have hfy : w1.frozen? ⟨w.heap.size, k, none⟩ = false := hown1.frozenAt k
      have R := (hcop.below hb1).store (r := ⟨a1, c1, rl⟩) hr rfl (hown1.stored k _).1 hown1.1 hlt hs1 hnil1 (fun x hx => Nat.lt_of_lt_of_le hBlt (hloc1 x hx))
      have hbel1 : Below w.heap.size w (w1.setCell ⟨w.heap.size, k, none⟩ (.slice a1 rl.length c1)) := (Below.next hbel hb1).setCell (Nat.le_refl _) _
      have hown2 := (hown1.stored k (.slice a1 rl.length c1)).1
      clear hown hcop hbel hg hown1
      go_wp2
      go_roundw
      case rel => exact ⟨k + 1, _, _, by omega, by go_num, hown2, R, hbel1⟩
      case measure => simp [intOf]; omega
    · go_wp2
      go_ret
      exact ⟨_, _, rs, rfl, hcop.grid hown (by omega) hlt, hcop.lists (by omega), hbel⟩

theorem cloneRowsI_nil (w : World) : Calls Uang.prog 14 #[.slice none 0 0] w fun e w' => e = .returned (.slice none 0 0) ∧ w' = w := by
  have hnil : ∀ (w : World) (a : Option Addr) (n c n' c' : Nat), (binOp .eql 23 (.slice a n c) (.slice none n' c')).run Uang.prog w = .ok (.bool a.isNone) w := fun w a n c n' c' => Lib.run_eql_slice_nil w _ _ a n c n' c' Uang.underlying23
  go_enter Uang.func14, Uang.ntmps14
  go_wp2
  go_ret
  exact ⟨rfl, rfl⟩

theorem cloneRowsI_any (a : Option Addr) (n cap : Nat) (ks : List (Row Int)) (w : World) (ha : a = none → n = 0 ∧ cap = 0) (hx : ks.length = n) (hg : Grid (Value.int .i64) w a ks) (hn : n ≤ 4096) (hb : ∀ r ∈ ks, r.l.length ≤ 1048576) :
    Calls Uang.prog 14 #[.slice a n cap] w fun e w' => ∃ a' cap' ks', e = .returned (.slice a' n cap') ∧ Grid (Value.int .i64) w' a' ks' ∧ ks'.map (·.l) = ks.map (·.l) ∧ Below w.heap.size w w' := by
  cases a with
  | some x => exact cloneRowsI_some x n cap ks w hx hg hn hb
  | none =>
    obtain ⟨rfl, rfl⟩ := ha rfl
    refine (cloneRowsI_nil w).mono ?_
    rintro e w' ⟨rfl, rfl⟩
    exact ⟨none, 0, ks, rfl, hg, rfl, Below.refl _ _⟩

set_option maxHeartbeats 400000 in
theorem cloneS_new (a : Option Addr) (n cap : Nat) (l : List ByteArray) (w : World) (ha : a = none → n = 0 ∧ cap = 0) (hx : l.length = n) (hs : Src w a (l.map (Value.string))) (hn : n ≤ 1048576) :
    Calls Uang.prog 29 #[.slice a n cap] w fun e w' => ∃ a' cap', e = .returned (.slice a' n cap') ∧ Src w' a' (l.map (Value.string)) ∧ (∀ x, a' = some x → w.heap.size ≤ x.block) ∧ (a' = none → n = 0 ∧ cap' = 0) ∧ Below w.heap.size w w' := by
  cases a with
  | none =>
    obtain ⟨rfl, rfl⟩ := ha rfl
    refine (cloneS_nil w).mono ?_
    rintro e w' ⟨rfl, rfl⟩
    exact ⟨none, 0, rfl, hs, fun x hx => absurd hx (by simp), fun _ => ⟨rfl, rfl⟩, Below.refl _ _⟩
  | some x =>
  have hnil : ∀ (w : World) (a : Option Addr) (n c n' c' : Nat), (binOp .eql 29 (.slice a n c) (.slice none n' c')).run Uang.prog w = .ok (.bool a.isNone) w := fun w a n c n' c' => Lib.run_eql_slice_nil w _ _ a n c n' c' Uang.underlying29
  obtain ⟨i0, hi, hz0, hz1, hz2⟩ := info_parts Uang.info9
  go_enter Uang.func29, Uang.ntmps29
  go_wp2_with (at_make; refine wpList_make_full _ rfl _ _ 29 rfl w.heap.size 9 i0 (.string ByteArray.empty) 1 Uang.underlying29 hi hz0 hz1 .i64 .i64 _ _ n rfl rfl (by omega) (by omega) (by rw [hz2]; omega) (by unfold maxLen; omega) (Nat.le_refl _) ?_; intro w0 hown0 hgrow0)
  go_loopw [4] (fun i wr => ∃ (k : Nat) (zs : List Value), k ≤ n ∧ i = .int .i64 k ∧ wr.ownsRow w.heap.size 9 1 (.slice (some ⟨w.heap.size, 0, none⟩) n n) n zs ∧ zs.take k = (l.map (Value.string)).take k ∧ Below w.heap.size w wr) (fun i _ => n - (intOf i).toNat)
  case atStart => exact ⟨0, _, Nat.zero_le _, rfl, hown0, by simp, (Below.refl _ _).grown hgrow0 (Nat.le_refl _) (fun k hk => by cases hk)⟩
  case round =>
    obtain ⟨k, zs, hk, rfl, hown, hzs, hbel⟩ := hrel
    by_cases hlt : k < n
    · obtain ⟨b, off, u, hxe, hu, hcx⟩ := hs.at_ hbel (k := k) (by omega)
      cases hxe
      obtain ⟨z, hcy⟩ := own_at hown hlt
      have hfy : wr.frozen? ⟨w.heap.size, k, none⟩ = false := hown.frozenAt k
      have R := own_store hown hlt (v := (Value.string) u) (by rw [List.getElem?_map, hu]; rfl) hzs hbel
      clear hown hzs hbel hs
      go_wp2
      go_roundw
      case rel => exact ⟨k + 1, _, by omega, by go_num, R.1, R.2.1, R.2.2⟩
      case measure => simp [intOf]; omega
    · go_wp2
      go_ret
      exact ⟨_, _, rfl, own_full hown (by simpa using hx) hlt hzs, fun x hx => (by cases hx; exact Nat.le_refl _), fun h => absurd h (by simp), hbel⟩

set_option maxHeartbeats 400000 in
theorem cloneRowsS_some (x : Addr) (n cap : Nat) (ks : List (Row ByteArray)) (w : World) (hx : ks.length = n) (hg : Grid (Value.string) w (some x) ks) (hn : n ≤ 4096) (hb : ∀ r ∈ ks, r.l.length ≤ 1048576) :
    Calls Uang.prog 13 #[.slice (some x) n cap] w fun e w' => ∃ a' cap' ks', e = .returned (.slice a' n cap') ∧ Grid (Value.string) w' a' ks' ∧ ks'.map (·.l) = ks.map (·.l) ∧ Below w.heap.size w w' := by
  have hnil : ∀ (w : World) (a : Option Addr) (n c n' c' : Nat), (binOp .eql 22 (.slice a n c) (.slice none n' c')).run Uang.prog w = .ok (.bool a.isNone) w := fun w a n c n' c' => Lib.run_eql_slice_nil w _ _ a n c n' c' Uang.underlying22
  obtain ⟨i0, hi, hz0, hz1, hz2⟩ := info_parts Uang.info29
  go_enter Uang.func13, Uang.ntmps13
  go_wp2_with (at_make; refine wpList_make_full _ rfl _ _ 22 rfl w.heap.size 29 i0 (.slice none 0 0) 1 Uang.underlying22 hi hz0 hz1 .i64 .i64 _ _ n rfl rfl (by omega) (by omega) (by rw [hz2]; omega) (by unfold maxLen; omega) (Nat.le_refl _) ?_; intro w0 hown0 hgrow0)
  go_loopw [4] (fun i wr => ∃ (k : Nat) (zs : List Value) (rs : List (Row ByteArray)), k ≤ n ∧ i = .int .i64 k ∧ wr.ownsRow w.heap.size 29 1 (.slice (some ⟨w.heap.size, 0, none⟩) n n) n zs ∧ Copied (Value.string) w.heap.size wr ks k zs rs ∧ Below w.heap.size w wr) (fun i _ => n - (intOf i).toNat)
  case atStart => exact ⟨0, _, [], Nat.zero_le _, rfl, hown0, Copied.start _ _ _ _ _, (Below.refl _ _).grown hgrow0 (Nat.le_refl _) (fun k hk => by cases hk)⟩
  case round =>
    obtain ⟨k, zs, rs, hk, rfl, hown, hcop, hbel⟩ := hrel
    by_cases hlt : k < n
    · obtain ⟨b, off, ra, rc, rl, hxe, hr, hcx, hsr, hrn, _⟩ := hg.row hbel (k := k) (by omega)
      cases hxe
      have hrl : rl.length ≤ 1048576 := hb _ (List.mem_of_getElem? hr)
      go_wp2_with fail
      refine (cloneS_new ra rl.length rc rl _ hrn rfl (hsr.below hbel) hrl).mono ?_
      rintro e w1 ⟨a1, c1, rfl, hs1, hloc1, hnil1, hb1⟩
      have hBlt : w.heap.size < wr.heap.size := (hown.lt _ rfl).2
      have hown1 := own_below hown hb1 hBlt
      obtain ⟨z, hcy⟩ := own_at hown1 hlt
      have hfy : w1.frozen? ⟨w.heap.size, k, none⟩ = false := hown1.frozenAt k
      have R := (hcop.below hb1).store (r := ⟨a1, c1, rl⟩) hr rfl (hown1.stored k _).1 hown1.1 hlt hs1 hnil1 (fun x hx => Nat.lt_of_lt_of_le hBlt (hloc1 x hx))
      have hbel1 : Below w.heap.size w (w1.setCell ⟨w.heap.size, k, none⟩ (.slice a1 rl.length c1)) := (Below.next hbel hb1).setCell (Nat.le_refl _) _
      have hown2 := (hown1.stored k (.slice a1 rl.length c1)).1
      clear hown hcop hbel hg hown1
      go_wp2
      go_roundw
      case rel => exact ⟨k + 1, _, _, by omega, by go_num, hown2, R, hbel1⟩
      case measure => simp [intOf]; omega
    · go_wp2
      go_ret
      exact ⟨_, _, rs, rfl, hcop.grid hown (by omega) hlt, hcop.lists (by omega), hbel⟩

theorem cloneRowsS_nil (w : World) : Calls Uang.prog 13 #[.slice none 0 0] w fun e w' => e = .returned (.slice none 0 0) ∧ w' = w := by
  have hnil : ∀ (w : World) (a : Option Addr) (n c n' c' : Nat), (binOp .eql 22 (.slice a n c) (.slice none n' c')).run Uang.prog w = .ok (.bool a.isNone) w := fun w a n c n' c' => Lib.run_eql_slice_nil w _ _ a n c n' c' Uang.underlying22
  go_enter Uang.func13, Uang.ntmps13
  go_wp2
  go_ret
  exact ⟨rfl, rfl⟩

theorem cloneRowsS_any (a : Option Addr) (n cap : Nat) (ks : List (Row ByteArray)) (w : World) (ha : a = none → n = 0 ∧ cap = 0) (hx : ks.length = n) (hg : Grid (Value.string) w a ks) (hn : n ≤ 4096) (hb : ∀ r ∈ ks, r.l.length ≤ 1048576) :
    Calls Uang.prog 13 #[.slice a n cap] w fun e w' => ∃ a' cap' ks', e = .returned (.slice a' n cap') ∧ Grid (Value.string) w' a' ks' ∧ ks'.map (·.l) = ks.map (·.l) ∧ Below w.heap.size w w' := by
  cases a with
  | some x => exact cloneRowsS_some x n cap ks w hx hg hn hb
  | none =>
    obtain ⟨rfl, rfl⟩ := ha rfl
    refine (cloneRowsS_nil w).mono ?_
    rintro e w' ⟨rfl, rfl⟩
    exact ⟨none, 0, ks, rfl, hg, rfl, Below.refl _ _⟩

end Go.Proofs.Youanw

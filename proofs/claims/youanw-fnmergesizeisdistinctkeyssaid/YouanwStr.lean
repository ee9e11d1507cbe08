/-
  THE WALKS of zzLessStr, zzStrBytes, toArrayNum and toArrayStr over strings, jpfMin over strings, ZZb7MinStrs.
-/
import Derived.Test.YouanwParts
import Derived.Test.YouanwStrPlain
import Derived.Deep.QuietTactic
import Derived.BigQuiet
namespace Go.Proofs.Youanw
open Go.RowKit
attribute [local go_sem] as53 as9 as9f as9_37

/-- Some bool is handed back. -/
def IsBool (e : Ending) : Prop := ∃ r : Bool, e = .returned (.bool r)
theorem isBool (r : Bool) : IsBool (.returned (.bool r)) := ⟨r, rfl⟩

/-- A byte of a string, read. -/
theorem byte_at (s : ByteArray) (k : Nat) (h : k < s.size) : ∃ x : Int, x = (s[k].toNat : Int) ∧ ∀ w, (Instr.index 9 (.string s) (.int .i64 (k : Int))).run Uang.prog w = .ok (.int .u8 x) w := by
  refine ⟨_, rfl, fun w => ?_⟩
  rw [run_index_string _ _ _ _ _ Uang.underlying9, dif_pos ⟨by omega, by omega⟩]
  rfl

/-- What stands behind one byte of the comparison. -/
theorem byte_step {a b : ByteArray} {k : Nat} (h : St.Same a b k) (ha : k < a.size) (hb : k < b.size) {x y : Int} (hx : x = (a[k].toNat : Int)) (hy : y = (b[k].toNat : Int)) :
    (x = y → St.Same a b (k + 1)) ∧ (x ≠ y → St.less a b = decide (x < y)) := by
  subst hx; subst hy
  refine ⟨fun e => St.same_succ h ha hb (UInt8.toNat_inj.1 (by omega)), fun e => St.less_differ h ha hb e⟩

set_option maxHeartbeats 400000 in
theorem lessStr_any (a b : ByteArray) (w : World) (ha : a.size ≤ maxLen) (hb : b.size ≤ maxLen) :
    Calls Uang.prog 31 #[.string a, .string b] w fun e w' => e = .returned (.bool (St.less a b)) ∧ ∃ n, w' = w.drewN n := by
  unfold maxLen at ha hb
  by_cases hab : b.size < a.size
  · go_enter Uang.func31, Uang.ntmps31
    go_wp2
    go_loopw [6] (fun i wr => ∃ k nd : Nat, k ≤ b.size ∧ i = .int .i64 k ∧ wr = w.drewN nd ∧ St.Same a b k) (fun i _ => b.size - (intOf i).toNat)
    case atStart => exact ⟨0, 0, Nat.zero_le _, rfl, rfl, St.same_zero _ _⟩
    case round =>
      obtain ⟨k, nd, hk, rfl, rfl, hsame⟩ := hrel
      by_cases hlt : k < b.size
      · obtain ⟨x, hx, hix⟩ := byte_at a k (by omega)
        obtain ⟨y, hy, hiy⟩ := byte_at b k (by omega)
        have HS : Hid _ := byte_step hsame (by omega) (by omega) hx hy
        clear hx hy hsame
        by_cases hxy : x = y
        · have HS2 : Hid (St.Same a b (k + 1)) := HS.out.1 hxy
          subst hxy
          clear HS
          go_wp2
          go_quiet (fail)
          go_wp2
          go_roundw
          case rel => exact ⟨k + 1, _, by omega, by go_num, rfl, HS2.out⟩
          case measure => simp [intOf]; omega
        · have HS2 : Hid (St.less a b = decide (x < y)) := HS.out.2 hxy
          have hne : (x != y) = true := by rw [bne_iff_ne]; exact hxy
          clear HS hxy
          go_wp2
          go_quiet (fail)
          go_wp2
          go_quiet (fail)
          go_wp2
          go_ret
          exact ⟨by rw [HS2.out]; rfl, _, by rw [World.drewN_drewN, World.drewN_drewN]⟩
      · have HS2 : Hid (St.less a b = decide (a.size < b.size)) := St.less_same hsame (by omega)
        clear hsame
        go_wp2
        go_ret
        refine ⟨?_, _, rfl⟩
        rw [HS2.out]
        rw [decide_eq_false (by omega)]; rfl
  · go_enter Uang.func31, Uang.ntmps31
    go_wp2
    go_loopw [6] (fun i wr => ∃ k nd : Nat, k ≤ a.size ∧ i = .int .i64 k ∧ wr = w.drewN nd ∧ St.Same a b k) (fun i _ => a.size - (intOf i).toNat)
    case atStart => exact ⟨0, 0, Nat.zero_le _, rfl, rfl, St.same_zero _ _⟩
    case round =>
      obtain ⟨k, nd, hk, rfl, rfl, hsame⟩ := hrel
      by_cases hlt : k < a.size
      · obtain ⟨x, hx, hix⟩ := byte_at a k (by omega)
        obtain ⟨y, hy, hiy⟩ := byte_at b k (by omega)
        have HS : Hid _ := byte_step hsame (by omega) (by omega) hx hy
        clear hx hy hsame
        by_cases hxy : x = y
        · have HS2 : Hid (St.Same a b (k + 1)) := HS.out.1 hxy
          subst hxy
          clear HS
          go_wp2
          go_quiet (fail)
          go_wp2
          go_roundw
          case rel => exact ⟨k + 1, _, by omega, by go_num, rfl, HS2.out⟩
          case measure => simp [intOf]; omega
        · have HS2 : Hid (St.less a b = decide (x < y)) := HS.out.2 hxy
          have hne : (x != y) = true := by rw [bne_iff_ne]; exact hxy
          clear HS hxy
          go_wp2
          go_quiet (fail)
          go_wp2
          go_quiet (fail)
          go_wp2
          go_ret
          exact ⟨by rw [HS2.out]; rfl, _, by rw [World.drewN_drewN, World.drewN_drewN]⟩
      · have HS2 : Hid (St.less a b = decide (a.size < b.size)) := St.less_same hsame (by omega)
        clear hsame
        go_wp2
        go_ret
        refine ⟨?_, _, rfl⟩
        rw [HS2.out]
        rfl

theorem lessStr_is (a b : ByteArray) (r : Bool) (w : World) (ha : a.size ≤ maxLen) (hb : b.size ≤ maxLen) (h : St.less a b = r) :
    Calls Uang.prog 31 #[.string a, .string b] w fun e w' => e = .returned (.bool r) ∧ ∃ n, w' = w.drewN n := by
  subst h; exact lessStr_any a b w ha hb

set_option maxHeartbeats 400000 in
theorem strBytes_any (a : Option Addr) (n cap : Nat) (l : List ByteArray) (w : World) (hx : l.length = n) (hs : Src w a (l.map Value.string)) (hn : n ≤ 1048576) :
    Calls Uang.prog 28 #[.slice a n cap] w fun e w' => (∃ t : Int, e = .returned (.int .i64 t)) ∧ w = w' := by
  by_cases hbig : 1048576 < 16 * n
  · go_enter Uang.func28, Uang.ntmps28
    go_wp2
    go_ret
    exact ⟨⟨_, rfl⟩, rfl⟩
  · go_enter Uang.func28, Uang.ntmps28
    go_wp2
    go_loop [3, 4] (fun s i => ∃ (k : Nat) (t : Int), k ≤ n ∧ i = .int .i64 k ∧ s = .int .i64 t ∧ 0 ≤ t ∧ t ≤ 1048576) (fun _ i => n - (intOf i).toNat)
    case atStart => exact ⟨0, _, Nat.zero_le _, rfl, rfl, by omega, by omega⟩
    case round =>
      obtain ⟨k, t, hk, rfl, rfl, ht0, ht1⟩ := hrel
      by_cases hlt : k < n
      · obtain ⟨b, off, u, hxe, hu, hcx⟩ := hs.at_ (Below.refl _ _) (k := k) (by omega)
        cases hxe
        by_cases h1 : 1048576 < u.size
        · go_wp2
          go_ret
          exact ⟨⟨_, rfl⟩, rfl⟩
        · by_cases h2 : 1048576 < t + u.size
          · go_wp2
            go_ret
            exact ⟨⟨_, rfl⟩, rfl⟩
          · go_wp2
            go_round
            case rel => exact ⟨k + 1, t + u.size, by omega, by go_num, by go_num, by omega, by omega⟩
            case measure => simp [intOf]; omega
      · go_wp2
        go_ret
        exact ⟨⟨_, rfl⟩, rfl⟩

set_option maxHeartbeats 400000 in
theorem bytes27_any (a : Option Addr) (n cap : Nat) (l : List ByteArray) (w : World) (hx : l.length = n) (hs : Src w a (l.map Value.string)) :
    Calls Uang.prog 27 #[.slice a n cap] w fun e w' => IsBool e ∧ w = w' := by
  by_cases hbig : 1048576 < n
  · go_enter Uang.func27, Uang.ntmps27
    go_wp2
    go_ret
    exact ⟨isBool _, rfl⟩
  · go_enter Uang.func27, Uang.ntmps27
    go_wp2
    go_loop [3, 4] (fun s i => ∃ (k : Nat) (t : Int), k ≤ n ∧ i = .int .i64 k ∧ s = .int .i64 t ∧ 0 ≤ t ∧ t ≤ 1048576) (fun _ i => n - (intOf i).toNat)
    case atStart => exact ⟨0, _, Nat.zero_le _, rfl, rfl, by omega, by omega⟩
    case round =>
      obtain ⟨k, t, hk, rfl, rfl, ht0, ht1⟩ := hrel
      by_cases hlt : k < n
      · obtain ⟨b, off, u, hxe, hu, hcx⟩ := hs.at_ (Below.refl _ _) (k := k) (by omega)
        cases hxe
        by_cases h1 : 1048576 < u.size
        · go_wp2
          go_ret
          exact ⟨isBool _, rfl⟩
        · by_cases h2 : 1048576 < t + u.size
          · go_wp2
            go_ret
            exact ⟨isBool _, rfl⟩
          · go_wp2
            go_round
            case rel => exact ⟨k + 1, t + u.size, by omega, by go_num, by go_num, by omega, by omega⟩
            case measure => simp [intOf]; omega
      · go_wp2
        go_ret
        exact ⟨isBool _, rfl⟩

/-- toArrayNum gives up at the first string. -/
theorem toNum_not (a : Option Addr) (n cap : Nat) (l : List ByteArray) (w : World) (hx : l.length = n) (hs : Src w a (l.map (fun s => .iface 9 (.string s)))) (hn : n ≤ 1048576) (h1 : 1 ≤ n) :
    Calls Uang.prog 36 #[.iface 53 (.slice a n cap)] w fun e w' => e = .returned (.tuple #[.slice none 0 0, .bool false]) ∧ Below w.heap.size w w' := by
  obtain ⟨i0, hi, hz0, hz1, hz2⟩ := info_parts Uang.info37
  obtain ⟨b, off, u, hxe, hu, _⟩ := hs.at_ (Below.refl _ _) (k := 0) (by omega)
  cases hxe
  go_enter Uang.func36, Uang.ntmps36
  go_wp2_with (at_make; refine wpList_make_full _ rfl _ _ 36 rfl w.heap.size 37 i0 (.float .f64 0) 1 Uang.underlying36 hi hz0 hz1 .i64 .i64 _ _ n rfl rfl (by omega) (by omega) (by rw [hz2]; omega) (by unfold maxLen; omega) (Nat.le_refl _) ?_; intro w0 hown0 hgrow0)
  have hbel : Below w.heap.size w w0 := (Below.refl _ _).grown hgrow0 (Nat.le_refl _) (fun k hk => by cases hk)
  obtain ⟨b, off, u, hxe, hu, hcx⟩ := hs.at_ hbel (k := 0) (by omega)
  cases hxe
  rw [Nat.add_zero] at hcx
  refine wp_loop_rounds 1 ?_
  rw [rounds_succ]
  go_wp2
  go_ret2
  exact ⟨rfl, hbel⟩

set_option maxHeartbeats 400000 in
theorem toStr_made (a : Option Addr) (n cap : Nat) (l : List ByteArray) (w : World) (hx : l.length = n) (hs : Src w a (l.map (fun s => .iface 9 (.string s)))) (hn : n ≤ 1048576) :
    Calls Uang.prog 37 #[.iface 53 (.slice a n cap)] w fun e w' => ∃ g, e = .returned (.tuple #[.slice (some ⟨g, 0, none⟩) n n, .bool true]) ∧ Src w' (some ⟨g, 0, none⟩) (l.map Value.string) ∧ Below w.heap.size w w' := by
  obtain ⟨i0, hi, hz0, hz1, hz2⟩ := info_parts Uang.info9
  go_enter Uang.func37, Uang.ntmps37
  go_wp2_with (at_make; refine wpList_make_full _ rfl _ _ 29 rfl w.heap.size 9 i0 (.string ByteArray.empty) 1 Uang.underlying29 hi hz0 hz1 .i64 .i64 _ _ n rfl rfl (by omega) (by omega) (by rw [hz2]; omega) (by unfold maxLen; omega) (Nat.le_refl _) ?_; intro w0 hown0 hgrow0)
  go_loopw [22] (fun i wr => ∃ (k : Nat) (zs : List Value), k ≤ n ∧ i = .int .i64 k ∧ wr.ownsRow w.heap.size 9 1 (.slice (some ⟨w.heap.size, 0, none⟩) n n) n zs ∧ zs.take k = (l.map Value.string).take k ∧ Below w.heap.size w wr) (fun i _ => n - (intOf i).toNat)
  case atStart => exact ⟨0, _, Nat.zero_le _, rfl, hown0, by simp, (Below.refl _ _).grown hgrow0 (Nat.le_refl _) (fun k hk => by cases hk)⟩
  case round =>
    obtain ⟨k, zs, hk, rfl, hown, hzs, hbel⟩ := hrel
    by_cases hlt : k < n
    · obtain ⟨b, off, u, hxe, hu, hcx⟩ := hs.at_ hbel (k := k) (by omega)
      cases hxe
      obtain ⟨z, hcy⟩ := own_at hown hlt
      have hfy : wr.frozen? ⟨w.heap.size, k, none⟩ = false := hown.frozenAt k
      have R := own_store hown hlt (v := .string u) (by rw [List.getElem?_map, hu]; rfl) hzs hbel
      clear hown hzs hbel hs
      go_wp2
      go_roundw
      case rel => exact ⟨k + 1, _, by omega, by go_num, R.1, R.2.1, R.2.2⟩
      case measure => simp [intOf]; omega
    · go_wp2
      go_ret2
      exact ⟨_, rfl, own_full hown (by simpa using hx) hlt hzs, hbel⟩

theorem toNum_zero (a : Option Addr) (cap : Nat) (w : World) :
    Calls Uang.prog 36 #[.iface 53 (.slice a 0 cap)] w fun e w' => (∃ g, e = .returned (.tuple #[.slice (some ⟨g, 0, none⟩) 0 0, .bool true])) ∧ Below w.heap.size w w' := by
  obtain ⟨i0, hi, hz0, hz1, hz2⟩ := info_parts Uang.info37
  go_enter Uang.func36, Uang.ntmps36
  go_wp2_with (at_make; refine wpList_make_full _ rfl _ _ 36 rfl w.heap.size 37 i0 (.float .f64 0) 1 Uang.underlying36 hi hz0 hz1 .i64 .i64 _ _ 0 rfl rfl (by omega) (by omega) (by rw [hz2]; omega) (by unfold maxLen; omega) (Nat.le_refl _) ?_; intro w0 hown0 hgrow0)
  have hbel : Below w.heap.size w w0 := (Below.refl _ _).grown hgrow0 (Nat.le_refl _) (fun k hk => by cases hk)
  refine wp_loop_rounds 1 ?_
  rw [rounds_succ]
  go_wp2
  go_ret2
  exact ⟨⟨_, rfl⟩, hbel⟩

/-- What jpfMin gives for a list of strings. -/
def minResS : List ByteArray → Value
  | [] => .nilIface
  | x :: r => .iface 9 (.string (St.minS x r))

set_option maxHeartbeats 400000 in
theorem jpfMinS_any (g : Nat) (a : Option Addr) (n cap : Nat) (l : List ByteArray) (w : World) (hx : l.length = n) (hg : w.cell? ⟨g, 0, none⟩ = some (.iface 53 (.slice a n cap))) (hgl : g < w.heap.size)
    (hs : Src w a (l.map (fun s => .iface 9 (.string s)))) (hn : n ≤ 1048576) :
    Calls Uang.prog 35 #[.slice (some ⟨g, 0, none⟩) 1 1] w fun e w' => e = .returned (.tuple #[minResS l, .nilIface]) ∧ Below w.heap.size w w' := by
  have hcase : l = [] ∨ (∃ x, l = [x]) ∨ ∃ x q, l = x :: q ∧ 2 ≤ n := by
    match l, hx with
    | [], _ => exact .inl rfl
    | [x], _ => exact .inr (.inl ⟨x, rfl⟩)
    | x :: y :: r, hx => exact .inr (.inr ⟨x, y :: r, rfl, by simp at hx; omega⟩)
  rcases hcase with rfl | ⟨x, rfl⟩ | ⟨x, q, rfl, hn2⟩
  · subst hx
    go_enter Uang.func35, Uang.ntmps35
    go_wp2_with fail
    refine (toNum_zero a cap _).mono ?_
    rintro e w1 ⟨⟨g1, rfl⟩, hb1⟩
    go_wp2
    go_ret2
    exact ⟨rfl, hb1⟩
  · subst hx
    go_enter Uang.func35, Uang.ntmps35
    go_wp2_with fail
    refine (toNum_not a 1 cap [x] _ rfl hs hn (by omega)).mono ?_
    rintro e w1 ⟨rfl, hb1⟩
    have hg1 := (hb1.cell (p := ⟨g, 0, none⟩) hgl).trans hg
    go_wp2_with fail
    refine (toStr_made a 1 cap [x] _ rfl (hs.below hb1) hn).mono ?_
    rintro e w2 ⟨g2, rfl, hs2, hb2⟩
    obtain ⟨b, off, u, hxe, hu, hcx⟩ := hs2.at_ (Below.refl _ _) (k := 0) (by simp)
    cases hxe
    cases hu
    go_wp2
    go_ret2
    exact ⟨rfl, Below.next hb1 hb2⟩
  · have hql : q.length = n - 1 := by simp at hx; omega
    have hn0 : ((n : Int) == 0) = false := beq_eq_false_iff_ne.2 (by omega)
    have hn1 : ((n : Int) == 1) = false := beq_eq_false_iff_ne.2 (by omega)
    go_enter Uang.func35, Uang.ntmps35
    go_wp2_with fail
    refine (toNum_not a n cap (x :: q) _ hx hs hn (by omega)).mono ?_
    rintro e w1 ⟨rfl, hb1⟩
    have hg1 := (hb1.cell (p := ⟨g, 0, none⟩) hgl).trans hg
    go_wp2_with fail
    refine (toStr_made a n cap (x :: q) _ hx (hs.below hb1) hn).mono ?_
    rintro e w2 ⟨g2, rfl, hs2, hb2⟩
    obtain ⟨b, off, u, hxe, hu, hcx⟩ := hs2.at_ (Below.refl _ _) (k := 0) (by simp)
    cases hxe
    cases hu
    clear hs hg hg1
    go_wp2
    go_loop [11, 72] (fun s i => ∃ k : Nat, k ≤ n - 1 ∧ i = .int .i64 k ∧ s = .string (St.minS x (q.take k))) (fun _ i => (n - 1) - (intOf i).toNat)
    case atStart => exact ⟨0, Nat.zero_le _, rfl, rfl⟩
    case round =>
      obtain ⟨k, hk, rfl, rfl⟩ := hrel
      by_cases hlt : k < n - 1
      · obtain ⟨b, off, u, hxe, hu, hcu⟩ := hs2.at_ (Below.refl _ _) (k := k + 1) (by simp; omega)
        cases hxe
        rw [Nat.zero_add, Nat.add_comm k 1] at hcu
        have hu2 : q[k]? = some u := by simpa using hu
        have HM : Hid _ := St.minS_take x q k u hu2
        cases hc : St.less u (St.minS x (q.take k))
        · have hc2 : Op.bytesLess u.toList (St.minS x (q.take k)).toList = false := hc
          have HM2 : Hid (St.minS x (q.take (k + 1)) = St.minS x (q.take k)) := by have := HM.out; rw [hc] at this; exact this
          clear hc HM
          go_wp2
          go_round
          case rel => exact ⟨k + 1, by omega, by go_num, by rw [HM2.out]⟩
          case measure => simp [intOf]; omega
        · have hc2 : Op.bytesLess u.toList (St.minS x (q.take k)).toList = true := hc
          have HM2 : Hid (St.minS x (q.take (k + 1)) = u) := by have := HM.out; rw [hc] at this; exact this
          clear hc HM
          go_wp2
          go_round
          case rel => exact ⟨k + 1, by omega, by go_num, by rw [HM2.out]⟩
          case measure => simp [intOf]; omega
      · have HM : Hid (q.take k = q) := List.take_of_length_le (by omega)
        go_wp2
        go_ret2
        refine ⟨?_, Below.next hb1 hb2⟩
        simp only [minResS]
        rw [HM.out]
        rfl

/-! An interface value against nil. -/
theorem nil_eq9 (s : ByteArray) (w : World) : (binOp .eql 20 (.iface 9 (.string s)) .nilIface).run Uang.prog w = .ok (.bool false) w := by kernel_rfl
theorem nil_eqS (w : World) : (binOp .eql 20 .nilIface .nilIface).run Uang.prog w = .ok (.bool true) w := by kernel_rfl

/-- What ZZb7MinStrs gives. -/
def minOutS : List ByteArray → Value
  | [] => .tuple #[.string ByteArray.empty, .bool true]
  | x :: r => .tuple #[.string (St.minS x r), .bool false]

set_option maxHeartbeats 400000 in
theorem ZZMinS_any (a : Option Addr) (n cap : Nat) (l : List ByteArray) (w : World) (hx : l.length = n)
    (hs : Src w a (l.map Value.string)) (hn : n ≤ 1048576) :
    Calls Uang.prog 30 #[.slice a n cap] w fun e w' => e = .returned (minOutS l) ∧ Below w.heap.size w w' := by
  obtain ⟨i0, hi, hz0, hz1, hz2⟩ := info_parts Uang.info20
  have hnil := nil_eqS
  have hnil9 := nil_eq9
  go_enter Uang.func30, Uang.ntmps30
  go_wp2_with (at_make; refine wpList_make_full _ rfl _ _ 53 rfl w.heap.size 20 i0 .nilIface 1 Uang.underlying53 hi hz0 hz1 .i64 .i64 _ _ n rfl rfl (by omega) (by omega) (by rw [hz2]; omega) (by unfold maxLen; omega) (Nat.le_refl _) ?_; intro w0 hown0 hgrow0)
  go_loopw [5] (fun i wr => ∃ (k : Nat) (zs : List Value), k ≤ n ∧ i = .int .i64 k ∧ wr.ownsRow w.heap.size 20 1 (.slice (some ⟨w.heap.size, 0, none⟩) n n) n zs ∧ zs.take k = (l.map (fun s => Value.iface 9 (.string s))).take k ∧ Below w.heap.size w wr) (fun i _ => n - (intOf i).toNat)
  case atStart => exact ⟨0, _, Nat.zero_le _, rfl, hown0, by simp, (Below.refl _ _).grown hgrow0 (Nat.le_refl _) (fun k hk => by cases hk)⟩
  case round =>
    obtain ⟨k, zs, hk, rfl, hown, hzs, hbel⟩ := hrel
    by_cases hlt : k < n
    · obtain ⟨b, off, u, hxe, hu, hcx⟩ := hs.at_ hbel (k := k) (by omega)
      cases hxe
      obtain ⟨z, hcy⟩ := own_at hown hlt
      have hfy : wr.frozen? ⟨w.heap.size, k, none⟩ = false := hown.frozenAt k
      have R := own_store hown hlt (v := .iface 9 (.string u)) (by rw [List.getElem?_map, hu]; rfl) hzs hbel
      clear hown hzs hbel hs
      go_wp2
      go_roundw
      case rel => exact ⟨k + 1, _, by omega, by go_num, R.1, R.2.1, R.2.2⟩
      case measure => simp [intOf]; omega
    · have hsr := own_full hown (by simpa using hx) hlt hzs
      clear hown hzs hs
      go_wp2_with fail
      refine (jpfMinS_any wr.heap.size _ n n l _ hx (one_cell wr _ _) (by simp) (hsr.below (one_below wr _)) hn).mono ?_
      rintro e w2 ⟨rfl, hb2⟩
      cases l with
      | nil =>
        simp only [minResS]
        go_wp2
        go_ret2
        exact ⟨rfl, hbel.trans ((one_then hb2).mono hbel.size)⟩
      | cons x r =>
        simp only [minResS]
        go_wp2
        go_ret2
        exact ⟨rfl, hbel.trans ((one_then hb2).mono hbel.size)⟩

end Go.Proofs.Youanw

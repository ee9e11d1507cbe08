/-
  THE WALK OF FnMinStringsOfConcat.
-/
import Derived.Test.YouanwStr
import Derived.Test.YouanwClones
namespace Go.Proofs.Youanw
open Go.RowKit

set_option maxHeartbeats 1000000 in
theorem bytes32_any (a b : Option Addr) (n c m d : Nat) (la lb : List ByteArray) (w : World) (hla : la.length = n) (hlb : lb.length = m) (hsa : Src w a (la.map Value.string)) (hsb : Src w b (lb.map Value.string)) :
    Calls Uang.prog 32 #[.slice a n c, .slice b m d] w fun e w' => IsBool e ∧ w = w' := by
  by_cases hbig : 1048576 < n
  · go_enter Uang.func32, Uang.ntmps32
    go_wp2
    go_ret
    exact ⟨isBool _, rfl⟩
  · go_enter Uang.func32, Uang.ntmps32
    go_wp2
    go_loop [5, 6] (fun s i => ∃ (k : Nat) (t : Int), k ≤ n ∧ i = .int .i64 k ∧ s = .int .i64 t ∧ 0 ≤ t ∧ t ≤ 1048576) (fun _ i => n - (intOf i).toNat)
    case atStart => exact ⟨0, _, Nat.zero_le _, rfl, rfl, by omega, by omega⟩
    case round =>
      obtain ⟨k, t, hkk, rfl, rfl, ht0k, ht1k⟩ := hrel
      by_cases hltk : k < n
      · obtain ⟨bk, offk, u, hxe, hu, hcx⟩ := hsa.at_ (Below.refl _ _) (k := k) (by omega)
        cases hxe
        by_cases h1 : 1048576 < u.size
        · go_wp2
          go_ret
          exact ⟨isBool _, rfl⟩
        · by_cases h2 : 1048576 < t + u.size
          · go_wp2
            go_ret
            exact ⟨isBool _, rfl⟩
          · go_wp2
            go_round
            case rel => exact ⟨k + 1, t + u.size, by omega, by go_num, by go_num, by omega, by omega⟩
            case measure => simp [intOf]; omega
      · by_cases hbig2 : 1048576 < m
        · go_wp2
          go_ret
          exact ⟨isBool _, rfl⟩
        by_cases hbig3 : 1048576 < t + m
        · go_wp2
          go_ret
          exact ⟨isBool _, rfl⟩
        go_wp2
        go_loop [5, 7] (fun s i => ∃ (k : Nat) (t : Int), k ≤ m ∧ i = .int .i64 k ∧ s = .int .i64 t ∧ 0 ≤ t ∧ t ≤ 1048576) (fun _ i => m - (intOf i).toNat)
        case atStart => exact ⟨0, _, Nat.zero_le _, rfl, rfl, by omega, by omega⟩
        case round =>
          obtain ⟨j, t2, hkj, rfl, rfl, ht0j, ht1j⟩ := hrel
          by_cases hltj : j < m
          · obtain ⟨bj, offj, u, hxe, hu, hcx⟩ := hsb.at_ (Below.refl _ _) (k := j) (by omega)
            cases hxe
            by_cases h1 : 1048576 < u.size
            · go_wp2
              go_ret
              exact ⟨isBool _, rfl⟩
            · by_cases h2 : 1048576 < t2 + u.size
              · go_wp2
                go_ret
                exact ⟨isBool _, rfl⟩
              · go_wp2
                go_round
                case rel => exact ⟨j + 1, t2 + u.size, by omega, by go_num, by go_num, by omega, by omega⟩
                case measure => simp [intOf]; omega
          · go_wp2
            go_ret
            exact ⟨isBool _, rfl⟩

theorem take_snoc_at (xs : List Value) (k : Nat) (v : Value) (h : xs[k]? = some v) : xs.take k ++ [v] = xs.take (k + 1) := by
  have hk := (List.getElem?_eq_some_iff.1 h).1
  have e := (List.getElem?_eq_some_iff.1 h).2
  rw [List.take_succ_eq_append_getElem hk, e]

theorem one_string (u : ByteArray) : ∀ v ∈ [Value.string u], v.oneCell' = true := by
  intro v hv; simp at hv; subst hv; rfl

set_option maxHeartbeats 400000 in
theorem strBytes_bd (a : Option Addr) (n cap : Nat) (l : List ByteArray) (w : World) (hx : l.length = n) (hs : Src w a (l.map Value.string)) (hn : n ≤ 1048576) :
    Calls Uang.prog 28 #[.slice a n cap] w fun e w' => (∃ t : Int, e = .returned (.int .i64 t) ∧ 0 ≤ t ∧ t ≤ 16777216) ∧ w = w' := by
  by_cases hbig : 1048576 < 16 * n
  · go_enter Uang.func28, Uang.ntmps28
    go_wp2
    go_ret
    exact ⟨⟨_, rfl, by omega, by omega⟩, rfl⟩
  · go_enter Uang.func28, Uang.ntmps28
    go_wp2
    go_loop [3, 4] (fun s i => ∃ (k : Nat) (t : Int), k ≤ n ∧ i = .int .i64 k ∧ s = .int .i64 t ∧ 0 ≤ t ∧ t ≤ 1048576) (fun _ i => n - (intOf i).toNat)
    case atStart => exact ⟨0, _, Nat.zero_le _, rfl, rfl, by omega, by omega⟩
    case round =>
      obtain ⟨k, t, hk, rfl, rfl, ht0, ht1⟩ := hrel
      by_cases hlt : k < n
      · obtain ⟨b, off, u, hxe, hu, hcx⟩ := hs.at_ (Below.refl _ _) (k := k) (by omega)
        cases hxe
        by_cases h1 : 1048576 < u.size
        · go_wp2
          go_ret
          exact ⟨⟨1048577, rfl, by omega, by omega⟩, rfl⟩
        · by_cases h2 : 1048576 < t + u.size
          · go_wp2
            go_ret
            exact ⟨⟨t + u.size, rfl, by omega, by omega⟩, rfl⟩
          · go_wp2
            go_round
            case rel => exact ⟨k + 1, t + u.size, by omega, by go_num, by go_num, by omega, by omega⟩
            case measure => simp [intOf]; omega
      · go_wp2
        go_ret
        exact ⟨⟨t, rfl, by omega, by omega⟩, rfl⟩

/-- The least of a list; of none the empty string. -/
def mS : List ByteArray → ByteArray
  | [] => ByteArray.empty
  | x :: r => St.minS x r

theorem minOutS_eq (l : List ByteArray) : minOutS l = .tuple #[.string (mS l), .bool l.isEmpty] := by cases l <;> rfl

theorem mS_least {l : List ByteArray} (h : l.isEmpty = false) : St.Least l (mS l) := by
  cases l with
  | nil => simp at h
  | cons x r => exact St.minS_least x r

/-- THE LAW, plainly. -/
theorem mS_append (la lb : List ByteArray) : (la.isEmpty = true → mS (la ++ lb) = mS lb) ∧ (lb.isEmpty = true → mS (la ++ lb) = mS la) ∧
    (la.isEmpty = false → lb.isEmpty = false → mS (la ++ lb) = if St.less (mS lb) (mS la) = true then mS lb else mS la) ∧ (la ++ lb).isEmpty = (la.isEmpty && lb.isEmpty) := by
  refine ⟨fun h => ?_, fun h => ?_, fun ha hb => ?_, by cases la <;> cases lb <;> rfl⟩
  · rw [List.isEmpty_iff.1 h, List.nil_append]
  · rw [List.isEmpty_iff.1 h, List.append_nil]
  · exact (mS_least ha).append (mS_least hb) (mS_least (by cases la <;> simp_all))

theorem mS_size {l : List ByteArray} (hg : ∀ u ∈ l, u.size ≤ maxLen) : (mS l).size ≤ maxLen := by
  cases l with
  | nil => exact Nat.zero_le _
  | cons x r => exact hg _ (St.minS_least x r).1

set_option maxHeartbeats 400000 in
theorem concat_big (a b : Option Addr) (n c m d : Nat) (la lb : List ByteArray) (w : World) (hla : la.length = n) (hlb : lb.length = m) (hsa : Src w a (la.map Value.string)) (hsb : Src w b (lb.map Value.string)) (h : 65536 < n ∨ 65536 < m) :
    Calls Uang.prog 9 #[.slice a n c, .slice b m d] w fun e w' => e = .returned (.bool true) ∧ Below w.heap.size w w' := by
  by_cases h1 : 65536 < n
  all_goals
    go_enter Uang.func9, Uang.ntmps9
    go_wp2_with fail
    refine (bytes32_any a b n c m d la lb _ hla hlb hsa hsb).mono ?_
    rintro e w' ⟨⟨r, rfl⟩, rfl⟩
    cases r
    all_goals
      go_wp2
      go_ret
      exact ⟨rfl, Below.refl _ _⟩

set_option maxHeartbeats 1000000 in
theorem concat_small (a b : Option Addr) (n c m d : Nat) (la lb : List ByteArray) (w : World) (ha : a = none → n = 0 ∧ c = 0) (hb : b = none → m = 0 ∧ d = 0) (hla : la.length = n) (hlb : lb.length = m)
    (hsa : Src w a (la.map Value.string)) (hsb : Src w b (lb.map Value.string)) (hga : ∀ u ∈ la, u.size ≤ maxLen) (hgb : ∀ u ∈ lb, u.size ≤ maxLen) (h1 : n ≤ 65536) (h2 : m ≤ 65536) :
    Calls Uang.prog 9 #[.slice a n c, .slice b m d] w fun e w' => e = .returned (.bool true) ∧ Below w.heap.size w w' := by
  obtain ⟨i0, hi, hz0, hz1, hz2⟩ := info_parts Uang.info9
  go_enter Uang.func9, Uang.ntmps9
  go_wp2_with fail
  refine (bytes32_any a b n c m d la lb _ hla hlb hsa hsb).mono ?_
  rintro e w' ⟨⟨r, rfl⟩, rfl⟩
  cases r
  · go_wp2
    go_ret
    exact ⟨rfl, Below.refl _ _⟩
  go_wp2_with fail
  refine (strBytes_bd a n c la _ hla hsa (by omega)).mono ?_
  rintro e w' ⟨⟨t1, rfl, q1, q1'⟩, rfl⟩
  by_cases ht1 : 1048576 < t1
  · go_wp2
    go_ret
    exact ⟨rfl, Below.refl _ _⟩
  go_wp2_with fail
  refine (strBytes_bd b m d lb _ hlb hsb (by omega)).mono ?_
  rintro e w' ⟨⟨t2, rfl, q2, q2'⟩, rfl⟩
  by_cases ht2 : 1048576 < t2
  · go_wp2
    go_ret
    exact ⟨rfl, Below.refl _ _⟩
  go_wp2_with fail
  refine (strBytes_bd a n c la _ hla hsa (by omega)).mono ?_
  rintro e w' ⟨⟨t3, rfl, q3, q3'⟩, rfl⟩
  go_wp2_with fail
  refine (strBytes_bd b m d lb _ hlb hsb (by omega)).mono ?_
  rintro e w' ⟨⟨t4, rfl, q4, q4'⟩, rfl⟩
  by_cases ht3 : 1048576 < t3 + t4
  · go_wp2
    go_ret
    exact ⟨rfl, Below.refl _ _⟩
  go_wp2_with fail
  refine (cloneS_any a n c la _ ha hla hsa (by omega)).mono ?_
  rintro e w1 ⟨a1, c1, rfl, hsa1, hb1⟩
  go_wp2_with fail
  refine (cloneS_any b m d lb _ hb hlb (hsb.below hb1) (by omega)).mono ?_
  rintro e w2 ⟨b1, d1, rfl, hsb2, hb2⟩
  have hsa2 := hsa1.below hb2
  clear hsa hsb hsa1
  go_wp2_with (at_make; refine wpList_make_own _ rfl _ _ 29 rfl w2.heap.size 9 i0 (.string ByteArray.empty) 1 Uang.underlying29 hi hz0 hz1 .i64 .i64 _ (n + m) rfl rfl (by omega) (by rw [hz2]; omega) (by unfold maxLen; omega) (Nat.le_refl _) ?_; intro w0 hown0 hgrow0)
  go_loopw [5, 6] (fun v i wr => ∃ k : Nat, k ≤ n ∧ i = .int .i64 k ∧ v = .slice (some ⟨w2.heap.size, 0, none⟩) k (n + m) ∧ wr.ownsRow w2.heap.size 9 1 (.slice (some ⟨w2.heap.size, 0, none⟩) k (n + m)) k ((la.map Value.string).take k) ∧ Below w2.heap.size w2 wr) (fun _ i _ => n - (intOf i).toNat)
  case atStart => exact ⟨0, Nat.zero_le _, rfl, rfl, hown0, (Below.refl _ _).grown hgrow0 (Nat.le_refl _) (fun k hk => by cases hk)⟩
  case round =>
    obtain ⟨k, hk, rfl, rfl, hown, hbel⟩ := hrel
    by_cases hlt : k < n
    · obtain ⟨b3, off3, u, hxe, hu, hcx⟩ := hsa2.at_ hbel (k := k) (by omega)
      cases hxe
      have HT : Hid ((la.map Value.string).take k ++ [Value.string u] = (la.map Value.string).take (k + 1)) := take_snoc_at _ _ _ (by rw [List.getElem?_map, hu]; rfl)
      go_wp2_with (at_builtin; refine wpList_append_fits _ rfl _ _ 29 rfl w2.heap.size 9 i0 1 Uang.underlying29 hi hz1 w2.heap.size k (n + m) _ rfl (hown.alloc _) ⟨wr.heap.size, 0, none⟩ 1 1 [.string u] rfl rfl (cell_one_new _ _ _) (one_string u) (by omega) ?_; intro w3 hown3 hgrow3)
      have hbel3 := (hbel.alloc hbel.size _).grown hgrow3 (by have := hbel.size; simp; omega) (fun j hj => by cases hj; exact Nat.le_refl _)
      rw [HT.out] at hown3
      go_roundw
      case rel => exact ⟨k + 1, by omega, by go_num, rfl, hown3, hbel3⟩
      case measure => simp [intOf]; omega
    · obtain rfl : k = n := by omega
      rw [List.take_of_length_le (by simp; omega)] at hown
      clear hown0 hgrow0
      go_wp2
      go_loopw [5, 7] (fun v i wr => ∃ j : Nat, j ≤ m ∧ i = .int .i64 j ∧ v = .slice (some ⟨w2.heap.size, 0, none⟩) (k + j) (k + m) ∧ wr.ownsRow w2.heap.size 9 1 (.slice (some ⟨w2.heap.size, 0, none⟩) (k + j) (k + m)) (k + j) (la.map Value.string ++ (lb.map Value.string).take j) ∧ Below w2.heap.size w2 wr) (fun _ i _ => m - (intOf i).toNat)
      case atStart => exact ⟨0, Nat.zero_le _, rfl, rfl, by simpa using hown, hbel⟩
      case round =>
        obtain ⟨j, hj, rfl, rfl, hown, hbel⟩ := hrel
        by_cases hlj : j < m
        · obtain ⟨b3, off3, u, hxe, hu, hcx⟩ := hsb2.at_ hbel (k := j) (by omega)
          cases hxe
          have HT : Hid (la.map Value.string ++ (lb.map Value.string).take j ++ [Value.string u] = la.map Value.string ++ (lb.map Value.string).take (j + 1)) := by
            show _ = _
            rw [List.append_assoc, take_snoc_at _ _ _ (by rw [List.getElem?_map, hu]; rfl)]
          go_wp2_with (at_builtin; refine wpList_append_fits _ rfl _ _ 29 rfl w2.heap.size 9 i0 1 Uang.underlying29 hi hz1 w2.heap.size (k + j) (k + m) _ rfl (hown.alloc _) ⟨wr.heap.size, 0, none⟩ 1 1 [.string u] rfl rfl (cell_one_new _ _ _) (one_string u) (by omega) ?_; intro w3 hown3 hgrow3)
          have hbel3 := (hbel.alloc hbel.size _).grown hgrow3 (by have := hbel.size; simp; omega) (fun j hj => by cases hj; exact Nat.le_refl _)
          rw [HT.out] at hown3
          go_roundw
          case rel => exact ⟨j + 1, by omega, by go_num, by rw [Nat.add_assoc], by rw [← Nat.add_assoc]; exact hown3, hbel3⟩
          case measure => simp [intOf]; omega
        · obtain rfl : j = m := by omega
          rw [List.take_of_length_le (by simp; omega), ← List.map_append] at hown
          have hz := Src.own hown
          clear hown
          go_wp2_with fail
          refine (ZZMinS_any a1 k c1 la _ hla (hsa2.below hbel) (by omega)).mono ?_
          rintro e w4 ⟨rfl, hb4⟩
          rw [minOutS_eq]
          go_wp2_with fail
          refine (ZZMinS_any b1 j d1 lb _ hlb ((hsb2.below hbel).below hb4) (by omega)).mono ?_
          rintro e w5 ⟨rfl, hb5⟩
          rw [minOutS_eq]
          go_wp2_with fail
          refine (ZZMinS_any _ (k + j) (k + j) (la ++ lb) _ (by simp; omega) ((hz.below hb4).below hb5) (by omega)).mono ?_
          rintro e w6 ⟨rfl, hb6⟩
          rw [minOutS_eq]
          have HL : Hid _ := mS_append la lb
          have hfin : Below w.heap.size w w6 := Below.next hb1 (Below.next hb2 (Below.next hbel (Below.next hb4 (Below.next hb5 hb6))))
          have hza := mS_size hga
          have hzb := mS_size hgb
          clear hz hsa2 hsb2 hga hgb hown ha hb hla hlb
          generalize mS la = sa at *
          generalize mS lb = sb at *
          generalize mS (la ++ lb) = sc at *
          have HE : Hid _ := HL.out.2.2.2
          generalize (la ++ lb).isEmpty = ec at *
          generalize la.isEmpty = ea at *
          generalize lb.isEmpty = eb at *
          cases ea
          · cases eb
            · obtain rfl : ec = false := HE.out
              cases hc : St.less sb sa
              · obtain rfl : sc = sa := by have := HL.out.2.2.1 rfl rfl; rw [hc] at this; exact this
                go_wp2_with fail
                refine (lessStr_is sb sc _ _ hzb hza hc).mono ?_
                rintro e w7 ⟨rfl, nd, rfl⟩
                go_wp2
                go_ret
                exact ⟨by simp, below_drewN hfin _⟩
              · obtain rfl : sc = sb := by have := HL.out.2.2.1 rfl rfl; rw [hc] at this; exact this
                go_wp2_with fail
                refine (lessStr_is sc sa _ _ hzb hza hc).mono ?_
                rintro e w7 ⟨rfl, nd, rfl⟩
                go_wp2
                go_ret
                exact ⟨by simp, below_drewN hfin _⟩
            · obtain rfl : ec = false := HE.out
              obtain rfl : sc = sa := HL.out.2.1 rfl
              go_wp2
              go_ret
              exact ⟨by simp, hfin⟩
          · cases eb
            · obtain rfl : ec = false := HE.out
              obtain rfl : sc = sb := HL.out.1 rfl
              go_wp2
              go_ret
              exact ⟨by simp, hfin⟩
            · obtain rfl : ec = true := HE.out
              go_wp2
              go_ret
              exact ⟨rfl, hfin⟩

theorem concat_any (a : Option Addr) (n c : Nat) (la : List ByteArray) (b : Option Addr) (m d : Nat) (lb : List ByteArray) (w : World) (ha : a = none → n = 0 ∧ c = 0) (hla : la.length = n) (hsa : Src w a (la.map Value.string)) (hga : ∀ u ∈ la, u.size ≤ maxLen)
    (hb : b = none → m = 0 ∧ d = 0) (hlb : lb.length = m) (hsb : Src w b (lb.map Value.string)) (hgb : ∀ u ∈ lb, u.size ≤ maxLen) :
    Calls Uang.prog 9 #[.slice a n c, .slice b m d] w fun e w' => e = .returned (.bool true) ∧ Below w.heap.size w w' := by
  by_cases h : 65536 < n ∨ 65536 < m
  · exact concat_big a b n c m d la lb w hla hlb hsa hsb h
  · exact concat_small a b n c m d la lb w ha hb hla hlb hsa hsb hga hgb (by omega) (by omega)

end Go.Proofs.Youanw

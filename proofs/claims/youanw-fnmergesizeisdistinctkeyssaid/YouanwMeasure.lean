/-
  THE WALKS of the bounds' functions, zzMergeShape and zzMergeCount.
-/
import Derived.Test.YouanwGrid
namespace Go.Proofs.Youanw
open Go.RowKit

set_option maxHeartbeats 1000000 in
theorem bytes16_any (a b : Option Addr) (n c m d : Nat) (ks : List (Row ByteArray)) (vs : List (Row Int)) (w : World) (hka : ks.length = n) (hva : vs.length = m) (hk : Grid Value.string w a ks) (hv : Grid (Value.int .i64) w b vs) :
    Calls Uang.prog 16 #[.slice a n c, .slice b m d] w fun e w' => IsBool e ∧ w = w' := by
  by_cases hbig : 1048576 < n
  · go_enter Uang.func16, Uang.ntmps16
    go_wp2
    go_ret
    exact ⟨isBool _, rfl⟩
  go_enter Uang.func16, Uang.ntmps16
  go_wp2
  go_loop [5, 6] (fun s i => ∃ (k : Nat) (t : Int), k ≤ n ∧ i = .int .i64 k ∧ s = .int .i64 t ∧ 0 ≤ t ∧ t ≤ 1048576) (fun _ i => n - (intOf i).toNat)
  case atStart => exact ⟨0, _, Nat.zero_le _, rfl, rfl, by omega, by omega⟩
  case round =>
    obtain ⟨k, t, hkn, rfl, rfl, ht0, ht1⟩ := hrel
    by_cases hlt : k < n
    · obtain ⟨b1, off1, ra, rc, rl, hxe, hr, hcr, hsr, _, _⟩ := hk.row (Below.refl _ _) (k := k) (by omega)
      cases hxe
      by_cases h1 : 1048576 < rl.length
      · go_wp2
        go_ret
        exact ⟨isBool _, rfl⟩
      · by_cases h2 : 1048576 < t + rl.length
        · go_wp2
          go_ret
          exact ⟨isBool _, rfl⟩
        · go_wp2
          go_loop [5, 7] (fun s i => ∃ (j : Nat) (t : Int), j ≤ rl.length ∧ i = .int .i64 j ∧ s = .int .i64 t ∧ 0 ≤ t ∧ t ≤ 1048576) (fun _ i => rl.length - (intOf i).toNat)
          case atStart => exact ⟨0, _, Nat.zero_le _, rfl, rfl, by omega, by omega⟩
          case round =>
            obtain ⟨j, t2, hj, rfl, rfl, hu0, hu1⟩ := hrel
            by_cases hlj : j < rl.length
            · obtain ⟨b2, off2, u, hxe, hu, hcu⟩ := hsr.at_ (Below.refl _ _) (k := j) hlj
              cases hxe
              by_cases h3 : 1048576 < u.size
              · go_wp2
                go_ret
                exact ⟨isBool _, rfl⟩
              · by_cases h4 : 1048576 < t2 + u.size
                · go_wp2
                  go_ret
                  exact ⟨isBool _, rfl⟩
                · go_wp2
                  go_round
                  case rel => exact ⟨j + 1, t2 + u.size, by omega, by go_num, by go_num, by omega, by omega⟩
                  case measure => simp [intOf]; omega
            · go_wp2
              go_round
              case rel => exact ⟨k + 1, t2, by omega, by go_num, rfl, hu0, hu1⟩
              case measure => simp [intOf]; omega
    · by_cases hbig2 : 1048576 < m
      · go_wp2
        go_ret
        exact ⟨isBool _, rfl⟩
      by_cases hbig3 : 1048576 < t + m
      · go_wp2
        go_ret
        exact ⟨isBool _, rfl⟩
      go_wp2
      go_loop [5, 8] (fun s i => ∃ (j : Nat) (t : Int), j ≤ m ∧ i = .int .i64 j ∧ s = .int .i64 t ∧ 0 ≤ t ∧ t ≤ 1048576) (fun _ i => m - (intOf i).toNat)
      case atStart => exact ⟨0, _, Nat.zero_le _, rfl, rfl, by omega, by omega⟩
      case round =>
        obtain ⟨j, t2, hj, rfl, rfl, hu0, hu1⟩ := hrel
        by_cases hlj : j < m
        · obtain ⟨b1, off1, ra, rc, rl, hxe, hr, hcr, hsr, _, _⟩ := hv.row (Below.refl _ _) (k := j) (by omega)
          cases hxe
          by_cases h1 : 1048576 < rl.length
          · go_wp2
            go_ret
            exact ⟨isBool _, rfl⟩
          · by_cases h2 : 1048576 < t2 + rl.length
            · go_wp2
              go_ret
              exact ⟨isBool _, rfl⟩
            · go_wp2
              go_round
              case rel => exact ⟨j + 1, t2 + rl.length, by omega, by go_num, by go_num, by omega, by omega⟩
              case measure => simp [intOf]; omega
        · go_wp2
          go_ret
          exact ⟨isBool _, rfl⟩

set_option maxHeartbeats 1000000 in
theorem bytes10_any (a b : Option Addr) (n c m d : Nat) (q : ByteArray) (ks : List (Row ByteArray)) (vs : List (Row Int)) (w : World) (hka : ks.length = n) (hva : vs.length = m) (hk : Grid Value.string w a ks) (hv : Grid (Value.int .i64) w b vs) :
    Calls Uang.prog 10 #[.slice a n c, .slice b m d, .string q] w fun e w' => IsBool e ∧ w = w' := by
  by_cases hbig : 1048576 < n
  · go_enter Uang.func10, Uang.ntmps10
    go_wp2
    go_ret
    exact ⟨isBool _, rfl⟩
  go_enter Uang.func10, Uang.ntmps10
  go_wp2
  go_loop [7, 8] (fun s i => ∃ (k : Nat) (t : Int), k ≤ n ∧ i = .int .i64 k ∧ s = .int .i64 t ∧ 0 ≤ t ∧ t ≤ 1048576) (fun _ i => n - (intOf i).toNat)
  case atStart => exact ⟨0, _, Nat.zero_le _, rfl, rfl, by omega, by omega⟩
  case round =>
    obtain ⟨k, t, hkn, rfl, rfl, ht0, ht1⟩ := hrel
    by_cases hlt : k < n
    · obtain ⟨b1, off1, ra, rc, rl, hxe, hr, hcr, hsr, _, _⟩ := hk.row (Below.refl _ _) (k := k) (by omega)
      cases hxe
      by_cases h1 : 1048576 < rl.length
      · go_wp2
        go_ret
        exact ⟨isBool _, rfl⟩
      · by_cases h2 : 1048576 < t + rl.length
        · go_wp2
          go_ret
          exact ⟨isBool _, rfl⟩
        · go_wp2
          go_loop [7, 9] (fun s i => ∃ (j : Nat) (t : Int), j ≤ rl.length ∧ i = .int .i64 j ∧ s = .int .i64 t ∧ 0 ≤ t ∧ t ≤ 1048576) (fun _ i => rl.length - (intOf i).toNat)
          case atStart => exact ⟨0, _, Nat.zero_le _, rfl, rfl, by omega, by omega⟩
          case round =>
            obtain ⟨j, t2, hj, rfl, rfl, hu0, hu1⟩ := hrel
            by_cases hlj : j < rl.length
            · obtain ⟨b2, off2, u, hxe, hu, hcu⟩ := hsr.at_ (Below.refl _ _) (k := j) hlj
              cases hxe
              by_cases h3 : 1048576 < u.size
              · go_wp2
                go_ret
                exact ⟨isBool _, rfl⟩
              · by_cases h4 : 1048576 < t2 + u.size
                · go_wp2
                  go_ret
                  exact ⟨isBool _, rfl⟩
                · go_wp2
                  go_round
                  case rel => exact ⟨j + 1, t2 + u.size, by omega, by go_num, by go_num, by omega, by omega⟩
                  case measure => simp [intOf]; omega
            · go_wp2
              go_round
              case rel => exact ⟨k + 1, t2, by omega, by go_num, rfl, hu0, hu1⟩
              case measure => simp [intOf]; omega
    · by_cases hbig2 : 1048576 < m
      · go_wp2
        go_ret
        exact ⟨isBool _, rfl⟩
      by_cases hbig3 : 1048576 < t + m
      · go_wp2
        go_ret
        exact ⟨isBool _, rfl⟩
      go_wp2
      go_loop [7, 10] (fun s i => ∃ (j : Nat) (t : Int), j ≤ m ∧ i = .int .i64 j ∧ s = .int .i64 t ∧ 0 ≤ t ∧ t ≤ 1048576) (fun _ i => m - (intOf i).toNat)
      case atStart => exact ⟨0, _, Nat.zero_le _, rfl, rfl, by omega, by omega⟩
      case round =>
        obtain ⟨j, t2, hj, rfl, rfl, hu0, hu1⟩ := hrel
        by_cases hlj : j < m
        · obtain ⟨b1, off1, ra, rc, rl, hxe, hr, hcr, hsr, _, _⟩ := hv.row (Below.refl _ _) (k := j) (by omega)
          cases hxe
          by_cases h1 : 1048576 < rl.length
          · go_wp2
            go_ret
            exact ⟨isBool _, rfl⟩
          · by_cases h2 : 1048576 < t2 + rl.length
            · go_wp2
              go_ret
              exact ⟨isBool _, rfl⟩
            · go_wp2
              go_round
              case rel => exact ⟨j + 1, t2 + rl.length, by omega, by go_num, by go_num, by omega, by omega⟩
              case measure => simp [intOf]; omega
        · by_cases hq1 : 1048576 < q.size
          · go_wp2
            go_ret
            exact ⟨isBool _, rfl⟩
          · by_cases hq2 : 1048576 < t2 + q.size
            · go_wp2
              go_ret
              exact ⟨isBool _, rfl⟩
            · go_wp2
              go_ret
              exact ⟨isBool _, rfl⟩

/-- Object i's keys and values pair off. -/
def Shape (ks : List (Row ByteArray)) (vs : List (Row Int)) : Prop :=
  ks.length = vs.length ∧ ∀ (i : Nat) (kr : Row ByteArray) (vr : Row Int), ks[i]? = some kr → vs[i]? = some vr → kr.l.length = vr.l.length

/-- What zzMergeShape answers. -/
def ShapeRes (ks : List (Row ByteArray)) (vs : List (Row Int)) (e : Ending) : Prop := e = .returned (.bool false) ∨ (e = .returned (.bool true) ∧ Shape ks vs)

set_option maxHeartbeats 400000 in
theorem shape_any (a b : Option Addr) (n c m d : Nat) (ks : List (Row ByteArray)) (vs : List (Row Int)) (w : World) (hka : ks.length = n) (hva : vs.length = m) (hk : Grid Value.string w a ks) (hv : Grid (Value.int .i64) w b vs) (hn : n ≤ 4096) (hm : m ≤ 4096) :
    Calls Uang.prog 12 #[.slice a n c, .slice b m d] w fun e w' => ShapeRes ks vs e ∧ Below w.heap.size w w' := by
  by_cases hnm : n = m
  · subst hnm
    have hne : ((n : Int) != (n : Int)) = false := by simp
    go_enter Uang.func12, Uang.ntmps12
    go_wp2
    go_loopw [5] (fun i wr => ∃ k : Nat, k ≤ n ∧ i = .int .i64 k ∧ Below w.heap.size w wr ∧ ∀ (i : Nat) (kr : Row ByteArray) (vr : Row Int), i < k → ks[i]? = some kr → vs[i]? = some vr → kr.l.length = vr.l.length) (fun i _ => n - (intOf i).toNat)
    case atStart => exact ⟨0, Nat.zero_le _, rfl, Below.refl _ _, fun i kr vr hi => absurd hi (by omega)⟩
    case round =>
      obtain ⟨k, hkn, rfl, hbel, hall⟩ := hrel
      by_cases hlt : k < n
      · obtain ⟨b1, off1, ra, rc, rl, hxe, hr, hcr, _, _, _⟩ := hk.row hbel (k := k) (by omega)
        cases hxe
        obtain ⟨b2, off2, qa, qc, ql, hxe, hq, hcq, _, _, _⟩ := hv.row hbel (k := k) (by omega)
        cases hxe
        by_cases hl : rl.length = ql.length
        · have HA : Hid (∀ (i : Nat) (kr : Row ByteArray) (vr : Row Int), i < k + 1 → ks[i]? = some kr → vs[i]? = some vr → kr.l.length = vr.l.length) := by
            intro i kr vr hi hkr hvr
            by_cases e : i < k
            · exact hall i kr vr e hkr hvr
            · have : i = k := by omega
              subst this; rw [hr] at hkr; rw [hq] at hvr; cases hkr; cases hvr; exact hl
          have hl2 : ((rl.length : Int) != (ql.length : Int)) = false := by simp; omega
          clear hall hl
          go_wp2
          go_quiet (fail)
          go_wp2
          go_roundw
          case rel => exact ⟨k + 1, by omega, by go_num, below_drewN hbel _, HA.out⟩
          case measure => simp [intOf]; omega
        · have hl2 : ((rl.length : Int) != (ql.length : Int)) = true := by rw [bne_iff_ne]; omega
          clear hall hl
          go_wp2
          go_quiet (fail)
          go_wp2
          go_ret
          exact ⟨.inl rfl, below_drewN hbel _⟩
      · have HS : Hid (Shape ks vs) := ⟨by omega, fun i kr vr hkr hvr => hall i kr vr (by have := (List.getElem?_eq_some_iff.1 hkr).1; omega) hkr hvr⟩
        clear hall
        go_wp2
        go_ret
        exact ⟨.inr ⟨rfl, HS.out⟩, hbel⟩
  · have hne : ((n : Int) != (m : Int)) = true := by rw [bne_iff_ne]; omega
    go_enter Uang.func12, Uang.ntmps12
    go_wp2
    go_ret
    exact ⟨.inl rfl, Below.refl _ _⟩

/-- How many entries the first k rows have. -/
def cnt (ks : List (Row ByteArray)) (k : Nat) : Nat := ((ks.take k).map (fun r => r.l.length)).sum

theorem cnt_succ (ks : List (Row ByteArray)) (k : Nat) (r : Row ByteArray) (h : ks[k]? = some r) : cnt ks (k + 1) = cnt ks k + r.l.length := by
  unfold cnt
  have hk := (List.getElem?_eq_some_iff.1 h).1
  have e := (List.getElem?_eq_some_iff.1 h).2
  rw [List.take_succ_eq_append_getElem hk, e, List.map_append, List.sum_append]; simp

theorem cnt_bd (ks : List (Row ByteArray)) (h : ∀ r ∈ ks, r.l.length ≤ 1048576) : ∀ k, k ≤ ks.length → cnt ks k ≤ 1048576 * k
  | 0, _ => by simp [cnt]
  | k + 1, hk => by
    have ih := cnt_bd ks h k (by omega)
    have hr : ks[k]? = some (ks[k]'(by omega)) := List.getElem?_eq_getElem _
    rw [cnt_succ ks k _ hr]
    have := h _ (List.mem_of_getElem? hr)
    omega

set_option maxHeartbeats 400000 in
theorem count_any (a : Option Addr) (n c : Nat) (ks : List (Row ByteArray)) (w : World) (hka : ks.length = n) (hk : Grid Value.string w a ks) (hn : n ≤ 4096) (hb : ∀ r ∈ ks, r.l.length ≤ 1048576) :
    Calls Uang.prog 17 #[.slice a n c] w fun e w' => e = .returned (.int .i64 (cnt ks n : Nat)) ∧ w = w' := by
  go_enter Uang.func17, Uang.ntmps17
  go_wp2
  go_loop [3, 4] (fun s i => ∃ k : Nat, k ≤ n ∧ i = .int .i64 k ∧ s = .int .i64 (cnt ks k : Nat)) (fun _ i => n - (intOf i).toNat)
  case atStart => exact ⟨0, Nat.zero_le _, rfl, rfl⟩
  case round =>
    obtain ⟨k, hkn, rfl, rfl⟩ := hrel
    have hcb := cnt_bd ks hb k (by omega)
    by_cases hlt : k < n
    · obtain ⟨b1, off1, ra, rc, rl, hxe, hr, hcr, _, _, _⟩ := hk.row (Below.refl _ _) (k := k) (by omega)
      cases hxe
      have hrl : rl.length ≤ 1048576 := hb _ (List.mem_of_getElem? hr)
      have HC : Hid (cnt ks (k + 1) = cnt ks k + rl.length) := cnt_succ ks k _ hr
      go_wp2
      go_round
      case rel => exact ⟨k + 1, by omega, by go_num, by rw [HC.out]; go_num⟩
      case measure => simp [intOf]; omega
    · obtain rfl : k = n := by omega
      go_wp2
      go_ret
      exact ⟨rfl, rfl⟩

end Go.Proofs.Youanw

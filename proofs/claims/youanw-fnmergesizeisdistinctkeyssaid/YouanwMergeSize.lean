/-
  THE WALK OF FnMergeSizeIsDistinctKeys.
-/
import Derived.Test.YouanwMergeLast
namespace Go.Proofs.Youanw
open Go.RowKit Go.Maps

/-- All the keys, in order: of the first k objects. -/
def keysTo (ks : List (Row ByteArray)) (k : Nat) : List ByteArray := (ks.take k).flatMap (·.l)

theorem keysTo_succ (ks : List (Row ByteArray)) (k : Nat) (r : Row ByteArray) (h : ks[k]? = some r) : keysTo ks (k + 1) = keysTo ks k ++ r.l := flat_succ _ ks k r h

theorem keysTo_len (ks : List (Row ByteArray)) (k : Nat) : (keysTo ks k).length = cnt ks k := by
  unfold keysTo cnt
  rw [List.length_flatMap]

theorem cnt_mono (ks : List (Row ByteArray)) {j k : Nat} (h : j ≤ k) : cnt ks j ≤ cnt ks k := by
  induction k with
  | zero => have : j = 0 := by omega
            subst this; exact Nat.le_refl _
  | succ k ih =>
    by_cases e : j = k + 1
    · subst e; exact Nat.le_refl _
    · refine Nat.le_trans (ih (by omega)) ?_
      cases hk : ks[k]? with
      | some r => rw [cnt_succ ks k r hk]; omega
      | none =>
        have := List.getElem?_eq_none_iff.1 hk
        unfold cnt
        rw [List.take_of_length_le (by omega), List.take_of_length_le (by omega)]
        exact Nat.le_refl _

theorem cnt_lists {ks ks' : List (Row ByteArray)} (h : ks'.map (·.l) = ks.map (·.l)) (k : Nat) : cnt ks' k = cnt ks k := by
  unfold cnt
  have e : ∀ l : List (Row ByteArray), l.map (fun r => r.l.length) = (l.map (·.l)).map List.length := fun l => by rw [List.map_map]; rfl
  have e2 : (ks'.take k).map (·.l) = (ks.take k).map (·.l) := by rw [List.map_take, List.map_take, h]
  rw [e, e, e2]

/-- The keys of the pairs are the keys. -/
theorem pairs_fst {ks : List (Row ByteArray)} {vs : List (Row Int)} (h : Shape ks vs) : (pairs ks vs).map (fun p => p.1.data.toList) = (keysTo ks ks.length).map (fun s => s.data.toList) := by
  have e1 : (pairs ks vs).map Prod.fst = keysTo ks ks.length := by
    unfold pairs keysTo
    rw [List.take_of_length_le (Nat.le_refl _), List.map_flatMap]
    have e2 : ∀ p ∈ List.zip ks vs, List.map Prod.fst (List.zip p.1.l p.2.l) = p.1.l := by
      intro p hp
      obtain ⟨i, hi⟩ := List.getElem?_of_mem hp
      have := List.getElem?_zip_eq_some.1 hi
      exact List.map_fst_zip (by have := h.2 i _ _ this.1 this.2; omega)
    rw [List.flatMap_def, List.map_congr_left e2]
    have e3 : (List.zip ks vs).map (fun p => p.1.l) = ks.map (·.l) := by
      have : (List.zip ks vs).map (fun p => p.1.l) = ((List.zip ks vs).map Prod.fst).map (·.l) := by rw [List.map_map]; rfl
      rw [this, List.map_fst_zip (by have := h.1; omega)]
    rw [e3, ← List.flatMap_def]
  rw [← e1, List.map_map]; rfl

/-- The different ones among the first a keys. -/
def ddTo (l : List ByteArray) (a : Nat) : Nat := (Mp.dd ((l.take a).map (fun s => s.data.toList))).length

theorem ddTo_le (l : List ByteArray) (a : Nat) : ddTo l a ≤ a := by
  unfold ddTo
  have h := Mp.dd_spec ((l.take a).map (fun s => s.data.toList))
  have := Mp.length_le_of h.1 (fun x hx => (h.2 x).1 hx)
  rw [List.length_map, List.length_take] at this
  omega

theorem ddTo_seen {l : List ByteArray} {a b : Nat} {u v : ByteArray} (ha : l[a]? = some u) (hb : l[b]? = some v) (hlt : b < a) (e : v.toList = u.toList) : ddTo l (a + 1) = ddTo l a := by
  have h1 := (List.getElem?_eq_some_iff.1 ha).1
  have h2 := (List.getElem?_eq_some_iff.1 ha).2
  unfold ddTo
  rw [List.take_succ_eq_append_getElem h1, h2, List.map_append, List.map_singleton, Mp.dd_snoc, if_pos]
  rw [(Mp.dd_spec _).2]
  refine List.mem_map.2 ⟨v, ?_, by rw [← ByteArray.toList_eq, ← ByteArray.toList_eq, e]⟩
  have : (l.take a)[b]? = some v := by rw [List.getElem?_take, if_pos hlt]; exact hb
  exact List.mem_of_getElem? this

theorem ddTo_new {l : List ByteArray} {a : Nat} {u : ByteArray} (ha : l[a]? = some u) (h : ∀ (b : Nat) (v : ByteArray), b < a → l[b]? = some v → v.toList ≠ u.toList) : ddTo l (a + 1) = ddTo l a + 1 := by
  have h1 := (List.getElem?_eq_some_iff.1 ha).1
  have h2 := (List.getElem?_eq_some_iff.1 ha).2
  unfold ddTo
  rw [List.take_succ_eq_append_getElem h1, h2, List.map_append, List.map_singleton, Mp.dd_snoc, if_neg]
  · simp
  · rw [(Mp.dd_spec _).2]
    intro hm
    obtain ⟨v, hv, e⟩ := List.mem_map.1 hm
    obtain ⟨b, hb⟩ := List.getElem?_of_mem hv
    rw [List.getElem?_take] at hb
    by_cases hlt : b < a
    · rw [if_pos hlt] at hb
      exact h b v hlt hb (by rw [ByteArray.toList_eq, ByteArray.toList_eq]; exact e)
    · rw [if_neg hlt] at hb; cases hb

theorem one_str (u : ByteArray) : ∀ v ∈ [Value.string u], v.oneCell' = true := by
  intro v hv; simp at hv; subst hv; rfl

set_option maxHeartbeats 400000 in
theorem mergeSize_big (a b : Option Addr) (n c m d : Nat) (ks : List (Row ByteArray)) (vs : List (Row Int)) (w : World) (hka : ks.length = n) (hva : vs.length = m) (hk : Grid Value.string w a ks) (hv : Grid (Value.int .i64) w b vs) (h : 4096 < n ∨ 4096 < m) :
    Calls Uang.prog 4 #[.slice a n c, .slice b m d] w fun e w' => e = .returned (.bool true) ∧ Below w.heap.size w w' := by
  by_cases h1 : 4096 < n
  all_goals
    go_enter Uang.func4, Uang.ntmps4
    go_wp2_with fail
    refine (bytes16_any a b n c m d ks vs _ hka hva hk hv).mono ?_
    rintro e w' ⟨⟨r, rfl⟩, rfl⟩
    cases r
    all_goals
      go_wp2
      go_ret
      exact ⟨rfl, Below.refl _ _⟩

set_option maxHeartbeats 2000000 in
set_option maxRecDepth 100000 in
theorem mergeSize_small (a b : Option Addr) (n c m d : Nat) (ks : List (Row ByteArray)) (vs : List (Row Int)) (w : World) (ha : a = none → n = 0 ∧ c = 0) (hb : b = none → m = 0 ∧ d = 0) (hka : ks.length = n) (hva : vs.length = m)
    (hk : Grid Value.string w a ks) (hv : Grid (Value.int .i64) w b vs) (hgk : ∀ r ∈ ks, ∀ s ∈ r.l, s.size ≤ maxLen) (h1 : n ≤ 4096) (h2 : m ≤ 4096) :
    Calls Uang.prog 4 #[.slice a n c, .slice b m d] w fun e w' => e = .returned (.bool true) ∧ Below w.heap.size w w' := by
  obtain ⟨i0, hi, hz0, hz1, hz2⟩ := info_parts Uang.info9
  go_enter Uang.func4, Uang.ntmps4
  go_wp2_with fail
  refine (bytes16_any a b n c m d ks vs _ hka hva hk hv).mono ?_
  rintro e w' ⟨⟨r, rfl⟩, rfl⟩
  cases r
  · go_wp2
    go_ret
    exact ⟨rfl, Below.refl _ _⟩
  go_wp2_with fail
  refine (mergeBytes_any a b n c m d ks vs _ hka hva hk hv h1 h2).mono ?_
  rintro e w' ⟨⟨t, rfl, ht0, ht1, hbd⟩, rfl⟩
  by_cases ht : 1048576 < t
  · go_wp2
    go_ret
    exact ⟨rfl, Below.refl _ _⟩
  have hbd' := hbd (by omega)
  have HB : Hid _ := hbd'
  clear hbd hbd'
  go_wp2_with fail
  refine (shape_any a b n c m d ks vs _ hka hva hk hv h1 h2).mono ?_
  rintro e w1 ⟨rfl | ⟨rfl, hsh⟩, hb1⟩
  · go_wp2
    go_ret
    exact ⟨rfl, hb1⟩
  have HSH : Hid (Shape ks vs) := hsh
  have hnm : n = m := by have := hsh.1; omega
  clear hsh
  subst hnm
  go_wp2_with fail
  refine (count_any a n c ks _ hka (hk.below hb1) h1 HB.out.1).mono ?_
  rintro e w' ⟨rfl, rfl⟩
  by_cases hC : 4096 < cnt ks n
  · go_wp2
    go_ret
    exact ⟨rfl, hb1⟩
  go_wp2_with fail
  refine (cloneRowsS_any a n c ks _ ha hka (hk.below hb1) h1 HB.out.1).mono ?_
  rintro e w2 ⟨a2, c2, ks2, rfl, hk2, hl2, hb2⟩
  go_wp2_with fail
  refine (cloneRowsI_any b n d vs _ hb hva ((hv.below hb1).below hb2) h1 HB.out.2).mono ?_
  rintro e w3 ⟨b3, d3, vs3, rfl, hv3, hl3, hb3⟩
  have hk3 := hk2.below hb3
  have hfin3 : Below w.heap.size w w3 := Below.next hb1 (Below.next hb2 hb3)
  have HSH2 : Hid (Shape ks2 vs3) := lists_shape hl2 hl3 HSH.out
  have HB2 : Hid (∀ r ∈ ks2, r.l.length ≤ 1048576) := lists_all (p := fun l => l.length ≤ 1048576) hl2 HB.out.1
  have HG2 : Hid (∀ r ∈ ks2, ∀ s ∈ r.l, s.size ≤ maxLen) := lists_all (α := ByteArray) (p := fun l => ∀ s ∈ l, s.size ≤ maxLen) hl2 hgk
  have hka2 : ks2.length = n := by rw [lists_len hl2]; exact hka
  have hva3 : vs3.length = n := by rw [lists_len hl3]; exact hva
  have hC2 : cnt ks2 n ≤ 4096 := by rw [cnt_lists hl2]; omega
  clear hk hv hk2 hl2 hl3 HB HSH hgk hka hva
  go_wp2_with fail
  refine (count_any a2 n c2 ks2 _ hka2 hk3 h1 HB2.out).mono ?_
  rintro e w' ⟨rfl, rfl⟩
  obtain ⟨C, hCC⟩ : ∃ C, C = cnt ks2 n := ⟨_, rfl⟩
  rw [← hCC] at hC2
  rw [← hCC]
  have HC : Hid (C = cnt ks2 n) := hCC
  clear hCC
  go_wp2_with (at_make; refine wpList_make_own _ rfl _ _ 29 rfl w3.heap.size 9 i0 (.string ByteArray.empty) 1 Uang.underlying29 hi hz0 hz1 .i64 .i64 _ C rfl rfl (by omega) (by rw [hz2]; omega) (by unfold maxLen; omega) (Nat.le_refl _) ?_; intro w0 hown0 hgrow0)
  go_loopw [5, 6] (fun v i wr => ∃ k : Nat, k ≤ n ∧ i = .int .i64 k ∧ v = .slice (some ⟨w3.heap.size, 0, none⟩) (keysTo ks2 k).length C ∧ wr.ownsRow w3.heap.size 9 1 (.slice (some ⟨w3.heap.size, 0, none⟩) (keysTo ks2 k).length C) (keysTo ks2 k).length ((keysTo ks2 k).map Value.string) ∧ Below w3.heap.size w3 wr) (fun _ i _ => n - (intOf i).toNat)
  case atStart => exact ⟨0, Nat.zero_le _, rfl, rfl, hown0, (Below.refl _ _).grown hgrow0 (Nat.le_refl _) (fun k hk => by cases hk)⟩
  case round =>
    obtain ⟨k, hkn, rfl, rfl, hown, hbel⟩ := hrel
    by_cases hlt : k < n
    · obtain ⟨b5, off5, ra, rc, rl, hxe, hr, _, hsr, _, _⟩ := hk3.row hbel (k := k) (by omega)
      cases hxe
      have hrl : rl.length ≤ 1048576 := HB2.out _ (List.mem_of_getElem? hr)
      have HK : Hid (keysTo ks2 (k + 1) = keysTo ks2 k ++ rl) := keysTo_succ ks2 k _ hr
      have hroom : (keysTo ks2 k).length + rl.length ≤ C := by
        have h1 := keysTo_len ks2 (k + 1)
        have h2 := cnt_mono ks2 (j := k + 1) (k := n) (by omega)
        rw [HK.out, List.length_append] at h1
        have := HC.out
        omega
      generalize keysTo ks2 k = F at *
      go_wp2
      go_loopw [5, 7] (fun v j wr => ∃ jj : Nat, jj ≤ rl.length ∧ j = .int .i64 jj ∧ v = .slice (some ⟨w3.heap.size, 0, none⟩) (F.length + jj) C ∧ wr.ownsRow w3.heap.size 9 1 (.slice (some ⟨w3.heap.size, 0, none⟩) (F.length + jj) C) (F.length + jj) ((F ++ rl.take jj).map Value.string) ∧ Below w3.heap.size w3 wr) (fun _ j _ => rl.length - (intOf j).toNat)
      case atStart => exact ⟨0, Nat.zero_le _, rfl, rfl, by simpa using hown, hbel⟩
      case round =>
        obtain ⟨jj, hjj, rfl, rfl, hown, hbel⟩ := hrel
        obtain ⟨b6, off6, ra', rc', rl', hxe, hr', hcr, _, _, _⟩ := hk3.row hbel (k := k) (by omega)
        cases hxe
        rw [hr] at hr'; cases hr'
        by_cases hlj : jj < rl.length
        · obtain ⟨b7, off7, u, hxe, hu, hcx⟩ := hsr.at_ hbel (k := jj) hlj
          cases hxe
          have HT : Hid ((F ++ rl.take jj).map Value.string ++ [Value.string u] = (F ++ rl.take (jj + 1)).map Value.string) := by
            show _ = _
            rw [List.take_succ_eq_append_getElem hlj, (List.getElem?_eq_some_iff.1 hu).2]; simp
          go_wp2_with (at_builtin; refine wpList_append_fits _ rfl _ _ 29 rfl w3.heap.size 9 i0 1 Uang.underlying29 hi hz1 w3.heap.size (F.length + jj) C _ rfl (hown.alloc _) ⟨wr.heap.size, 0, none⟩ 1 1 [.string u] rfl rfl (cell_one_new _ _ _) (one_str u) (by omega) ?_; intro w4 hown4 hgrow4)
          have hbel4 := (hbel.alloc hbel.size _).grown hgrow4 (by have := hbel.size; simp; omega) (fun j hj => by cases hj; exact Nat.le_refl _)
          rw [HT.out] at hown4
          go_roundw
          case rel => exact ⟨jj + 1, by omega, by go_num, by rw [Nat.add_assoc], by rw [← Nat.add_assoc]; exact hown4, hbel4⟩
          case measure => simp [intOf]; omega
        · obtain rfl : jj = rl.length := by omega
          rw [List.take_of_length_le (Nat.le_refl _)] at hown
          go_wp2
          go_roundw
          case rel => exact ⟨k + 1, by omega, by go_num, by rw [HK.out, List.length_append], by rw [HK.out, List.length_append]; exact hown, hbel⟩
          case measure => simp [intOf]; omega
    · obtain rfl : k = n := by omega
      have hz := Src.own hown
      have HD : Hid (((Mp.dd ((pairs ks2 vs3).map (fun p => p.1.data.toList))).length : Nat) = ddTo (keysTo ks2 k) (keysTo ks2 k).length) := by
        show _ = _
        unfold ddTo
        rw [pairs_fst HSH2.out, hka2, List.take_of_length_le (Nat.le_refl _)]
      have hFl : (keysTo ks2 k).length ≤ 4096 := by rw [keysTo_len]; have := HC.out; omega
      clear hown hown0 hgrow0
      generalize keysTo ks2 k = F at *
      go_wp2
      obtain ⟨wo, hwo⟩ : ∃ wo : World, wo = wr := ⟨_, rfl⟩
      subst hwo
      go_loopw [8, 9] (fun t i wr => ∃ aa : Nat, aa ≤ F.length ∧ i = .int .i64 aa ∧ t = .int .i64 (ddTo F aa : Nat) ∧ Below wo.heap.size wo wr) (fun _ i _ => F.length - (intOf i).toNat)
      case atStart => exact ⟨0, Nat.zero_le _, rfl, rfl, Below.refl _ _⟩
      case round =>
        obtain ⟨aa, haa, rfl, rfl, hbo⟩ := hrel
        have hdle := ddTo_le F aa
        by_cases hla : aa < F.length
        · obtain ⟨b8, off8, u, hxe, hu, _⟩ := hz.at_ hbo (k := aa) hla
          cases hxe
          go_wp2
          go_loopw [10, 11] (fun s j wj => ∃ bb : Nat, bb ≤ aa ∧ j = .int .i64 bb ∧ s = .bool false ∧ Below wo.heap.size wo wj ∧ ∀ (b : Nat) (v : ByteArray), b < bb → F[b]? = some v → v.toList ≠ u.toList) (fun _ j _ => aa - (intOf j).toNat)
          case atStart => exact ⟨0, Nat.zero_le _, rfl, rfl, hbo, fun b v hb => absurd hb (by omega)⟩
          case round =>
            obtain ⟨bb, hbb, rfl, rfl, hbj, hall⟩ := hrel
            by_cases hlb : bb < aa
            · obtain ⟨b9, off9, u', hxe, hu', hcu⟩ := hz.at_ hbj (k := aa) hla
              cases hxe
              obtain rfl : u' = u := by rw [hu] at hu'; cases hu'; rfl
              obtain ⟨b9, off9, v, hxe, hv, hcv⟩ := hz.at_ hbj (k := bb) (by omega)
              cases hxe
              rw [Nat.zero_add] at hcu hcv
              by_cases he : v.toList = u'.toList
              · have heq : (v.toList == u'.toList) = true := by simpa using he
                have HS : Hid (ddTo F (aa + 1) = ddTo F aa) := ddTo_seen hu hv hlb he
                clear hall hu' he
                go_wp2
                go_quiet (fail)
                go_wp2
                go_roundw
                case rel => exact ⟨aa + 1, by omega, by go_num, by rw [HS.out], below_drewN hbj _⟩
                case measure => simp [intOf]; omega
              · have heq : (v.toList == u'.toList) = false := by simpa using he
                have HA : Hid (∀ (b : Nat) (v : ByteArray), b < bb + 1 → F[b]? = some v → v.toList ≠ u'.toList) := by
                  intro b v' hb hv'
                  by_cases e : b < bb
                  · exact hall b v' e hv'
                  · have : b = bb := by omega
                    subst this; rw [hv] at hv'; cases hv'; exact he
                clear hall hu' he
                go_wp2
                go_quiet (fail)
                go_wp2
                go_roundw
                case rel => exact ⟨bb + 1, by omega, by go_num, rfl, below_drewN hbj _, HA.out⟩
                case measure => simp [intOf]; omega
            · have HS : Hid (ddTo F (aa + 1) = ddTo F aa + 1) := ddTo_new hu (fun b v hb hv => hall b v (by omega) hv)
              clear hall
              go_wp2
              go_roundw
              case rel => exact ⟨aa + 1, by omega, by go_num, by rw [HS.out]; go_num, hbj⟩
              case measure => simp [intOf]; omega
        · obtain rfl : aa = F.length := by omega
          have hko := (hk3.below hbel).below hbo
          have hvo := (hv3.below hbel).below hbo
          clear hz
          go_wp2_with fail
          refine (mergeGet_any a2 b3 k c2 d3 ks2 vs3 _ _ hka2 hva3 hko hvo HSH2.out h1 HB2.out HG2.out (Nat.zero_le _)).mono ?_
          rintro e w5 ⟨rfl, hb5⟩
          unfold getRes
          rw [HD.out]
          go_wp2
          go_ret
          exact ⟨by simp, Below.next hfin3 (Below.next hbel (Below.next hbo hb5))⟩

theorem mergeSize_any (a b : Option Addr) (n c m d : Nat) (ks : List (Row ByteArray)) (vs : List (Row Int)) (w : World) (ha : a = none → n = 0 ∧ c = 0) (hb : b = none → m = 0 ∧ d = 0) (hka : ks.length = n) (hva : vs.length = m)
    (hk : Grid Value.string w a ks) (hv : Grid (Value.int .i64) w b vs) (hgk : ∀ r ∈ ks, ∀ s ∈ r.l, s.size ≤ maxLen) :
    Calls Uang.prog 4 #[.slice a n c, .slice b m d] w fun e w' => e = .returned (.bool true) ∧ Below w.heap.size w w' := by
  by_cases h : 4096 < n ∨ 4096 < m
  · exact mergeSize_big a b n c m d ks vs w hka hva hk hv h
  · exact mergeSize_small a b n c m d ks vs w ha hb hka hva hk hv hgk (by omega) (by omega)

end Go.Proofs.Youanw

/-
  THE WALK OF FnMergeLastWriterWins.
-/
import Derived.Test.YouanwMergeGet
namespace Go.Proofs.Youanw
open Go.RowKit Go.Maps

/-! ### a copy has the same lists -/
section
variable {α : Type} {ks ks' : List (Row α)}

theorem lists_len (h : ks'.map (·.l) = ks.map (·.l)) : ks'.length = ks.length := by
  have := congrArg List.length h; simpa using this

theorem lists_at (h : ks'.map (·.l) = ks.map (·.l)) {i : Nat} {r' : Row α} (hr : ks'[i]? = some r') : ∃ r, ks[i]? = some r ∧ r.l = r'.l := by
  have h1 := congrArg (fun l => l[i]?) h
  simp only [List.getElem?_map, hr, Option.map_some] at h1
  cases hk : ks[i]? with
  | none => rw [hk] at h1; simp at h1
  | some r => rw [hk] at h1; simp at h1; exact ⟨r, rfl, h1.symm⟩

theorem lists_all {p : List α → Prop} (h : ks'.map (·.l) = ks.map (·.l)) (hp : ∀ r ∈ ks, p r.l) : ∀ r ∈ ks', p r.l := by
  intro r' hr'
  obtain ⟨i, hi⟩ := List.getElem?_of_mem hr'
  obtain ⟨r, hr, e⟩ := lists_at h hi
  rw [← e]; exact hp r (List.mem_of_getElem? hr)
end

theorem lists_shape {ks ks' : List (Row ByteArray)} {vs vs' : List (Row Int)} (h : ks'.map (·.l) = ks.map (·.l)) (h' : vs'.map (·.l) = vs.map (·.l)) (hs : Shape ks vs) : Shape ks' vs' := by
  refine ⟨by rw [lists_len h, lists_len h']; exact hs.1, fun i kr vr hk hv => ?_⟩
  obtain ⟨r, hr, e⟩ := lists_at h hk
  obtain ⟨s, hs', e'⟩ := lists_at h' hv
  rw [← e, ← e']; exact hs.2 i r s hr hs'

/-! ### the last one, searched from behind -/

/-- No entry of the objects from k on has the key q. -/
def NoQ (ks : List (Row ByteArray)) (vs : List (Row Int)) (q : ByteArray) (k : Nat) : Prop := ∀ p ∈ ((List.zip ks vs).drop k).flatMap (fun p => List.zip p.1.l p.2.l), p.1 ≠ q

theorem noQ_all (ks : List (Row ByteArray)) (vs : List (Row Int)) (q : ByteArray) : NoQ ks vs q ks.length := by
  intro p hp
  rw [List.drop_eq_nil_of_le (by simp; omega)] at hp
  simp at hp

theorem noQ_none {ks : List (Row ByteArray)} {vs : List (Row Int)} {q : ByteArray} (h : NoQ ks vs q 0) : Mp.vl (pairs ks vs) (Mp.lk q) = none :=
  Mp.vl_none (fun p hp e => h p hp (Mp.lk_inj e))

theorem zip_drop {ks : List (Row ByteArray)} {vs : List (Row Int)} {k : Nat} {kr : Row ByteArray} {vr : Row Int} (hk : ks[k]? = some kr) (hv : vs[k]? = some vr) : (List.zip ks vs).drop k = (kr, vr) :: (List.zip ks vs).drop (k + 1) := by
  have hz : (List.zip ks vs)[k]? = some (kr, vr) := by rw [List.getElem?_zip_eq_some]; exact ⟨hk, hv⟩
  have h1 := (List.getElem?_eq_some_iff.1 hz).1
  have h2 := (List.getElem?_eq_some_iff.1 hz).2
  rw [List.drop_eq_getElem_cons h1, h2]

theorem noQ_step {ks : List (Row ByteArray)} {vs : List (Row Int)} {q : ByteArray} {k : Nat} {kr : Row ByteArray} {vr : Row Int} (h : NoQ ks vs q (k + 1)) (hk : ks[k]? = some kr) (hv : vs[k]? = some vr) (hrow : ∀ p ∈ List.zip kr.l vr.l, p.1 ≠ q) : NoQ ks vs q k := by
  intro p hp
  rw [zip_drop hk hv, List.flatMap_cons] at hp
  rcases List.mem_append.1 hp with hp | hp
  · exact hrow p hp
  · exact h p hp

theorem hit {ks : List (Row ByteArray)} {vs : List (Row Int)} {q : ByteArray} {k j : Nat} {kr : Row ByteArray} {vr : Row Int} (h : NoQ ks vs q (k + 1)) (hk : ks[k]? = some kr) (hv : vs[k]? = some vr) (hrow : ∀ p ∈ (List.zip kr.l vr.l).drop (j + 1), p.1 ≠ q)
    {x : Int} (hs : kr.l[j]? = some q) (hx : vr.l[j]? = some x) : Mp.vl (pairs ks vs) (Mp.lk q) = some x := by
  have hz : (List.zip kr.l vr.l)[j]? = some (q, x) := by rw [List.getElem?_zip_eq_some]; exact ⟨hs, hx⟩
  have h1 := (List.getElem?_eq_some_iff.1 hz).1
  have h2 := (List.getElem?_eq_some_iff.1 hz).2
  have e : pairs ks vs = (((List.zip ks vs).take k).flatMap (fun p => List.zip p.1.l p.2.l) ++ (List.zip kr.l vr.l).take j) ++ ([(q, x)] ++ ((List.zip kr.l vr.l).drop (j + 1) ++ ((List.zip ks vs).drop (k + 1)).flatMap (fun p => List.zip p.1.l p.2.l))) := by
    unfold pairs
    conv => lhs; rw [← List.take_append_drop k (List.zip ks vs)]
    rw [List.flatMap_append, zip_drop hk hv, List.flatMap_cons]
    conv => lhs; rw [← List.take_append_drop j (List.zip kr.l vr.l)]
    rw [List.drop_eq_getElem_cons h1, h2]
    simp
  rw [e, Mp.vl_append, Mp.vl_append [(q, x)], Mp.vl_append, Mp.vl_none (P := ((List.zip ks vs).drop (k + 1)).flatMap (fun p => List.zip p.1.l p.2.l)) (fun p hp e => h p hp (Mp.lk_inj e)),
    Mp.vl_none (P := (List.zip kr.l vr.l).drop (j + 1)) (fun p hp e => hrow p hp (Mp.lk_inj e)), Mp.vl_one, WideAt.sameKey_self (Mp.lk_key q)]
  rfl

set_option maxHeartbeats 400000 in
theorem mergeLast_big (a b : Option Addr) (n c m d : Nat) (q : ByteArray) (ks : List (Row ByteArray)) (vs : List (Row Int)) (w : World) (hka : ks.length = n) (hva : vs.length = m) (hk : Grid Value.string w a ks) (hv : Grid (Value.int .i64) w b vs) (h : 4096 < n ∨ 4096 < m ∨ 65536 < q.size) :
    Calls Uang.prog 3 #[.slice a n c, .slice b m d, .string q] w fun e w' => e = .returned (.bool true) ∧ Below w.heap.size w w' := by
  by_cases h1 : 4096 < n
  · go_enter Uang.func3, Uang.ntmps3
    go_wp2_with fail
    refine (bytes10_any a b n c m d q ks vs _ hka hva hk hv).mono ?_
    rintro e w' ⟨⟨r, rfl⟩, rfl⟩
    cases r
    all_goals
      go_wp2
      go_ret
      exact ⟨rfl, Below.refl _ _⟩
  · by_cases h2 : 4096 < m
    · go_enter Uang.func3, Uang.ntmps3
      go_wp2_with fail
      refine (bytes10_any a b n c m d q ks vs _ hka hva hk hv).mono ?_
      rintro e w' ⟨⟨r, rfl⟩, rfl⟩
      cases r
      all_goals
        go_wp2
        go_ret
        exact ⟨rfl, Below.refl _ _⟩
    · have h3 : 65536 < q.size := by omega
      go_enter Uang.func3, Uang.ntmps3
      go_wp2_with fail
      refine (bytes10_any a b n c m d q ks vs _ hka hva hk hv).mono ?_
      rintro e w' ⟨⟨r, rfl⟩, rfl⟩
      cases r
      all_goals
        go_wp2
        go_ret
        exact ⟨rfl, Below.refl _ _⟩

set_option maxHeartbeats 1000000 in
set_option maxRecDepth 100000 in
theorem mergeLast_small (a b : Option Addr) (n c m d : Nat) (q : ByteArray) (ks : List (Row ByteArray)) (vs : List (Row Int)) (w : World) (ha : a = none → n = 0 ∧ c = 0) (hb : b = none → m = 0 ∧ d = 0) (hka : ks.length = n) (hva : vs.length = m)
    (hk : Grid Value.string w a ks) (hv : Grid (Value.int .i64) w b vs) (hgk : ∀ r ∈ ks, ∀ s ∈ r.l, s.size ≤ maxLen) (hq : q.size ≤ maxLen) (h1 : n ≤ 4096) (h2 : m ≤ 4096) (h3 : q.size ≤ 65536) :
    Calls Uang.prog 3 #[.slice a n c, .slice b m d, .string q] w fun e w' => e = .returned (.bool true) ∧ Below w.heap.size w w' := by
  go_enter Uang.func3, Uang.ntmps3
  go_wp2_with fail
  refine (bytes10_any a b n c m d q ks vs _ hka hva hk hv).mono ?_
  rintro e w' ⟨⟨r, rfl⟩, rfl⟩
  cases r
  · go_wp2
    go_ret
    exact ⟨rfl, Below.refl _ _⟩
  go_wp2_with fail
  refine (mergeBytes_any a b n c m d ks vs _ hka hva hk hv h1 h2).mono ?_
  rintro e w' ⟨⟨t, rfl, ht0, ht1, hbd⟩, rfl⟩
  by_cases ht : 1048576 - (q.size : Int) < t
  · go_wp2
    go_ret
    exact ⟨rfl, Below.refl _ _⟩
  have hbd' := hbd (by omega)
  have HB : Hid _ := hbd'
  clear hbd hbd'
  go_wp2_with fail
  refine (shape_any a b n c m d ks vs _ hka hva hk hv h1 h2).mono ?_
  rintro e w1 ⟨rfl | ⟨rfl, hsh⟩, hb1⟩
  · go_wp2
    go_ret
    exact ⟨rfl, hb1⟩
  have HSH : Hid (Shape ks vs) := hsh
  have hnm : n = m := by have := hsh.1; omega
  clear hsh
  subst hnm
  go_wp2_with fail
  refine (cloneRowsS_any a n c ks _ ha hka (hk.below hb1) h1 HB.out.1).mono ?_
  rintro e w2 ⟨a2, c2, ks2, rfl, hk2, hl2, hb2⟩
  go_wp2_with fail
  refine (cloneRowsI_any b n d vs _ hb hva ((hv.below hb1).below hb2) h1 HB.out.2).mono ?_
  rintro e w3 ⟨b3, d3, vs3, rfl, hv3, hl3, hb3⟩
  have hk3 := hk2.below hb3
  have hfin3 : Below w.heap.size w w3 := Below.next hb1 (Below.next hb2 hb3)
  have HSH2 : Hid (Shape ks2 vs3) := lists_shape hl2 hl3 HSH.out
  have HB2 : Hid (∀ r ∈ ks2, r.l.length ≤ 1048576) := lists_all (p := fun l => l.length ≤ 1048576) hl2 HB.out.1
  have HG2 : Hid (∀ r ∈ ks2, ∀ s ∈ r.l, s.size ≤ maxLen) := lists_all (α := ByteArray) (p := fun l => ∀ s ∈ l, s.size ≤ maxLen) hl2 hgk
  have hka2 : ks2.length = n := by rw [lists_len hl2]; exact hka
  have hva3 : vs3.length = n := by rw [lists_len hl3]; exact hva
  clear hk hv hk2 hl2 hl3 HB HSH hgk hka hva
  go_wp2
  go_loop [7, 8, 9] (fun f t i => ∃ k : Nat, k ≤ n ∧ i = .int .i64 ((k : Int) - 1) ∧ ((f = .bool false ∧ t = .int .i64 0 ∧ NoQ ks2 vs3 q k) ∨ (f = .bool true ∧ ∃ x, t = .int .i64 x ∧ Mp.vl (pairs ks2 vs3) (Mp.lk q) = some x))) (fun _ _ i => ((intOf i) + 1).toNat)
  case atStart => exact ⟨n, Nat.le_refl _, rfl, .inl ⟨rfl, rfl, by rw [← hka2]; exact noQ_all _ _ _⟩⟩
  case round =>
    obtain ⟨k, hkn, rfl, ⟨rfl, rfl, hno⟩ | ⟨rfl, x, rfl, hvl⟩⟩ := hrel
    · cases k with
      | zero =>
        have HN : Hid (Mp.vl (pairs ks2 vs3) (Mp.lk q) = none) := noQ_none hno
        clear hno
        go_wp2_with fail
        refine (mergeGet_any a2 b3 n c2 d3 ks2 vs3 q _ hka2 hva3 hk3 hv3 HSH2.out h1 HB2.out HG2.out hq).mono ?_
        rintro e w4 ⟨rfl, hb4⟩
        have hg : getRes (pairs ks2 vs3) q = .tuple #[.int .i64 0, .bool false, .int .i64 ((Mp.dd ((pairs ks2 vs3).map (fun p => p.1.data.toList))).length : Nat)] := by
          unfold getRes; rw [HN.out]; rfl
        rw [hg]
        clear hg
        go_wp2
        go_ret
        exact ⟨rfl, Below.next hfin3 hb4⟩
      | succ k =>
        rw [show (((k + 1 : Nat) : Int) - 1) = (k : Int) from by omega]
        obtain ⟨b5, off5, ra, rc, rl, hxe, hr, hcr, hsr, _, _⟩ := hk3.row (Below.refl _ _) (k := k) (by omega)
        cases hxe
        obtain ⟨b6, off6, qa, qc, ql, hxe, hqr, hcq, hsq, _, _⟩ := hv3.row (Below.refl _ _) (k := k) (by omega)
        cases hxe
        have HL : Hid (rl.length = ql.length) := HSH2.out.2 k _ _ hr hqr
        have hrl : rl.length ≤ 1048576 := HB2.out _ (List.mem_of_getElem? hr)
        have HNO : Hid (NoQ ks2 vs3 q (k + 1)) := hno
        clear hno
        go_wp2
        go_loop [7, 8, 10] (fun f t j => ∃ jj : Nat, jj ≤ rl.length ∧ j = .int .i64 ((jj : Int) - 1) ∧ ((f = .bool false ∧ t = .int .i64 0 ∧ ∀ p ∈ (List.zip rl ql).drop jj, p.1 ≠ q) ∨ (f = .bool true ∧ ∃ x, t = .int .i64 x ∧ Mp.vl (pairs ks2 vs3) (Mp.lk q) = some x))) (fun _ _ j => ((intOf j) + 1).toNat)
        case atStart => exact ⟨rl.length, Nat.le_refl _, rfl, .inl ⟨rfl, rfl, fun p hp => by rw [List.drop_eq_nil_of_le (by simp; omega)] at hp; simp at hp⟩⟩
        case round =>
          obtain ⟨jj, hjj, rfl, ⟨rfl, rfl, hnr⟩ | ⟨rfl, x, rfl, hvl⟩⟩ := hrel
          · cases jj with
            | zero =>
              have HS : Hid (NoQ ks2 vs3 q k) := noQ_step HNO.out hr hqr (by simpa using hnr)
              clear hnr
              go_wp2
              go_round
              case rel => exact ⟨k, by omega, rfl, .inl ⟨rfl, rfl, HS.out⟩⟩
              case measure => simp [intOf]
            | succ jj =>
              rw [show (((jj + 1 : Nat) : Int) - 1) = (jj : Int) from by omega]
              have hlq : jj < ql.length := by have := HL.out; omega
              obtain ⟨b7, off7, s, hxe, hs, hcs⟩ := hsr.at_ (Below.refl _ _) (k := jj) (by omega)
              cases hxe
              obtain ⟨b8, off8, x, hxe, hx, hcx⟩ := hsq.at_ (Below.refl _ _) (k := jj) hlq
              cases hxe
              by_cases hsq2 : s.toList = q.toList
              · obtain rfl := St.toList_inj hsq2
                have HV : Hid (Mp.vl (pairs ks2 vs3) (Mp.lk s) = some x) := hit HNO.out hr hqr hnr hs hx
                have heq : (s.toList == s.toList) = true := by simp
                clear hnr hsq2
                go_wp2
                go_round
                case rel => exact ⟨jj, by omega, rfl, .inr ⟨rfl, x, rfl, HV.out⟩⟩
                case measure => simp [intOf]
              · have heq : (s.toList == q.toList) = false := by simpa using hsq2
                have HN2 : Hid (∀ p ∈ (List.zip rl ql).drop jj, p.1 ≠ q) := by
                  intro p hp
                  have hz : (List.zip rl ql)[jj]? = some (s, x) := by rw [List.getElem?_zip_eq_some]; exact ⟨hs, hx⟩
                  rw [List.drop_eq_getElem_cons (List.getElem?_eq_some_iff.1 hz).1, (List.getElem?_eq_some_iff.1 hz).2] at hp
                  rcases List.mem_cons.1 hp with rfl | hp
                  · intro e; exact hsq2 (by rw [← e])
                  · exact hnr p hp
                clear hnr hsq2
                go_wp2
                go_round
                case rel => exact ⟨jj, by omega, rfl, .inl ⟨rfl, rfl, HN2.out⟩⟩
                case measure => simp [intOf]
          · have HV : Hid (Mp.vl (pairs ks2 vs3) (Mp.lk q) = some x) := hvl
            clear hvl
            by_cases hj0 : 0 ≤ (jj : Int) - 1
            all_goals
              go_wp2
              go_round
              case rel => exact ⟨k, by omega, rfl, .inr ⟨rfl, x, rfl, HV.out⟩⟩
              case measure => simp [intOf]
    · have HV : Hid (Mp.vl (pairs ks2 vs3) (Mp.lk q) = some x) := hvl
      clear hvl
      by_cases hj0 : 0 ≤ (k : Int) - 1
      all_goals
        go_wp2_with fail
        refine (mergeGet_any a2 b3 n c2 d3 ks2 vs3 q _ hka2 hva3 hk3 hv3 HSH2.out h1 HB2.out HG2.out hq).mono ?_
        rintro e w4 ⟨rfl, hb4⟩
        have hg : getRes (pairs ks2 vs3) q = .tuple #[.int .i64 x, .bool true, .int .i64 ((Mp.dd ((pairs ks2 vs3).map (fun p => p.1.data.toList))).length : Nat)] := by
          unfold getRes; rw [HV.out]; rfl
        rw [hg]
        clear hg
        go_wp2
        go_ret
        exact ⟨by simp, Below.next hfin3 hb4⟩

theorem mergeLast_any (a b : Option Addr) (n c m d : Nat) (q : ByteArray) (ks : List (Row ByteArray)) (vs : List (Row Int)) (w : World) (ha : a = none → n = 0 ∧ c = 0) (hb : b = none → m = 0 ∧ d = 0) (hka : ks.length = n) (hva : vs.length = m)
    (hk : Grid Value.string w a ks) (hv : Grid (Value.int .i64) w b vs) (hgk : ∀ r ∈ ks, ∀ s ∈ r.l, s.size ≤ maxLen) (hq : q.size ≤ maxLen) :
    Calls Uang.prog 3 #[.slice a n c, .slice b m d, .string q] w fun e w' => e = .returned (.bool true) ∧ Below w.heap.size w w' := by
  by_cases h : 4096 < n ∨ 4096 < m ∨ 65536 < q.size
  · exact mergeLast_big a b n c m d q ks vs w hka hva hk hv h
  · exact mergeLast_small a b n c m d q ks vs w ha hb hka hva hk hv hgk hq (by omega) (by omega) (by omega)

end Go.Proofs.Youanw

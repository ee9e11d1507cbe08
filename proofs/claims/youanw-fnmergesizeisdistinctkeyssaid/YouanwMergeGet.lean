/-
  THE WALK OF ZZb7MergeGet.
-/
import Derived.Test.YouanwMerge
import Derived.Test.YouanwMeasure
import Derived.Test.YouanwCopies
import Derived.RegionTactic
import Derived.BigRegion
namespace Go.Proofs.Youanw
open Go.RowKit Go.Maps
attribute [local go_sem] as54f as2f

/-- The entries of all the objects, in order. -/
def pairs (ks : List (Row ByteArray)) (vs : List (Row Int)) : List (ByteArray × Int) := (List.zip ks vs).flatMap (fun p => List.zip p.1.l p.2.l)

/-- The first k objects have been built: 'zs' is what lies at block B. -/
structure Built (B : Nat) (w : World) (ks : List (Row ByteArray)) (vs : List (Row Int)) (k : Nat) (zs : List Value) (ms : List Mo) : Prop where
  vals : zs.take k = ms.map Mo.val
  same : ms.map (·.Q) = ((List.zip ks vs).take k).map (fun p => List.zip p.1.l p.2.l)
  len : ms.length = k
  ok : ∀ m ∈ ms, m.Ok w 1048576
  far : ∀ m ∈ ms, B < m.b

theorem Built.start (B : Nat) (w : World) (ks : List (Row ByteArray)) (vs : List (Row Int)) (zs : List Value) : Built B w ks vs 0 zs [] :=
  ⟨by simp, by simp, rfl, by simp, by simp⟩

theorem Built.below {B : Nat} {w w' : World} {ks : List (Row ByteArray)} {vs : List (Row Int)} {k : Nat} {zs : List Value} {ms : List Mo} (h : Built B w ks vs k zs ms) (hb : Below w.heap.size w w') : Built B w' ks vs k zs ms :=
  ⟨h.vals, h.same, h.len, fun m hm => ⟨map_below (h.ok m hm).1 hb (h.ok m hm).1.lt, (h.ok m hm).2⟩, h.far⟩

theorem Built.store {B : Nat} {w : World} {ks : List (Row ByteArray)} {vs : List (Row Int)} {k : Nat} {zs : List Value} {ms : List Mo} (h : Built B w ks vs k zs ms) {kr : Row ByteArray} {vr : Row Int} (hk : ks[k]? = some kr) (hv : vs[k]? = some vr)
    {n : Nat} (hz : zs.length = n * 1) (hkn : k < n) {m : Mo} (hm : m.Ok w 1048576) (hQ : m.Q = List.zip kr.l vr.l) (hB : B < m.b) :
    Built B (w.setCell ⟨B, k, none⟩ m.val) ks vs (k + 1) (zs.set k m.val) (ms ++ [m]) := by
  refine ⟨?_, ?_, by simp [h.len], fun q hq => ?_, fun q hq => ?_⟩
  · rw [List.take_succ_eq_append_getElem (by simp; omega), List.getElem_set_self, List.take_set_of_le (Nat.le_refl _), h.vals]; simp
  · have hz : (List.zip ks vs)[k]? = some (kr, vr) := by rw [List.getElem?_zip_eq_some]; exact ⟨hk, hv⟩
    have hk' := (List.getElem?_eq_some_iff.1 hz).1
    have e := (List.getElem?_eq_some_iff.1 hz).2
    rw [List.take_succ_eq_append_getElem hk', e, List.map_append, List.map_append, h.same]; simp [hQ]
  · rcases List.mem_append.1 hq with hq | hq
    · exact ⟨(h.ok q hq).1.setCell (by have := h.far q hq; show q.b ≠ B; omega) _, (h.ok q hq).2⟩
    · simp at hq; subst hq; exact ⟨hm.1.setCell (by show q.b ≠ B; omega) _, hm.2⟩
  · rcases List.mem_append.1 hq with hq | hq
    · exact h.far q hq
    · simp at hq; subst hq; exact hB

theorem Built.pairs_eq {B : Nat} {w : World} {ks : List (Row ByteArray)} {vs : List (Row Int)} {k : Nat} {zs : List Value} {ms : List Mo} (h : Built B w ks vs k zs ms) (hk : ks.length ≤ k) : ms.flatMap (·.Q) = pairs ks vs := by
  have hs := h.same
  rw [List.take_of_length_le (by simp; omega)] at hs
  unfold pairs
  rw [List.flatMap_def, List.flatMap_def, hs]

/-- An owned row below the mark stays. -/
theorem own_under {w w' : World} {base e : Nat} {g n cap B : Nat} {xs : List Value} (h : w.ownsRow base e 1 (.slice (some ⟨g, 0, none⟩) n cap) n xs) (hb : Below B w w') (hg : g < B) :
    w'.ownsRow base e 1 (.slice (some ⟨g, 0, none⟩) n cap) n xs := by
  refine ⟨h.1, ?_⟩
  rcases h.2 with ⟨h', _⟩ | ⟨g', cap', cur, h', r1, hh, r2⟩
  · cases h'
  · cases h'
    exact .inr ⟨g, cap, cur, rfl, r1, (hb.block g hg).trans hh, r2⟩

/-- What ZZb7MergeGet hands back: the last value at q (0 where there is none), whether q is there, how many different keys there are. -/
def getRes (P : List (ByteArray × Int)) (q : ByteArray) : Value :=
  .tuple #[.int .i64 ((Mp.vl P (Mp.lk q)).getD 0), .bool (Mp.vl P (Mp.lk q)).isSome, .int .i64 ((Mp.dd (P.map (fun p => p.1.data.toList))).length : Nat)]

theorem zero20 (w : World) : (zeroValue 20).run Uang.prog w = .ok .nilIface w := by kernel_rfl

/-- The look-up at q, and the length, on the merged map. -/
theorem look_at {w : World} {F nn : Nat} {M : DataW Unit} {P : List (ByteArray × Int)} (h : w.ownsMap Uang.prog 9 RI F nn M) (hM : Mp.Holds M P) {q : ByteArray} (hq : q.size ≤ maxLen) :
    (∃ v, (Instr.lookup 54 (.map (some F)) (.string q) true).run Uang.prog w = .ok (.tuple #[v, .bool (Mp.vl P (Mp.lk q)).isSome]) w ∧ ∀ x, Mp.vl P (Mp.lk q) = some x → v = .iface 2 (.int .i64 x)) ∧
    ∀ (nq : Nat) (ty : TypeId), (Builtin.len_ #[54] ty #[.map (some F)]).run Uang.prog (w.drewN nq) = .ok (.int .i64 ((Mp.dd (P.map (fun p => p.1.data.toList))).length : Nat)) (w.drewN nq) := by
  have hkey : keyOf Uang.prog 9 (.string q) = some (Mp.lk q) := Go.WideMaps.keyOf_string_mk Uang.underlying9 hq
  obtain ⟨v, ps, hrun, hv⟩ := h.look_ok law9 Uang.underlying54 (zero20 w) RI_nil hkey
  refine ⟨⟨v, by rw [(hM.2 (Mp.lk q)).1] at hrun; exact hrun, fun x hx => ?_⟩, fun nq ty => ?_⟩
  · rw [(hM.2 (Mp.lk q)).2, hx] at hv
    exact RI_inv hv
  · have h' : (w.drewN nq).ownsMap Uang.prog 9 RI F nn M := h
    rw [h'.len Uang.underlying54 ty, Mp.size_holds hM (h.entries law9)]

set_option maxHeartbeats 2000000 in
set_option maxRecDepth 100000 in
theorem mergeGet_any (a b : Option Addr) (n c d : Nat) (ks : List (Row ByteArray)) (vs : List (Row Int)) (q : ByteArray) (w : World) (hka : ks.length = n) (hva : vs.length = n) (hk : Grid Value.string w a ks) (hv : Grid (Value.int .i64) w b vs)
    (hsh : Shape ks vs) (hn : n ≤ 4096) (hb : ∀ r ∈ ks, r.l.length ≤ 1048576) (hgk : ∀ r ∈ ks, ∀ s ∈ r.l, s.size ≤ maxLen) (hq : q.size ≤ maxLen) :
    Calls Uang.prog 15 #[.slice a n c, .slice b n d, .string q] w fun e w' => e = .returned (getRes (pairs ks vs) q) ∧ Below w.heap.size w w' := by
  have hmm := @run_makeMap Uang.prog
  obtain ⟨i0, hi, hz0, hz1, hz2⟩ := info_parts Uang.info20
  go_enter Uang.func15, Uang.ntmps15
  go_wp2_with (at_make; refine wpList_make_full _ rfl _ _ 53 rfl w.heap.size 20 i0 .nilIface 1 Uang.underlying53 hi hz0 hz1 .i64 .i64 _ _ n rfl rfl (by omega) (by omega) (by rw [hz2]; omega) (by unfold maxLen; omega) (Nat.le_refl _) ?_; intro w0 hown0 hgrow0)
  go_loopw [10] (fun i wr => ∃ (k : Nat) (zs : List Value) (ms : List Mo), k ≤ n ∧ i = .int .i64 k ∧ wr.ownsRow w.heap.size 20 1 (.slice (some ⟨w.heap.size, 0, none⟩) n n) n zs ∧ Built w.heap.size wr ks vs k zs ms ∧ Below w.heap.size w wr) (fun i _ => n - (intOf i).toNat)
  case atStart => exact ⟨0, _, [], Nat.zero_le _, rfl, hown0, Built.start _ _ _ _ _, (Below.refl _ _).grown hgrow0 (Nat.le_refl _) (fun k hk => by cases hk)⟩
  case round =>
    obtain ⟨k, zs, ms, hkn, rfl, hown, hblt, hbel⟩ := hrel
    obtain ⟨wo, hwo⟩ : ∃ wo : World, wo = wr := ⟨_, rfl⟩
    subst hwo
    by_cases hlt : k < n
    · obtain ⟨b1, off1, ra, rc, rl, hxe, hr, _, hsr, _, _⟩ := hk.row hbel (k := k) (by omega)
      cases hxe
      obtain ⟨b2, off2, qa, qc, ql, hxe, hql, _, hsq, _, _⟩ := hv.row hbel (k := k) (by omega)
      cases hxe
      have hlen : rl.length = ql.length := hsh.2 k _ _ hr hql
      have hrl : rl.length ≤ 1048576 := hb _ (List.mem_of_getElem? hr)
      have hgr := hgk _ (List.mem_of_getElem? hr)
      have hBlt : w.heap.size < wo.heap.size := (hown.lt _ rfl).2
      have HL : Hid (rl.length = ql.length) := hlen
      clear hlen
      obtain ⟨bm, hbm⟩ : ∃ bm, bm = wo.heap.size := ⟨_, rfl⟩
      have hmade : (wo.alloc (.map #[] 0)).ownsMap Uang.prog 9 RI bm 0 (.map []) := by subst hbm; exact World.ownsMap_made _ _ _ _
      have hbel0 : Below bm wo (wo.alloc (.map #[] 0)) := by subst hbm; exact (Below.refl _ _).alloc (Nat.le_refl _) _
      have HBM : Hid (bm = wo.heap.size) := hbm
      clear hbm
      go_wp2
      rw [← HBM.out]
      go_loopw [12] (fun j wj => ∃ (jj : Nat) (D : DataW Unit), jj ≤ rl.length ∧ j = .int .i64 jj ∧ wj.ownsMap Uang.prog 9 RI bm jj D ∧ Mp.Holds D ((List.zip rl ql).take jj) ∧ Below bm wo wj) (fun j _ => rl.length - (intOf j).toNat)
      case atStart => exact ⟨0, .map [], Nat.zero_le _, rfl, hmade, Mp.holds_start, hbel0⟩
      case round =>
        obtain ⟨jj, D, hjj, rfl, hmo, hH, hbj⟩ := hrel
        have hbm := HBM.out
        have hbw : Below w.heap.size w wr := hbel.trans (hbj.mono (by omega))
        have hbmlt : w.heap.size < bm := by omega
        clear hbm
        obtain ⟨b3, off3, ra', rc', rl', hxe, hr', hcr, _, _, _⟩ := hk.row hbw (k := k) (by omega)
        cases hxe
        rw [hr] at hr'; cases hr'
        obtain ⟨b4, off4, qa', qc', ql', hxe, hql', hcq, _, _, _⟩ := hv.row hbw (k := k) (by omega)
        cases hxe
        rw [hql] at hql'; cases hql'
        by_cases hlj : jj < rl.length
        · have hlq : jj < ql.length := by have := HL.out; omega
          obtain ⟨b5, off5, s, hxe, hs, hcs⟩ := hsr.at_ hbw (k := jj) hlj
          cases hxe
          obtain ⟨b6, off6, x, hxe, hx, hcx⟩ := hsq.at_ hbw (k := jj) hlq
          cases hxe
          have hkey : keyOf Uang.prog 9 (.string s) = some (Mp.lk s) := Go.WideMaps.keyOf_string_mk Uang.underlying9 (hgr s (List.mem_of_getElem? hs))
          obtain ⟨w1, hrun, hmo1, hg1⟩ := hmo.drew.update law9 Uang.underlying54 (by unfold maxLen; omega) hkey (RI_int x)
          have HH : Hid (Mp.Holds (D.put (Mp.lk s) (.lit (.int .i64 x))) ((List.zip rl ql).take (jj + 1))) := by
            have hz : (List.zip rl ql)[jj]? = some (s, x) := by rw [List.getElem?_zip_eq_some]; exact ⟨hs, hx⟩
            have hz1 := (List.getElem?_eq_some_iff.1 hz).1
            have hz2 := (List.getElem?_eq_some_iff.1 hz).2
            show Mp.Holds _ _
            rw [List.take_succ_eq_append_getElem hz1, hz2]
            exact Mp.holds_put hH s x
          have hbj1 : Below bm wo w1 := hbj.drew.grown hg1 (by have := hmo.lt; show bm ≤ wr.heap.size; omega) (fun j hj => by cases hj; exact Nat.le_refl _)
          clear hkey hH hbw hk hv hsr hsq hown hblt hbel hmade hbel0 hown0 hgrow0 hmm
          go_wp2
          go_region
          go_wp2
          go_roundw
          case rel => exact ⟨jj + 1, _, by omega, by go_num, hmo1, HH.out, hbj1⟩
          case measure => simp [intOf]; omega
        · obtain rfl : jj = rl.length := by omega
          have HZ : Hid (Mp.Holds D (List.zip rl ql)) := by
            rw [List.take_of_length_le (by simp; omega)] at hH; exact hH
          have hownj := own_under hown hbj hbmlt
          obtain ⟨z, hcy⟩ := own_at hownj hlt
          have hfy : wr.frozen? ⟨w.heap.size, k, none⟩ = false := hownj.frozenAt k
          have hblj := hblt.below (HBM.out ▸ hbj)
          have R := hblj.store hr hql hownj.1 hlt (m := ⟨bm, D, List.zip rl ql⟩) ⟨hmo.mono hrl, HZ.out⟩ rfl hbmlt
          have hown2 := (hownj.stored k (Mo.val ⟨bm, D, List.zip rl ql⟩)).1
          have hbel2 := hbw.setCell (p := ⟨w.heap.size, k, none⟩) (Nat.le_refl _) (Mo.val ⟨bm, D, List.zip rl ql⟩)
          clear hH hbw hk hv hsr hsq hown hblt hbel hmade hbel0 hown0 hgrow0 hmm hownj hblj hbj hmo
          go_wp2
          go_roundw
          case rel => exact ⟨k + 1, _, _, by omega, by go_num, hown2, R, hbel2⟩
          case measure => simp [intOf]; omega
    · obtain rfl : k = n := by omega
      have hsrc : Src wo (some ⟨w.heap.size, 0, none⟩) (ms.map Mo.val) := by
        have hl := hown.1
        have hv := hblt.vals
        rw [List.take_of_length_le (by omega)] at hv
        rw [hv] at hown
        exact Src.own hown
      have hmok := hblt.ok
      have hml := hblt.len
      have HP : Hid (ms.flatMap (·.Q) = pairs ks vs) := hblt.pairs_eq (by omega)
      clear hown hblt hk hv hown0 hgrow0
      go_wp2_with fail
      refine (jpfMerge_any _ k k ms _ hml hsrc hmok hn).mono ?_
      rintro e w2 ⟨M, nn, rfl, hown2, hM, hb2⟩
      rw [HP.out] at hM
      obtain ⟨⟨v, hlook, hval⟩, hlen⟩ := look_at hown2 hM hq
      have hlen0 := hlen 0
      simp only [World.drewN_zero] at hlen0
      have hfin : Below w.heap.size w w2 := Below.next hbel hb2
      clear hmok hml hsrc hM hown2
      cases hvl : Mp.vl (pairs ks vs) (Mp.lk q) with
      | none =>
        have HG : Hid (getRes (pairs ks vs) q = .tuple #[.int .i64 0, .bool false, .int .i64 ((Mp.dd ((pairs ks vs).map (fun p => p.1.data.toList))).length : Nat)]) := by
          show _ = _
          unfold getRes; rw [hvl]; rfl
        rw [hvl] at hlook
        clear hval hvl
        go_wp2
        go_ret3
        exact ⟨by rw [HG.out]; rfl, hfin⟩
      | some x =>
        have HG : Hid (getRes (pairs ks vs) q = .tuple #[.int .i64 x, .bool true, .int .i64 ((Mp.dd ((pairs ks vs).map (fun p => p.1.data.toList))).length : Nat)]) := by
          show _ = _
          unfold getRes; rw [hvl]; rfl
        rw [hvl] at hlook
        obtain rfl := hval x hvl
        clear hval hvl
        go_wp2
        go_quiet (fail)
        go_wp2
        go_ret3
        exact ⟨by rw [HG.out]; rfl, below_drewN hfin _⟩
end Go.Proofs.Youanw

/-
  'Rows.FnMergeSizeIsDistinctKeysSaid' PROVED: out of the walk (YouanwMergeSize) by the frame that the kit's tool writes.
-/
import Derived.Test.YouanwMergeSize
import Derived.Test.YouanwGridOpen
namespace Go.Proofs.Youanw
open Go.ChangeShapes Go.WideShapes Go.ChangeAt Go.RowKit

set_option maxRecDepth 100000 in
theorem mergeSize_lifted (os : Os) (started : os.Started) (H : Type) (enc : TypeId × Value → H) :
    ReturnsInHanded {} Uang.checked os 4 .any (Rows.fnMergeSizeIsDistinctKeysSpec.pre6 enc Uang.prog Uang.f4 Rows.fnMergeSizeIsDistinctKeysRow.domain false) (Rows.fnMergeSizeIsDistinctKeysSpec.post enc Uang.prog Uang.f4 false true false false) := by
  refine returnsInHanded_of_change (C := Uang.checked) ownK started (by kernel_rfl) Uang.func4
    (ChangeSpec.witness6 (enc := enc) (C := Uang.checked) false ⟨#[], #[.slice none 0 0, .slice none 0 0], []⟩ 8 (by kernel_rfl) (by kernel_rfl) (by kernel_rfl) (by kernel_rfl)) ?_
  intro W base args ds gs before hval0 hW hcnd _
  have hval : ∀ (j : Nat) t v, Uang.f4.params[j]? = some t → args[j]? = some v → Value.okWide Uang.prog W .any base t v := hval0
  have hW' := hW
  obtain ⟨p, q, hA0, hV, rfl, hfz, hnd⟩ := hW
  have hA : DataW.TrodAll enc Uang.prog W 0 (fun _ => true) true Uang.f4.params.toList args.toList ds p := hA0
  rw [Uang.params4] at hA hval
  obtain ⟨v0, vs0, d0, ds0, p0, q0, hargs, rfl, rfl, h0, r0⟩ := trodAll_cons hA
  obtain ⟨v1, vs1, d1, ds1, p1, q1, rfl, rfl, rfl, h1, r1⟩ := trodAll_cons r0
  obtain ⟨rfl, rfl, rfl⟩ := trodAll_nil r1
  obtain rfl : args = #[v0, v1] := by cases args; simp_all
  obtain ⟨rfl, rfl⟩ := trodVars_none hV
  obtain ⟨a0, len0, cap0, rfl⟩ := okWide_slice Uang.underlying22 (hval 0 22 v0 rfl rfl)
  obtain ⟨a1, len1, cap1, rfl⟩ := okWide_slice Uang.underlying23 (hval 1 23 v1 rfl rfl)
  have k0 := h0
  have k1 := h1
  have lt0 : ∀ x ∈ p0, x.block < W.heap.size := by obtain ⟨m, hm⟩ := k0; exact DataW.trod_lt m _ _ _ hm
  have lt1 : ∀ x ∈ p1, x.block < W.heap.size := by obtain ⟨m, hm⟩ := k1; exact DataW.trod_lt m _ _ _ hm
  obtain ⟨fuel0, hf0⟩ := h0
  obtain ⟨fuel1, hf1⟩ := h1
  obtain ⟨ha0, ks, hl0, hs0, hg0⟩ := open_grid Value.string (fun u => u.size ≤ maxLen) Uang.underlying22 (by kernel_rfl) Uang.underlying29 (by kernel_rfl) (el_string Uang.underlying9) hf0
  obtain ⟨ha1, vs, hl1, hs1, _⟩ := open_grid (Value.int .i64) (fun u => (Lit.int .i64 u).wf = true) Uang.underlying23 (by kernel_rfl) Uang.underlying30 (by kernel_rfl) (el_int Uang.underlying2) hf1
  clear hA0 hval0
  refine (mergeSize_any a0 a1 len0 cap0 len1 cap1 ks vs W ha0 ha1 hl0 hl1 hs0 hs1 hg0).mono fun e W' ⟨he, bel⟩ => ?_
  subst he
  exact ⟨_, rfl, _, _, _, [], _, [], hW', trodAll_mk1 (shut_bool Uang.underlying4 _), (trodAll_mk2 (Below.trod laidK (by kernel_rfl) (of_decide_eq_true (by kernel_rfl)) k0 bel lt0) (Below.trod laidK (by kernel_rfl) (of_decide_eq_true (by kernel_rfl)) k1 bel lt1)), rfl, bel.frame _, fun h => by cases h⟩

theorem mergeSize_over : Rows.fnMergeSizeIsDistinctKeysRow.holds Uang.pinned (OpenSpec.ofChange Rows.fnMergeSizeIsDistinctKeysSpec) :=
  OpenClaim.holds_of_wide 4 Uang.f4 rfl rfl rfl rfl rfl rfl rfl ⟨rfl, rfl, rfl, rfl, rfl⟩ rfl rfl rfl rfl rfl (by kernel_rfl) Uang.func4 (by kernel_rfl)
    (of_decide_eq_true (by kernel_rfl)) (by unfold Func.isWrapper; first | (rw [if_pos (by decide +kernel)]; kernel_rfl) | (rw [if_neg (by decide +kernel)]; exact ⟨rfl, rfl⟩))
    (fun os started H enc _ => mergeSize_lifted os started H enc)

/-- ████ THE STATEMENT ████ -/
theorem fnMergeSizeIsDistinctKeys_proved : Rows.FnMergeSizeIsDistinctKeysSaid := mergeSize_over
#print axioms fnMergeSizeIsDistinctKeys_proved
end Go.Proofs.Youanw

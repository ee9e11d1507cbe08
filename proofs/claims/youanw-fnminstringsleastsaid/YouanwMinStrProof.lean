/-
  'Rows.FnMinStringsLeastSaid' PROVED: out of the walk (YouanwMinStrLaw) by the frame that the kit's tool writes.
-/
import Derived.Test.YouanwMinStrLaw
import Derived.Test.YouanwFrame
namespace Go.Proofs.Youanw
open Go.ChangeShapes Go.WideShapes Go.ChangeAt Go.RowKit

set_option maxRecDepth 100000 in
theorem minStr_lifted (os : Os) (started : os.Started) (H : Type) (enc : TypeId × Value → H) :
    ReturnsInHanded {} Uang.checked os 8 .any (Rows.fnMinStringsLeastSpec.pre6 enc Uang.prog Uang.f8 Rows.fnMinStringsLeastRow.domain false) (Rows.fnMinStringsLeastSpec.post enc Uang.prog Uang.f8 false true false false) := by
  refine returnsInHanded_of_change (C := Uang.checked) ownK started (by kernel_rfl) Uang.func8
    (ChangeSpec.witness6 (enc := enc) (C := Uang.checked) false ⟨#[], #[.slice none 0 0], []⟩ 8 (by kernel_rfl) (by kernel_rfl) (by kernel_rfl) (by kernel_rfl)) ?_
  intro W base args ds gs before hval0 hW hcnd _
  have hval : ∀ (j : Nat) t v, Uang.f8.params[j]? = some t → args[j]? = some v → Value.okWide Uang.prog W .any base t v := hval0
  have hW' := hW
  obtain ⟨p, q, hA0, hV, rfl, hfz, hnd⟩ := hW
  have hA : DataW.TrodAll enc Uang.prog W 0 (fun _ => true) true Uang.f8.params.toList args.toList ds p := hA0
  rw [Uang.params8] at hA hval
  obtain ⟨v0, vs0, d0, ds0, p0, q0, hargs, rfl, rfl, h0, r0⟩ := trodAll_cons hA
  obtain ⟨rfl, rfl, rfl⟩ := trodAll_nil r0
  obtain rfl : args = #[v0] := by cases args; simp_all
  obtain ⟨rfl, rfl⟩ := trodVars_none hV
  obtain ⟨a0, len0, cap0, rfl⟩ := okWide_slice Uang.underlying29 (hval 0 29 v0 rfl rfl)
  have k0 := h0
  have lt0 : ∀ x ∈ p0, x.block < W.heap.size := by obtain ⟨m, hm⟩ := k0; exact DataW.trod_lt m _ _ _ hm
  obtain ⟨fuel0, hf0⟩ := h0
  obtain ⟨ha0, _, _, l0, hl0, hs0, hg0⟩ := open_src (Value.string) (fun u => u.size ≤ maxLen) Uang.underlying29 (by kernel_rfl) (el_string Uang.underlying9) hf0
  clear hA0 hval0
  refine (minStr_any a0 len0 cap0 l0 W ha0 hl0 hs0 hg0).mono fun e W' ⟨he, bel⟩ => ?_
  subst he
  exact ⟨_, rfl, _, _, _, [], _, [], hW', trodAll_mk1 (shut_bool Uang.underlying4 _), (trodAll_mk1 (Below.trod laidK (by kernel_rfl) (of_decide_eq_true (by kernel_rfl)) k0 bel lt0)), rfl, bel.frame _, fun h => by cases h⟩

theorem minStr_over : Rows.fnMinStringsLeastRow.holds Uang.pinned (OpenSpec.ofChange Rows.fnMinStringsLeastSpec) :=
  OpenClaim.holds_of_wide 8 Uang.f8 rfl rfl rfl rfl rfl rfl rfl ⟨rfl, rfl, rfl, rfl, rfl⟩ rfl rfl rfl rfl rfl (by kernel_rfl) Uang.func8 (by kernel_rfl)
    (of_decide_eq_true (by kernel_rfl)) (by unfold Func.isWrapper; first | (rw [if_pos (by decide +kernel)]; kernel_rfl) | (rw [if_neg (by decide +kernel)]; exact ⟨rfl, rfl⟩))
    (fun os started H enc _ => minStr_lifted os started H enc)

/-- ████ THE STATEMENT ████ -/
theorem fnMinStringsLeast_proved : Rows.FnMinStringsLeastSaid := minStr_over
#print axioms fnMinStringsLeast_proved
end Go.Proofs.Youanw

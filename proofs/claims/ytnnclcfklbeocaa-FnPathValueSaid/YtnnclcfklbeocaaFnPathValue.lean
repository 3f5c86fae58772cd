/-
  The row of laws.FnPathValue.
  Condition: none; every input.
-/
import Derived.Test.YtnnclcfklbeocaaW18
import Derived.Test.YtnnclcfklbeocaaClose
namespace Go.Proofs.Ytnnclcfklbeocaa
open Go.ChangeShapes Go.WideShapes Go.ChangeAt Go.RowKit

set_option maxRecDepth 100000 in
theorem fnPathValue_lifted (os : Os) (started : os.Started) (H : Type) (enc : TypeId × Value → H) :
    ReturnsInHanded {} Try.checked os 6 .any (Rows.fnPathValueSpec.pre6 enc Try.prog Try.f6 Rows.fnPathValueRow.domain false) (Rows.fnPathValueSpec.post enc Try.prog Try.f6 false true false false) := by
  refine returnsInHanded_of_change (C := Try.checked) Try.own started (by kernel_rfl) Try.func6
    (ChangeSpec.witness6 (enc := enc) (C := Try.checked) false ⟨#[], #[.slice none 0 0, .int .u32 0], []⟩ 8 (by kernel_rfl) (by kernel_rfl) (by kernel_rfl) (by kernel_rfl)) ?_
  intro W base args ds gs before hval0 hW hcnd _
  have hval : ∀ (j : Nat) t v, Try.f6.params[j]? = some t → args[j]? = some v → Value.okWide Try.prog W .any base t v := hval0
  have hW' := hW
  obtain ⟨p, q, hA0, hV, rfl, hfz, hnd⟩ := hW
  have hA : DataW.TrodAll enc Try.prog W 0 (fun _ => true) true Try.f6.params.toList args.toList ds p := hA0
  rw [Try.params6] at hA hval
  obtain ⟨v0, v1, d0, d1, p0, p1, rfl, rfl, rfl, h0, h1⟩ := trodAll_two hA
  obtain ⟨rfl, rfl⟩ := trodVars_none hV
  obtain ⟨b, rfl, rfl, rfl, wb⟩ := open_int Try.underlying23 (hval 1 23 v1 rfl rfl) h1
  clear hA0 hval0
  simp only [List.append_nil] at hW'
  have hlt : ∀ x ∈ p0, x.block < W.heap.size := fun x hx => by simpa using hW'.lt x hx
  obtain ⟨xs, hl⟩ := argL_of (hval 0 22 v0 rfl rfl) h0 hlt
  have hb0 : 0 ≤ b := by
    simp only [Lit.wf, Bool.and_eq_true, decide_eq_true_eq] at wb
    exact wb.1
  refine (fnPathValue_any v0 xs b [] hl hb0 W (Own.start W)).mono fun e W' ⟨v, M', he, hv, hw⟩ => ?_
  subst he; subst hv
  refine ⟨_, rfl, close_true rfl hW' rfl rfl rfl (fun sp hsp => ?_) hw.below⟩
  have h2 := trodAll_mk2 (WideElems.Trod_stays Try.laidOut Try.read22 Try.size22 h0 (fun x hx => hw.below.same (hlt x hx)) (fun x hx => hsp x (by simpa using hx))) (shut_int Try.underlying23 wb)
  rw [List.append_nil] at h2
  exact h2

theorem fnPathValue_holds : Rows.FnPathValueSaid :=
  OpenClaim.holds_of_wide 6 Try.f6 rfl rfl rfl rfl rfl rfl rfl ⟨rfl, rfl, rfl, rfl, rfl⟩ rfl rfl rfl rfl rfl (by kernel_rfl) Try.func6 (by kernel_rfl)
    (of_decide_eq_true (by kernel_rfl)) (by unfold Func.isWrapper; first | (rw [if_pos (by decide +kernel)]; kernel_rfl) | (rw [if_neg (by decide +kernel)]; exact ⟨rfl, rfl⟩))
    (fun os started H enc _ => fnPathValue_lifted os started H enc)

end Go.Proofs.Ytnnclcfklbeocaa

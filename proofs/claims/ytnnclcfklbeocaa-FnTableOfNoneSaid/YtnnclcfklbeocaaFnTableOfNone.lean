/-
  The row of laws.FnTableOfNone.
  Condition: none; every input.
-/
import Derived.Test.YtnnclcfklbeocaaW13
import Derived.Test.YtnnclcfklbeocaaClose
namespace Go.Proofs.Ytnnclcfklbeocaa
open Go.ChangeShapes Go.WideShapes Go.ChangeAt Go.RowKit

set_option maxRecDepth 100000 in
theorem fnTableOfNone_lifted (os : Os) (started : os.Started) (H : Type) (enc : TypeId × Value → H) :
    ReturnsInHanded {} Try.checked os 4 .any (Rows.fnTableOfNoneSpec.pre6 enc Try.prog Try.f4 Rows.fnTableOfNoneRow.domain false) (Rows.fnTableOfNoneSpec.post enc Try.prog Try.f4 false true false false) := by
  refine returnsInHanded_of_change (C := Try.checked) Try.own started (by kernel_rfl) Try.func4
    (ChangeSpec.witness6 (enc := enc) (C := Try.checked) false ⟨#[], #[.slice none 0 0], []⟩ 8 (by kernel_rfl) (by kernel_rfl) (by kernel_rfl) (by kernel_rfl)) ?_
  intro W base args ds gs before hval0 hW hcnd _
  have hval : ∀ (j : Nat) t v, Try.f4.params[j]? = some t → args[j]? = some v → Value.okWide Try.prog W .any base t v := hval0
  have hW' := hW
  obtain ⟨p, q, hA0, hV, rfl, hfz, hnd⟩ := hW
  have hA : DataW.TrodAll enc Try.prog W 0 (fun _ => true) true Try.f4.params.toList args.toList ds p := hA0
  rw [Try.params4] at hA hval
  obtain ⟨v0, d0, rfl, rfl, h0⟩ := trodAll_one hA
  obtain ⟨rfl, rfl⟩ := trodVars_none hV
  clear hA0 hval0
  simp only [List.append_nil] at hW'
  have hlt : ∀ x ∈ p, x.block < W.heap.size := fun x hx => by simpa using hW'.lt x hx
  obtain ⟨xs, hl⟩ := argL_of (hval 0 22 v0 rfl rfl) h0 hlt
  refine (fnTableOfNone_any v0 xs [] hl W (Own.start W)).mono fun e W' ⟨v, M', he, hv, hw⟩ => ?_
  subst he; subst hv
  refine ⟨_, rfl, close_true rfl hW' rfl rfl rfl (fun sp hsp => ?_) hw.below⟩
  exact trodAll_mk1 (WideElems.Trod_stays Try.laidOut Try.read22 Try.size22 h0 (fun x hx => hw.below.same (hlt x hx)) (fun x hx => hsp x hx))

theorem fnTableOfNone_holds : Rows.FnTableOfNoneSaid :=
  OpenClaim.holds_of_wide 4 Try.f4 rfl rfl rfl rfl rfl rfl rfl ⟨rfl, rfl, rfl, rfl, rfl⟩ rfl rfl rfl rfl rfl (by kernel_rfl) Try.func4 (by kernel_rfl)
    (of_decide_eq_true (by kernel_rfl)) (by unfold Func.isWrapper; first | (rw [if_pos (by decide +kernel)]; kernel_rfl) | (rw [if_neg (by decide +kernel)]; exact ⟨rfl, rfl⟩))
    (fun os started H enc _ => fnTableOfNone_lifted os started H enc)

end Go.Proofs.Ytnnclcfklbeocaa

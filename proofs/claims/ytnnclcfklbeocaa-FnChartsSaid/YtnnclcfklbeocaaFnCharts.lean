/-
  The row of laws.FnCharts.
  Condition: none; every input.
-/
import Derived.Test.YtnnclcfklbeocaaW32
import Derived.Test.YtnnclcfklbeocaaClose
namespace Go.Proofs.Ytnnclcfklbeocaa
open Go.ChangeShapes Go.WideShapes Go.ChangeAt Go.RowKit

set_option maxRecDepth 100000 in
theorem fnCharts_lifted (os : Os) (started : os.Started) (H : Type) (enc : TypeId × Value → H) :
    ReturnsInHanded {} Try.checked os 7 .any (Rows.fnChartsSpec.pre6 enc Try.prog Try.f7 Rows.fnChartsRow.domain false) (Rows.fnChartsSpec.post enc Try.prog Try.f7 false true false false) := by
  refine returnsInHanded_of_change (C := Try.checked) Try.own started (by kernel_rfl) Try.func7
    (ChangeSpec.witness6 (enc := enc) (C := Try.checked) false ⟨#[], #[.slice none 0 0, .slice none 0 0, .bool false], []⟩ 8 (by kernel_rfl) (by kernel_rfl) (by kernel_rfl) (by kernel_rfl)) ?_
  intro W base args ds gs before hval0 hW hcnd _
  have hval : ∀ (j : Nat) t v, Try.f7.params[j]? = some t → args[j]? = some v → Value.okWide Try.prog W .any base t v := hval0
  have hW' := hW
  obtain ⟨p, q, hA0, hV, rfl, hfz, hnd⟩ := hW
  have hA : DataW.TrodAll enc Try.prog W 0 (fun _ => true) true Try.f7.params.toList args.toList ds p := hA0
  rw [Try.params7] at hA hval
  obtain ⟨v0, v1, v2, d0, d1, d2, p0, p1, p2, rfl, rfl, rfl, h0, h1, h2⟩ := trodAll_three hA
  obtain ⟨rfl, rfl⟩ := trodVars_none hV
  obtain ⟨b, rfl, rfl, rfl⟩ := open_bool Try.underlying4 (hval 2 4 v2 rfl rfl) h2
  clear hA0 hval0
  simp only [List.append_nil] at hW'
  have hlt0 : ∀ x ∈ p0, x.block < W.heap.size := fun x hx => hW'.lt x (by simp [hx])
  have hlt1 : ∀ x ∈ p1, x.block < W.heap.size := fun x hx => hW'.lt x (by simp [hx])
  obtain ⟨xs0, hl0⟩ := argL_of (hval 0 22 v0 rfl rfl) h0 hlt0
  obtain ⟨xs1, hl1⟩ := argL_of (hval 1 22 v1 rfl rfl) h1 hlt1
  refine (fnCharts_any v0 v1 xs0 xs1 b [] hl0 hl1 W (Own.start W)).mono fun e W' ⟨v, M', he, hv, hw⟩ => ?_
  subst he; subst hv
  refine ⟨_, rfl, close_true rfl hW' rfl rfl rfl (fun sp hsp => ?_) hw.below⟩
  have h3 := trodAll_mk3 (WideElems.Trod_stays Try.laidOut Try.read22 Try.size22 h0 (fun x hx => hw.below.same (hlt0 x hx)) (fun x hx => hsp x (by simp [hx]))) (WideElems.Trod_stays Try.laidOut Try.read22 Try.size22 h1 (fun x hx => hw.below.same (hlt1 x hx)) (fun x hx => hsp x (by simp [hx]))) (shut_bool Try.underlying4 b)
  simp only [List.append_nil] at h3
  exact h3

theorem fnCharts_holds : Rows.FnChartsSaid :=
  OpenClaim.holds_of_wide 7 Try.f7 rfl rfl rfl rfl rfl rfl rfl ⟨rfl, rfl, rfl, rfl, rfl⟩ rfl rfl rfl rfl rfl (by kernel_rfl) Try.func7 (by kernel_rfl)
    (of_decide_eq_true (by kernel_rfl)) (by unfold Func.isWrapper; first | (rw [if_pos (by decide +kernel)]; kernel_rfl) | (rw [if_neg (by decide +kernel)]; exact ⟨rfl, rfl⟩))
    (fun os started H enc _ => fnCharts_lifted os started H enc)

end Go.Proofs.Ytnnclcfklbeocaa

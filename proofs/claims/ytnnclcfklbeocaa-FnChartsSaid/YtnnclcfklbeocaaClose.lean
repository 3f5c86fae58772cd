/-
  From a walk to a row: the arguments opened, the world behind the call closed.
  No condition: general lemmas.
-/
import Derived.Test.YtnnclcfklbeocaaRows
import Derived.Test.YtnnclcfklbeocaaE9
import Derived.ProofKit
import Derived.OpenShut
namespace Go.Proofs.Ytnnclcfklbeocaa
open Go.RowKit Go.WideShapes Go.ChangeShapes

theorem Try.own : ownKnob Try.prog.godebug = none := by kernel_rfl
theorem Try.laidOut : laidOutB Try.prog = true := by kernel_rfl
theorem Try.cells23 : Try.prog.cellsOf 23 = 1 := by kernel_rfl
theorem Try.read22 : Try.prog.readableRec 22 = true := by kernel_rfl
theorem Try.read23 : Try.prog.readableRec 23 = true := by kernel_rfl
theorem Try.size22 : 22 < Try.prog.types.size := of_decide_eq_true (by kernel_rfl)
theorem Try.size23 : 23 < Try.prog.types.size := of_decide_eq_true (by kernel_rfl)

section
variable {H : Type} {enc : TypeId × Value → H}

set_option maxRecDepth 100000 in
/-- The numbers that came in. -/
theorem argL_of {W : World} {v : Value} {d : DataW H} {ps : List MemPlace} (hval : Value.okWide Try.prog W .any 0 22 v) (h : DataW.Trod enc Try.prog W 0 (fun _ => true) true 22 v d ps) (hlt : ∀ x ∈ ps, x.block < W.heap.size) :
    ∃ xs, ArgL W v xs := by
  obtain ⟨a0, len, cap, rfl⟩ := okWide_slice Try.underlying22 hval
  obtain ⟨fuel, hf⟩ := h
  rcases open_ints Try.underlying22 Try.underlying23 Try.cells23 hf with ⟨hcs, hx⟩ | ⟨a, len', cap', zs, hcs, _, hl, hm, hz, hx, hcell, hwz⟩
  · simp [Value.cells] at hcs
    obtain ⟨rfl, rfl, rfl⟩ := hcs
    exact ⟨[], ⟨none, 0, rfl, fun h => absurd h (by decide)⟩, fun x hx => by cases hx⟩
  · simp [Value.cells] at hcs
    obtain ⟨rfl, rfl, rfl⟩ := hcs
    simp only [Prod.mk.injEq] at hx
    obtain ⟨rfl, rfl⟩ := hx
    simp only [if_true] at hz
    have hlen : (zs.take len).length = len := by rw [List.length_take]; omega
    refine ⟨zs.take len, ⟨some a, cap, by rw [hlen], fun hpos => ?_⟩, fun x hx => ?_⟩
    · obtain ⟨b, off, rfl, hc⟩ := ints_at hcell (by omega)
      refine ⟨b, off, rfl, hlt (.cell b off) (MemPlace.mem_row.2 ⟨0, by omega, by simp⟩), fun i u hu => ?_⟩
      obtain ⟨hi, he⟩ := List.getElem?_eq_some_iff.1 hu
      rw [hlen] at hi
      rw [hc i (by omega)]
      rw [List.getElem?_take_of_lt hi] at hu
      simp [List.getD, hu]
    · have h1 := hwz x (List.mem_of_mem_take hx)
      simp only [Lit.wf, Bool.and_eq_true, decide_eq_true_eq] at h1
      exact ⟨h1.1, Int.lt_of_le_of_lt h1.2 (by decide)⟩

set_option maxRecDepth 100000 in
/-- What a law leaves that answers true and turns nothing old. -/
theorem close_true {f : Func} {s : ChangeSpec} {apart fresh handsOn again : Bool} {W W' : World} {args : Array Value} {ds gs : List (DataW H)} {before : List MemPlace} (hf : f.resultTypes = #[4]) (hW : DataW.Whole enc Try.prog f.params.toList s.vars apart W args.toList ds gs before)
    (hres : (s.fn H (ds ++ gs)).results = [.lit (.bool true)]) (hvars : (s.fn H (ds ++ gs)).vars = []) (hs : s.vars = [])
    (hargs : ∀ sp : Nat → Bool, (∀ p ∈ before, sp p.block = true) → DataW.TrodAll enc Try.prog W' 0 sp true f.params.toList args.toList (s.fn H (ds ++ gs)).args before) (hb : Below W.heap.size W W') :
    s.post enc Try.prog f apart fresh handsOn again W args (.bool true) W' := by
  have hlt : ∀ p ∈ before, p.block < W.heap.size := fun p hp => hW.lt p hp
  have hin : ∀ p ∈ before, (fun b => decide (b < W.heap.size)) p.block = true := fun p hp => by simpa using hlt p hp
  have hr : ∀ (b : Nat) (sp : Nat → Bool) (hd : Bool), DataW.TrodAll enc Try.prog W' b sp hd f.resultTypes.toList ((Value.bool true).resultList f.resultTypes.size) (s.fn H (ds ++ gs)).results [] := fun b sp hd => by
    rw [hf, hres]
    exact trodAll_mk1 (shut_bool Try.underlying4 true)
  have hv : ∀ sp : Nat → Bool, DataW.TrodVars enc Try.prog W' sp s.vars (s.fn H (ds ++ gs)).vars [] := fun sp => by
    rw [hs, hvars]
    rfl
  refine ⟨ds, gs, before, [], before, [], hW, hr _ _ _, hargs _ hin, hv _, World.keptBut_mono (fun p hp => ⟨hp, Or.inr (by simpa using hp)⟩) (hb.frame (· ∈ before)), fun _ => ?_⟩
  obtain ⟨_, _, _, _, _, hz, hn⟩ := hW
  refine ⟨ok_one hf rfl (okWide_bool_mk Try.underlying4 true), _, _, [] ++ before ++ [], ⟨[] ++ before, [], trodAll_append (hargs _ (fun _ _ => rfl)) (hr _ _ _), hv _, rfl, ?_, ?_⟩, ?_⟩
  · intro b off hp
    have hbf : MemPlace.cell b off ∈ before := by simpa using hp
    rw [hb.frozen (hlt _ hbf)]
    exact hz b off hbf
  · intro ha
    simpa using hn ha
  · intro p hp _
    simpa using hp
end

end Go.Proofs.Ytnnclcfklbeocaa

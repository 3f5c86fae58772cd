/-
  A destination with one dependency's table taken out ('Rh'), and put back.
  No condition: definitions and lemmas.
-/
import Derived.Test.YtnnclcfklbeocaaW24
namespace Go.Proofs.Ytnnclcfklbeocaa
open Go.RowKit

/-- As RepX's pairs, the value under 'name' taken out. -/
def Rh (S : Heap) (n : Nat) (name : Key) (v : Value) : Key → T → Value → Heap → Prop := fun k t v' m => (k = name ∧ v' = v ∧ m = []) ∨ (k ≠ name ∧ RepX S n (kidMode .V k) t v' m)

theorem dep_open {S : Heap} {n : Nat} (name : Key) (hname : name ≠ kGlobal) {dts : List (Key × T)} {vs : List (Key × Value)} {m : Heap} (h : KidsK (fun k => RepX S n (kidMode .V k)) dts vs m) (hn : (vs.map (·.1)).Nodup) :
    ∃ mv mr, Fits m (mv ++ mr) ∧ ((dts.lookup name = none ∧ vs.lookup name = none ∧ mv = []) ∨ ∃ t v, dts.lookup name = some t ∧ vs.lookup name = some v ∧ RepX S n .V t v mv) ∧
      ∀ t' v', ∃ ts' m', KidsK (Rh S n name v') ts' (putL vs name v') m' ∧ (∀ k, ts'.lookup k = if k = name then some t' else dts.lookup k) ∧ (∀ p, p ∈ ts' → p.1 = name ∨ ∃ q, q ∈ dts ∧ q.1 = p.1) ∧ Fits mr m' := by
  obtain ⟨mv, mr, h1, h2, h3⟩ := h.hole name hn
  refine ⟨mv, mr, h1, ?_, fun t' v' => ?_⟩
  · have e : kidMode .V name = .V := if_neg hname
    rw [e] at h2
    exact h2
  · exact h3 (Rh S n name v') (fun k t v m hk hr => Or.inr ⟨hk, hr⟩) t' v' [] (Or.inl ⟨rfl, rfl, rfl⟩)
theorem dep_glob {S : Heap} {n : Nat} {name : Key} (hname : name ≠ kGlobal) {v : Value} {dts : List (Key × T)} {vs : List (Key × Value)} {m : Heap} (h : KidsK (Rh S n name v) dts vs m) (hn : (vs.map (·.1)).Nodup) :
    ∃ mg mr, Fits m (mg ++ mr) ∧ ((dts.lookup kGlobal = none ∧ vs.lookup kGlobal = none ∧ mg = []) ∨ ∃ tg vg, dts.lookup kGlobal = some tg ∧ vs.lookup kGlobal = some vg ∧ RepX S n .G tg vg mg) ∧
      ∀ S2 n2, (∀ x, x ∈ S → x ∈ S2) → n ≤ n2 → ∀ mg', ((vs.lookup kGlobal = none ∧ mg' = []) ∨ ∃ tg vg, vs.lookup kGlobal = some vg ∧ dts.lookup kGlobal = some tg ∧ RepX S2 n2 .G tg vg mg') →
        ∃ ts' m', KidsK (Rh S2 n2 name v) ts' vs m' ∧ (∀ k, ts'.lookup k = dts.lookup k) ∧ (∀ p, p ∈ ts' → ∃ q, q ∈ dts ∧ q.1 = p.1) ∧ Fits (mg' ++ mr) m' := by
  have hup : ∀ S2 n2, (∀ x, x ∈ S → x ∈ S2) → n ≤ n2 → ∀ k t v' m, Rh S n name v k t v' m → Rh S2 n2 name v k t v' m := fun S2 n2 hS hn2 k t v' m hr => hr.imp id fun ⟨h1, h2⟩ => ⟨h1, (RepX.grow hS h2).le hn2⟩
  have eG : kidMode .V kGlobal = .G := by simp [kidMode]
  cases hl : vs.lookup kGlobal with
  | none =>
    refine ⟨[], m, Fits.refl _, Or.inl ⟨?_, rfl, rfl⟩, fun S2 n2 hS hn2 mg' hg => ?_⟩
    · rcases h.lookup kGlobal with ⟨h1, _⟩ | ⟨_, _, _, _, h2, _⟩
      · exact h1
      · rw [hl] at h2; cases h2
    · rcases hg with ⟨_, rfl⟩ | ⟨_, _, h4, _⟩
      · exact ⟨dts, m, h.mono (fun k t v' m hr => hup S2 n2 hS hn2 k t v' m hr), fun _ => rfl, fun p hp => ⟨p, hp, rfl⟩, Fits.refl _⟩
      · cases h4
  | some vg0 =>
    obtain ⟨mg, mr, h1, h2, h3⟩ := h.hole kGlobal hn
    refine ⟨mg, mr, h1, ?_, fun S2 n2 hS hn2 mg' hg => ?_⟩
    · rcases h2 with ⟨_, h2, _⟩ | ⟨tg, vg, h4, h5, h6⟩
      · rw [hl] at h2; cases h2
      · rw [hl] at h5
        refine Or.inr ⟨tg, vg, h4, h5, ?_⟩
        rcases h6 with ⟨e, _⟩ | ⟨_, h6⟩
        · exact absurd e.symm hname
        · rw [eG] at h6; exact h6
    · rcases hg with ⟨hg, _⟩ | ⟨tg, vg, h4, h5, h6⟩
      · cases hg
      · obtain ⟨ts', m', g1, g2, g3, g4⟩ := h3 (Rh S2 n2 name v) (fun k t v' m _ hr => hup S2 n2 hS hn2 k t v' m hr) tg vg mg' (Or.inr ⟨fun e => hname e.symm, by rw [eG]; exact h6⟩)
        rw [putL_same hn (hl.trans h4)] at g1
        refine ⟨ts', m', g1, fun k => ?_, fun p hp => ?_, g4⟩
        · rw [g2]
          by_cases e : k = kGlobal
          · rw [if_pos e, e, h5]
          · rw [if_neg e]
        · rcases g3 p hp with e | h
          · exact ⟨(kGlobal, tg), mem_of_lookup h5, e.symm⟩
          · exact h
theorem dep_fill {S : Heap} {n : Nat} {name : Key} (hname : name ≠ kGlobal) {v : Value} {dts : List (Key × T)} {vs : List (Key × Value)} {m : Heap} (h : KidsK (Rh S n name v) dts vs m) (hn : (vs.map (·.1)).Nodup) (hl : vs.lookup name = some v) {t' : T} {mv' : Heap} (hr : RepX S n .V t' v mv') :
    ∃ ts' m', KidsK (fun k => RepX S n (kidMode .V k)) ts' vs m' ∧ (∀ k, ts'.lookup k = if k = name then some t' else dts.lookup k) ∧ (∀ p, p ∈ ts' → p.1 = name ∨ ∃ q, q ∈ dts ∧ q.1 = p.1) ∧ Fits (mv' ++ m) m' := by
  have e : kidMode .V name = .V := if_neg hname
  obtain ⟨mv, mr, h1, _, h3⟩ := h.hole name hn
  obtain ⟨ts', m', g1, g2, g3, g4⟩ := h3 (fun k => RepX S n (kidMode .V k)) (fun k t v' m hk hr => by
    rcases hr with ⟨e, _⟩ | ⟨_, hr⟩
    · exact absurd e hk
    · exact hr) t' v mv' (by rw [e]; exact hr)
  rw [putL_same hn hl] at g1
  refine ⟨ts', m', g1, g2, g3, fun f => ?_⟩
  have e1 := h1 f
  have e2 := g4 f
  simp only [List.map_append, List.sum_append] at e1 e2 ⊢
  omega

end Go.Proofs.Ytnnclcfklbeocaa

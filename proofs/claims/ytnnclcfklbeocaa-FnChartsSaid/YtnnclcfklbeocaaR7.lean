/-
  One pair taken out of pairs that lie, and another put in its place ('hole').
  No condition: lemmas.
-/
import Derived.Test.YtnnclcfklbeocaaR6
namespace Go.Proofs.Ytnnclcfklbeocaa
open Go.RowKit

theorem map_other {vs : List (Key × Value)} {k : Key} {v' : Value} (h : ∀ p, p ∈ vs → p.1 ≠ k) : (vs.map fun p => if p.1 = k then (k, v') else p) = vs := by
  conv => rhs; rw [← List.map_id vs]
  apply List.map_congr_left
  intro p hp
  rw [if_neg (h p hp)]
  rfl
theorem KidsK.monoNe {R R' : Key → T → Value → Heap → Prop} : ∀ {ts : List (Key × T)} {vs : List (Key × Value)} {m : Heap}, KidsK R ts vs m → (∀ k t v m, (k, t) ∈ ts → R k t v m → R' k t v m) → KidsK R' ts vs m
  | [], [], _, h, _ => h
  | (_, _) :: _, (_, _) :: _, _, ⟨hk, m1, m2, hm, hr, hs⟩, hR => ⟨hk, m1, m2, hm, hR _ _ _ _ List.mem_cons_self hr, KidsK.monoNe hs (fun k t v m h => hR k t v m (List.mem_cons_of_mem _ h))⟩
  | [], _ :: _, _, h, _ => h.elim
  | _ :: _, [], _, h, _ => h.elim
theorem KidsK.swap2 {R : Key → T → Value → Heap → Prop} {k : Key} {v : Value} : ∀ {ts : List (Key × T)} {vs : List (Key × Value)} {m : Heap}, KidsK R ts vs m → vs.lookup k = some v → (vs.map (·.1)).Nodup →
    ∃ ts1 t ts2 m1 mv m2, ts = ts1 ++ (k, t) :: ts2 ∧ ts1.lookup k = none ∧ m = m1 ++ (mv ++ m2) ∧ R k t v mv ∧ ∀ R' : Key → T → Value → Heap → Prop, (∀ k' t' v' m', k' ≠ k → R k' t' v' m' → R' k' t' v' m') → ∀ t' v' mv', R' k t' v' mv' → KidsK R' (ts1 ++ (k, t') :: ts2) (vs.map fun p => if p.1 = k then (k, v') else p) (m1 ++ (mv' ++ m2))
  | [], [], _, _, h, _ => by cases h
  | (k1, t1) :: ts, (k2, v2) :: vs, m, hk, h, hn => by
    obtain ⟨rfl, ma, mb, rfl, hr, hs⟩ := hk
    rw [List.map_cons, List.nodup_cons] at hn
    rw [List.lookup_cons] at h
    by_cases e : k = k1
    · subst e
      simp only [BEq.rfl] at h
      cases h
      refine ⟨[], t1, ts, [], ma, mb, rfl, rfl, rfl, hr, fun R' hR t' v' mv' hr' => ?_⟩
      have hne : ∀ p, p ∈ vs → p.1 ≠ k := fun p hp e => hn.1 (List.mem_map.2 ⟨p, hp, e⟩)
      have hs' : KidsK R' ts vs mb := hs.monoNe fun k' t v m hm h => hR _ _ _ _ (fun e => by
        have h1 : k' ∈ vs.map (·.1) := by rw [← hs.keys]; exact List.mem_map.2 ⟨_, hm, rfl⟩
        rw [e] at h1
        exact hn.1 h1) h
      rw [List.map_cons, if_pos rfl, map_other hne]
      exact ⟨rfl, mv', mb, rfl, hr', hs'⟩
    · rw [show (k == k1) = false by simpa using e] at h
      obtain ⟨ts1, t, ts2, m1, mv, m2, rfl, h2, rfl, h3, h4⟩ := KidsK.swap2 hs h hn.2
      refine ⟨(k1, t1) :: ts1, t, ts2, ma ++ m1, mv, m2, rfl, ?_, by rw [List.append_assoc], h3, fun R' hR t' v' mv' hr' => ?_⟩
      · rw [List.lookup_cons, show (k == k1) = false by simpa using e]
        exact h2
      · rw [List.map_cons, if_neg (fun e' => e e'.symm)]
        exact ⟨rfl, ma, _, by rw [List.append_assoc], hR _ _ _ _ (fun e' => e e'.symm) hr, h4 R' hR t' v' mv' hr'⟩
  | [], _ :: _, _, hk, _, _ => hk.elim
  | _ :: _, [], _, hk, _, _ => hk.elim
theorem KidsK.hole {R : Key → T → Value → Heap → Prop} (k : Key) {ts : List (Key × T)} {vs : List (Key × Value)} {m : Heap} (h : KidsK R ts vs m) (hn : (vs.map (·.1)).Nodup) :
    ∃ mv mr, Fits m (mv ++ mr) ∧ ((ts.lookup k = none ∧ vs.lookup k = none ∧ mv = []) ∨ ∃ t v, ts.lookup k = some t ∧ vs.lookup k = some v ∧ R k t v mv) ∧
      ∀ R' : Key → T → Value → Heap → Prop, (∀ k' t' v' m', k' ≠ k → R k' t' v' m' → R' k' t' v' m') → ∀ t' v' mv', R' k t' v' mv' → ∃ ts' m', KidsK R' ts' (putL vs k v') m' ∧ (∀ k', ts'.lookup k' = if k' = k then some t' else ts.lookup k') ∧ (∀ p, p ∈ ts' → p.1 = k ∨ ∃ q, q ∈ ts ∧ q.1 = p.1) ∧ Fits (mv' ++ mr) m' := by
  cases hl : vs.lookup k with
  | none =>
    have htl : ts.lookup k = none := by
      rcases h.lookup k with ⟨h1, _⟩ | ⟨t, v, m1, _, h2, _⟩
      · exact h1
      · rw [hl] at h2; cases h2
    refine ⟨[], m, Fits.refl _, Or.inl ⟨htl, rfl, rfl⟩, fun R' hR t' v' mv' hr' => ⟨ts ++ [(k, t')], m ++ mv', ?_, fun k' => ?_, fun p hp => ?_, fun f => by simp only [List.map_append, List.sum_append]; omega⟩⟩
    · unfold putL
      rw [hl]
      refine (h.monoNe fun k' t v m h1 hr => hR _ _ _ _ (fun e => ?_) hr).append (KidsK.single hr')
      subst e
      have : (ts.lookup k').isSome := by
        cases hx : ts.lookup k' with
        | some _ => rfl
        | none =>
          have h2 : k' ∈ vs.map (·.1) := by rw [← h.keys]; exact List.mem_map.2 ⟨_, h1, rfl⟩
          obtain ⟨p, hp, e⟩ := List.mem_map.1 h2
          have := lookup_of_mem hn (show (p.1, p.2) ∈ vs from hp)
          rw [e, hl] at this
          cases this
      rw [htl] at this
      cases this
    · rw [lookup_append, List.lookup_cons]
      by_cases e : k' = k
      · subst e
        rw [htl, if_pos rfl, BEq.rfl]
        rfl
      · rw [if_neg e, show (k' == k) = false by simpa using e]
        simp
    · rcases List.mem_append.1 hp with h1 | h1
      · exact Or.inr ⟨p, h1, rfl⟩
      · rw [List.mem_singleton.1 h1]; exact Or.inl rfl
  | some v =>
    obtain ⟨ts1, t, ts2, m1, mv, m2, rfl, h2, rfl, h3, h4⟩ := h.swap2 hl hn
    refine ⟨mv, m1 ++ m2, fun f => by simp only [List.map_append, List.sum_append]; omega, Or.inr ⟨t, v, lookup_mid_self h2 t, rfl, h3⟩, fun R' hR t' v' mv' hr' => ⟨_, m1 ++ (mv' ++ m2), ?_, fun k' => lookup_mid h2 t t' k', fun p hp => ?_, fun f => ?_⟩⟩
    · unfold putL
      rw [hl]
      exact h4 R' hR t' v' mv' hr'
    · rcases List.mem_append.1 hp with h1 | h1
      · exact Or.inr ⟨p, List.mem_append_left _ h1, rfl⟩
      · rcases List.mem_cons.1 h1 with rfl | h1
        · exact Or.inl rfl
        · exact Or.inr ⟨p, List.mem_append_right _ (List.mem_cons_of_mem _ h1), rfl⟩
    · simp only [List.map_append, List.sum_append]; omega
theorem putL_same {vs : List (Key × Value)} {k : Key} {v : Value} (hn : (vs.map (·.1)).Nodup) (h : vs.lookup k = some v) : putL vs k v = vs := by
  unfold putL
  rw [h]
  show (vs.map fun p => if p.1 = k then (k, v) else p) = vs
  conv => rhs; rw [← List.map_id vs]
  apply List.map_congr_left
  intro p hp
  by_cases e : p.1 = k
  · rw [if_pos e]
    have := lookup_of_mem hn (show (p.1, p.2) ∈ vs from hp)
    rw [e, h] at this
    cases this
    rw [← e]
    rfl
  · rw [if_neg e]
    rfl

end Go.Proofs.Ytnnclcfklbeocaa

/-
  Pairs whose trees may lie otherwise under one key than under another ('KidsK'), and values of which parts are shared ('RepX').
  No condition: definitions and lemmas.
-/
import Derived.Test.YtnnclcfklbeocaaW15
namespace Go.Proofs.Ytnnclcfklbeocaa
open Go.RowKit

/-- Keys and values that lie, pair by pair, as keys and trees; how, may hang on the key. -/
def KidsK (R : Key → T → Value → Heap → Prop) : List (Key × T) → List (Key × Value) → Heap → Prop
  | [], [], m => m = []
  | (k, t) :: ts, (k', v) :: vs, m => k = k' ∧ ∃ m1 m2, m = m1 ++ m2 ∧ R k t v m1 ∧ KidsK R ts vs m2
  | _, _, _ => False

variable {R R' : Key → T → Value → Heap → Prop}

theorem KidsK.mono (hR : ∀ k t v m, R k t v m → R' k t v m) : ∀ {ts : List (Key × T)} {vs : List (Key × Value)} {m : Heap}, KidsK R ts vs m → KidsK R' ts vs m
  | [], [], _, h => h
  | (_, _) :: _, (_, _) :: _, _, ⟨hk, m1, m2, hm, hr, hs⟩ => ⟨hk, m1, m2, hm, hR _ _ _ _ hr, KidsK.mono hR hs⟩
  | [], _ :: _, _, h => h.elim
  | _ :: _, [], _, h => h.elim
theorem Kids.toK {R0 : T → Value → Heap → Prop} (hR : ∀ k t v m, R0 t v m → R k t v m) : ∀ {ts : List (Key × T)} {vs : List (Key × Value)} {m : Heap}, Kids R0 ts vs m → KidsK R ts vs m
  | [], [], _, h => h
  | (_, _) :: _, (_, _) :: _, _, ⟨hk, m1, m2, hm, hr, hs⟩ => ⟨hk, m1, m2, hm, hR _ _ _ _ hr, Kids.toK hR hs⟩
  | [], _ :: _, _, h => h.elim
  | _ :: _, [], _, h => h.elim
theorem KidsK.keys : ∀ {ts : List (Key × T)} {vs : List (Key × Value)} {m : Heap}, KidsK R ts vs m → ts.map (·.1) = vs.map (·.1)
  | [], [], _, _ => rfl
  | (k, t) :: ts, (k', v) :: vs, m, h => by
    obtain ⟨hk, m1, m2, hm, hr, hs⟩ := h
    rw [List.map_cons, List.map_cons, KidsK.keys hs, hk]
  | [], _ :: _, _, h => h.elim
  | _ :: _, [], _, h => h.elim
theorem KidsK.append : ∀ {ts : List (Key × T)} {vs : List (Key × Value)} {m : Heap}, KidsK R ts vs m → ∀ {ts' : List (Key × T)} {vs' : List (Key × Value)} {m' : Heap}, KidsK R ts' vs' m' → KidsK R (ts ++ ts') (vs ++ vs') (m ++ m')
  | [], [], _, h, _, _, _, h' => by
    have : _ = [] := h
    subst this
    exact h'
  | (k, t) :: ts, (k', v) :: vs, m, h, _, _, _, h' => by
    obtain ⟨hk, m1, m2, rfl, hr, hs⟩ := h
    exact ⟨hk, m1, _, List.append_assoc _ _ _, hr, KidsK.append hs h'⟩
  | [], _ :: _, _, h, _, _, _, _ => h.elim
  | _ :: _, [], _, h, _, _, _, _ => h.elim
theorem KidsK.single {k : Key} {t : T} {v : Value} {m : Heap} (h : R k t v m) : KidsK R [(k, t)] [(k, v)] m := ⟨rfl, m, [], by simp, h, rfl⟩
theorem KidsK.lookup (k : Key) : ∀ {ts : List (Key × T)} {vs : List (Key × Value)} {m : Heap}, KidsK R ts vs m →
    (ts.lookup k = none ∧ vs.lookup k = none) ∨ ∃ t v m1, ts.lookup k = some t ∧ vs.lookup k = some v ∧ R k t v m1 ∧ ∀ x ∈ m1, x ∈ m
  | [], [], _, _ => Or.inl ⟨rfl, rfl⟩
  | (k', t) :: ts, (k'', v) :: vs, m, h => by
    obtain ⟨rfl, m1, m2, rfl, hr, hs⟩ := h
    rw [List.lookup_cons, List.lookup_cons]
    cases e : (k == k') with
    | true =>
      have e' : k = k' := by simpa using e
      subst e'
      exact Or.inr ⟨t, v, m1, rfl, rfl, hr, fun x hx => List.mem_append_left _ hx⟩
    | false =>
      rcases KidsK.lookup k hs with ⟨h1, h2⟩ | ⟨t', v', m', h1, h2, h3, h4⟩
      · exact Or.inl ⟨h1, h2⟩
      · exact Or.inr ⟨t', v', m', h1, h2, h3, fun x hx => List.mem_append_right _ (h4 x hx)⟩
  | [], _ :: _, _, h => h.elim
  | _ :: _, [], _, h => h.elim
theorem KidsK.out {k : Key} {v : Value} : ∀ {ts : List (Key × T)} {vs : List (Key × Value)} {m : Heap}, KidsK R ts vs m → vs.lookup k = some v →
    ∃ ts1 t ts2 m1 mv m2, ts = ts1 ++ (k, t) :: ts2 ∧ ts1.lookup k = none ∧ m = m1 ++ (mv ++ m2) ∧ R k t v mv ∧ ∀ t' mv', R k t' v mv' → KidsK R (ts1 ++ (k, t') :: ts2) vs (m1 ++ (mv' ++ m2))
  | [], [], _, _, h => by cases h
  | (k1, t1) :: ts, (k2, v2) :: vs, m, hk, h => by
    obtain ⟨rfl, ma, mb, rfl, hr, hs⟩ := hk
    rw [List.lookup_cons] at h
    by_cases e : k = k1
    · subst e
      simp only [BEq.rfl] at h
      cases h
      exact ⟨[], t1, ts, [], ma, mb, rfl, rfl, rfl, hr, fun t' mv' hr' => ⟨rfl, mv', mb, rfl, hr', hs⟩⟩
    · rw [show (k == k1) = false by simpa using e] at h
      obtain ⟨ts1, t, ts2, m1, mv, m2, rfl, h2, rfl, h3, h4⟩ := KidsK.out hs h
      refine ⟨(k1, t1) :: ts1, t, ts2, ma ++ m1, mv, m2, rfl, ?_, by rw [List.append_assoc], h3, fun t' mv' hr' => ⟨rfl, ma, _, by rw [List.append_assoc], hr, h4 t' mv' hr'⟩⟩
      rw [List.lookup_cons, show (k == k1) = false by simpa using e]
      exact h2
  | [], _ :: _, _, hk, _ => hk.elim
  | _ :: _, [], _, hk, _ => hk.elim
theorem KidsK.less (k : Key) : ∀ {ts : List (Key × T)} {vs : List (Key × Value)} {m : Heap}, KidsK R ts vs m →
    ∃ m', KidsK R (ts.filter fun p => !(p.1 == k)) (vs.filter fun p => !(p.1 == k)) m' ∧ Fits m m'
  | [], [], _, h => ⟨_, h, Fits.refl _⟩
  | (k1, t1) :: ts, (k2, v2) :: vs, m, hk => by
    obtain ⟨rfl, ma, mb, rfl, hr, hs⟩ := hk
    obtain ⟨m', h1, h2⟩ := KidsK.less k hs
    by_cases e : k1 = k
    · rw [List.filter_cons_of_neg (by simpa using e), List.filter_cons_of_neg (by simpa using e)]
      exact ⟨m', h1, fun f => by have := h2 f; simp only [List.map_append, List.sum_append]; omega⟩
    · rw [List.filter_cons_of_pos (by simpa using e), List.filter_cons_of_pos (by simpa using e)]
      exact ⟨ma ++ m', ⟨rfl, ma, m', rfl, hr, h1⟩, Fits.app (Fits.refl _) h2⟩
  | [], _ :: _, _, hk => hk.elim
  | _ :: _, [], _, hk => hk.elim
/-- The same, where more of the key's old value is let go: another value under a key that is there. -/
theorem KidsK.swap {k : Key} {v : Value} : ∀ {ts : List (Key × T)} {vs : List (Key × Value)} {m : Heap}, KidsK R ts vs m → vs.lookup k = some v → (vs.map (·.1)).Nodup →
    ∃ ts1 t ts2 m1 mv m2, ts = ts1 ++ (k, t) :: ts2 ∧ ts1.lookup k = none ∧ m = m1 ++ (mv ++ m2) ∧ R k t v mv ∧ ∀ t' v' mv', R k t' v' mv' → KidsK R (ts1 ++ (k, t') :: ts2) (vs.map fun p => if p.1 = k then (k, v') else p) (m1 ++ (mv' ++ m2))
  | [], [], _, _, h, _ => by cases h
  | (k1, t1) :: ts, (k2, v2) :: vs, m, hk, h, hn => by
    obtain ⟨rfl, ma, mb, rfl, hr, hs⟩ := hk
    rw [List.map_cons, List.nodup_cons] at hn
    rw [List.lookup_cons] at h
    by_cases e : k = k1
    · subst e
      simp only [BEq.rfl] at h
      cases h
      refine ⟨[], t1, ts, [], ma, mb, rfl, rfl, rfl, hr, fun t' v' mv' hr' => ?_⟩
      have hsame : (vs.map fun p => if p.1 = k then (k, v') else p) = vs := by
        conv => rhs; rw [← List.map_id vs]
        apply List.map_congr_left
        intro p hp
        rw [if_neg (fun e => hn.1 (List.mem_map.2 ⟨p, hp, e⟩))]
        rfl
      rw [List.map_cons, if_pos rfl, hsame]
      exact ⟨rfl, mv', mb, rfl, hr', hs⟩
    · rw [show (k == k1) = false by simpa using e] at h
      obtain ⟨ts1, t, ts2, m1, mv, m2, rfl, h2, rfl, h3, h4⟩ := KidsK.swap hs h hn.2
      refine ⟨(k1, t1) :: ts1, t, ts2, ma ++ m1, mv, m2, rfl, ?_, by rw [List.append_assoc], h3, fun t' v' mv' hr' => ?_⟩
      · rw [List.lookup_cons, show (k == k1) = false by simpa using e]
        exact h2
      · rw [List.map_cons, if_neg (fun e' => e e'.symm)]
        exact ⟨rfl, ma, _, by rw [List.append_assoc], hr, h4 t' v' mv' hr'⟩
  | [], _ :: _, _, hk, _, _ => hk.elim
  | _ :: _, [], _, hk, _, _ => hk.elim
theorem kidsK_none {ts : List (Key × T)} {vs : List (Key × Value)} {m : Heap} (h : KidsK R ts vs m) {k : Key} (hn : ts.lookup k = none) : vs.lookup k = none := by
  rcases h.lookup k with ⟨_, h2⟩ | ⟨t, v, m1, h2, _⟩
  · exact h2
  · rw [hn] at h2; cases h2

end Go.Proofs.Ytnnclcfklbeocaa

/-
  Tables of spec values, as their pairs lie ('RepS.tab', 'RepS.mkK'); one pair taken out and another put in ('spec_hole').
  No condition: definitions and lemmas.
-/
import Derived.Test.YtnnclcfklbeocaaW28
namespace Go.Proofs.Ytnnclcfklbeocaa
open Go.RowKit

/-- The cells of a table. -/
abbrev tcell (r : Nat) : Obj := .cells (sCells 6 false 0 [] nilS (.map (some r))) 40 (0, 0)

theorem KidsK.toKids {R0 : T → Value → Heap → Prop} : ∀ {ts : List (Key × T)} {vs : List (Key × Value)} {m : Heap}, KidsK (fun _ => R0) ts vs m → Kids R0 ts vs m
  | [], [], _, h => h
  | (_, _) :: _, (_, _) :: _, _, ⟨hk, m1, m2, hm, hr, hs⟩ => ⟨hk, m1, m2, hm, hr, hs.toKids⟩
  | [], _ :: _, _, h => h.elim
  | _ :: _, [], _, h => h.elim
theorem RepS.tab {n : Nat} {es : List (Key × T)} {v : Value} {m : Heap} (h : RepS n (.tab es) v m) : ∃ b r kv kts mk, v = ptr b ∧ KeysOk es ∧ kts.Perm es ∧ KidsK (fun _ => RepS n) kts (KV.list kv) mk ∧ m = (b, tcell r) :: (r, kv.obj) :: mk := by
  have h' : RepS1 (RepS n) (.tab es) v m := by
    cases n with
    | zero => exact RepS1.mono (fun _ _ _ hf => hf.elim) h
    | succ n => exact RepS1.mono (fun _ _ _ hf => hf.succ) h
  obtain ⟨b, r, kv, kts, mk, hv, hok, hp, hk, hm⟩ := h'
  exact ⟨b, r, kv, kts, mk, hv, hok, hp, hk.toK (fun _ _ _ _ h => h), hm⟩
theorem RepS.mkK {n b r : Nat} {kts : List (Key × T)} {kv : KV} {mk : Heap} (hk : KidsK (fun _ => RepS n) kts kv.list mk) (hn : ∀ p, p ∈ kts → Nm p.1) :
    RepS (n + 1) (.tab (sortK kts)) (ptr b) ((b, tcell r) :: (r, kv.obj) :: mk) ∧ KeysOk (sortK kts) ∧ ∀ k, (sortK kts).lookup k = kts.lookup k := by
  have hnd : (kts.map (·.1)).Nodup := by rw [hk.keys]; exact kv.nodup
  have hok := sortK_ok hnd hn
  exact ⟨⟨b, r, kv, kts, mk, rfl, hok, (sortK_perm kts).symm, hk.toKids, rfl⟩, hok, sortK_lookup hnd⟩
theorem RepS.notab {n : Nat} {t : T} {v : Value} {m : Heap} (h : RepS n t v m) : ∃ b o mm, v = ptr b ∧ m = (b, Obj.cells o 40 (0, 0)) :: mm ∧ o.toList[0 + 0]? = some (.int .i64 (kindT t)) := by
  obtain ⟨b, x, i, s, it, mp, mm, h1, h2⟩ := h.kind
  exact ⟨b, _, mm, h1, h2, rfl⟩
theorem kind_ne {t : T} (h : ∀ es, t ≠ .tab es) : kindT t ≠ 6 := fun e => by
  obtain ⟨es, e⟩ := kind_tab e
  exact h es e

/-- What is left of pairs, when k's is taken out: another may be put in. -/
def Refill (n : Nat) (dts : List (Key × T)) (vs : List (Key × Value)) (k : Key) (mr : Heap) : Prop := ∀ n2, n ≤ n2 → ∀ t' v' mv', RepS n2 t' v' mv' →
  ∃ ts' m', KidsK (fun _ => RepS n2) ts' (putL vs k v') m' ∧ (∀ k', ts'.lookup k' = if k' = k then some t' else dts.lookup k') ∧ (∀ p, p ∈ ts' → p.1 = k ∨ ∃ q, q ∈ dts ∧ q.1 = p.1) ∧ Fits (mv' ++ mr) m'
theorem spec_hole {n : Nat} (k : Key) {dts : List (Key × T)} {vs : List (Key × Value)} {m : Heap} (h : KidsK (fun _ => RepS n) dts vs m) (hn : (vs.map (·.1)).Nodup) :
    ∃ mv mr, Fits m (mv ++ mr) ∧ ((dts.lookup k = none ∧ vs.lookup k = none ∧ mv = [] ∧ mr = m) ∨ ∃ t b, dts.lookup k = some t ∧ vs.lookup k = some (ptr b) ∧ RepS n t (ptr b) mv) ∧ Refill n dts vs k mr := by
  obtain ⟨mv, mr, h1, h2, h3⟩ := h.hole k hn
  have h4 : Refill n dts vs k mr := fun n2 hn2 t' v' mv' hr => h3 (fun _ => RepS n2) (fun _ _ _ _ _ h => h.le hn2) t' v' mv' hr
  rcases h2 with ⟨h5, h6, rfl⟩ | ⟨t, v, h5, h6, h7⟩
  · refine ⟨[], m, Fits.refl _, Or.inl ⟨h5, h6, rfl, rfl⟩, fun n2 hn2 t' v' mv' hr => ?_⟩
    obtain ⟨ts', m', g1, g2, g3, g4⟩ := h4 n2 hn2 t' v' mv' hr
    refine ⟨ts', m', g1, g2, g3, fun f => ?_⟩
    have e1 := h1 f
    have e2 := g4 f
    simp only [List.nil_append, List.map_append, List.sum_append] at e1 e2 ⊢
    omega
  · obtain ⟨b, _, _, _, _, _, _, rfl, _⟩ := h7.kind
    exact ⟨mv, mr, h1, Or.inr ⟨t, b, h5, h6, h7⟩, h4⟩
/-- The same one put in again. -/
theorem Refill.same {n : Nat} {k : Key} {dts : List (Key × T)} {vs : List (Key × Value)} {mv mr : Heap} (h : Refill n dts vs k mr) (hn : (vs.map (·.1)).Nodup) {n2 : Nat} (hn2 : n ≤ n2) {t t' : T} {v : Value} (hv : vs.lookup k = some v) (ht : dts.lookup k = some t) (hr : RepS n2 t' v mv) :
    ∃ ts' m', KidsK (fun _ => RepS n2) ts' vs m' ∧ (∀ k', ts'.lookup k' = if k' = k then some t' else dts.lookup k') ∧ (∀ p, p ∈ ts' → ∃ q, q ∈ dts ∧ q.1 = p.1) ∧ Fits (mv ++ mr) m' := by
  obtain ⟨ts', m', g1, g2, g3, g4⟩ := h n2 hn2 t' v mv hr
  rw [putL_same hn hv] at g1
  exact ⟨ts', m', g1, g2, fun p hp => (g3 p hp).elim (fun e => ⟨(k, t), mem_of_lookup ht, e.symm⟩) id, g4⟩

theorem RepS.hg : ∀ {n : Nat} {t : T} {v : Value} {m : Heap}, RepS n t v m → Hg n t := by
  intro n
  induction n with
  | zero =>
    intro t v m h
    cases t with
    | tab es =>
      obtain ⟨b, r, kv, kts, mk, h1, h2, h3, h4, h5⟩ := h
      show es = []
      cases kts with
      | nil => exact h3.symm.eq_nil
      | cons p kts =>
        obtain ⟨k, t⟩ := p
        match hl : kv.list, h4 with
        | [], h4 => exact h4.elim
        | (k', v) :: vs, h4 => obtain ⟨_, _, _, _, h, _⟩ := h4; exact h.elim
    | _ => trivial
  | succ n ih =>
    intro t v m h
    cases t with
    | tab es =>
      obtain ⟨b, r, kv, kts, mk, h1, h2, h3, h4, h5⟩ := h
      exact fun p hp => h4.hg (fun _ _ _ h => ih h) p (h3.mem_iff.2 hp)
    | _ => trivial

end Go.Proofs.Ytnnclcfklbeocaa

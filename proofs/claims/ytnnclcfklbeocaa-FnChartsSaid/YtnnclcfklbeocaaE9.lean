/-
  The engine, part 9: ways that meet again; places in short lists; a table of which one key is set.
  No condition: general lemmas.
-/
import Derived.Test.YtnnclcfklbeocaaW0
namespace Go.Proofs.Ytnnclcfklbeocaa
open Go.RowKit

section
variable {P : Program} {W0 : World} {n : Nat} {Q : Exit → Act → World → Prop} {L : Slots} {M : Heap}
/-- Where the ways through a piece of code meet again. -/
def Mid (W0 : World) (n : Nat) (I : Slots → Heap → Prop) : Act → World → Prop := fun a w => ∃ L M, I L M ∧ St n L a ∧ Own W0 M w
theorem c_cut {x y : Code} (I : Slots → Heap → Prop) (h1 : C P W0 n (Exit.then (Mid W0 n I) Q) L M x) (h2 : ∀ L' M', I L' M' → C P W0 n Q L' M' y) : C P W0 n Q L M (.seq x y) :=
  ⟨fun a w ha hw => wp_seq (Code.wp_mono (fun e a' w' h => by
    cases e <;> first
      | exact h
      | (obtain ⟨L', M', hI, ha', hw'⟩ := h; exact (h2 L' M' hI).run a' w' ha' hw')) (h1.run a w ha hw))⟩
theorem e_mid {I : Slots → Heap → Prop} {L' : Slots} (hk : Keep L L') (hI : I L' M) : E W0 n (Exit.then (Mid W0 n I) Q) L M .normal := ⟨fun _ _ ha hw => ⟨L', M, hI, ha.keep hk, hw⟩⟩
end

section
variable {α : Type} {x a b c d e f g h i : α} {l : List α}
theorem m0 : x ∈ x :: l := List.mem_cons_self
theorem m1 : x ∈ a :: x :: l := .tail _ m0
theorem m2 : x ∈ a :: b :: x :: l := .tail _ m1
theorem m3 : x ∈ a :: b :: c :: x :: l := .tail _ m2
theorem m4 : x ∈ a :: b :: c :: d :: x :: l := .tail _ m3
theorem m5 : x ∈ a :: b :: c :: d :: e :: x :: l := .tail _ m4
theorem m6 : x ∈ a :: b :: c :: d :: e :: f :: x :: l := .tail _ m5
theorem m7 : x ∈ a :: b :: c :: d :: e :: f :: g :: x :: l := .tail _ m6
theorem m8 : x ∈ a :: b :: c :: d :: e :: f :: g :: h :: x :: l := .tail _ m7
theorem Fits.refl (l : List α) : Fits l l := fun _ => Nat.le_refl _
theorem Fits.tail : Fits (x :: l) l := fun f => by rw [List.map_cons, List.sum_cons]; omega
theorem Fits.cons {l' : List α} (h : Fits l l') : Fits (x :: l) (x :: l') := fun f => by
  have := h f
  simp only [List.map_cons, List.sum_cons]; omega
theorem Fits.trans {l1 l2 l3 : List α} (h : Fits l1 l2) (h' : Fits l2 l3) : Fits l1 l3 := fun f => Nat.le_trans (h' f) (h f)
theorem Fits.app {l1 l2 l3 l4 : List α} (h : Fits l1 l3) (h' : Fits l2 l4) : Fits (l1 ++ l2) (l3 ++ l4) := fun f => by
  have := h f
  have := h' f
  simp only [List.map_append, List.sum_append]; omega
theorem Fits.of_perm {l l' : List α} (h : l.Perm l') : Fits l l' := fun f => Nat.le_of_eq ((h.map f).sum_nat.symm)
theorem Fits.sub {l l' : List α} (h : Fits l l') : ∀ x, x ∈ l' → x ∈ l := fun _ hx => h.mem hx
end

/-- A list of keys and trees in which a key's tree is set. -/
def putT (l : List (Key × T)) (k : Key) (t : T) : List (Key × T) := if (l.lookup k).isSome then l.map fun p => if p.1 = k then (k, t) else p else l ++ [(k, t)]

theorem putT_keys (l : List (Key × T)) (k : Key) (t : T) : ∀ p ∈ putT l k t, p.1 = k ∨ ∃ q ∈ l, q.1 = p.1 := by
  intro p hp
  unfold putT at hp
  split at hp
  · obtain ⟨q, hq, rfl⟩ := List.mem_map.1 hp
    by_cases h : q.1 = k
    · rw [if_pos h]; exact Or.inl rfl
    · rw [if_neg h]; exact Or.inr ⟨q, hq, rfl⟩
  · rcases List.mem_append.1 hp with hp | hp
    · exact Or.inr ⟨p, hp, rfl⟩
    · simp only [List.mem_singleton] at hp
      subst hp; exact Or.inl rfl

/-- The table with that key set; what the key had before is let go. -/
theorem Kids.put {R : T → Value → Heap → Prop} {k : Key} {t : T} {v : Value} {m1 : Heap} (h1 : R t v m1) : ∀ {ts : List (Key × T)} {vs : List (Key × Value)} {m : Heap}, (vs.map (·.1)).Nodup → Kids R ts vs m →
    ∃ m', Kids R (putT ts k t) (putL vs k v) m' ∧ Fits (m ++ m1) m' := by
  have away : ∀ {ts : List (Key × T)} {vs : List (Key × Value)} {m : Heap}, (∀ p ∈ vs, p.1 ≠ k) → Kids R ts vs m → Kids R (ts.map fun p => if p.1 = k then (k, t) else p) (vs.map fun p => if p.1 = k then (k, v) else p) m := by
    intro ts vs m hne hk
    have e1 : (vs.map fun p => if p.1 = k then (k, v) else p) = vs := by
      conv => rhs; rw [← List.map_id vs]
      apply List.map_congr_left
      intro p hp
      rw [if_neg (hne p hp)]; rfl
    have e2 : (ts.map fun p => if p.1 = k then (k, t) else p) = ts := by
      conv => rhs; rw [← List.map_id ts]
      apply List.map_congr_left
      intro p hp
      have : p.1 ∈ vs.map (·.1) := by rw [← hk.keys]; exact List.mem_map.2 ⟨p, hp, rfl⟩
      obtain ⟨q, hq, e⟩ := List.mem_map.1 this
      rw [if_neg (by rw [← e]; exact hne q hq)]; rfl
    rw [e1, e2]; exact hk
  have there : ∀ (ts : List (Key × T)) (vs : List (Key × Value)) (m : Heap), (vs.map (·.1)).Nodup → Kids R ts vs m → (vs.lookup k).isSome = true →
      ∃ m', Kids R (ts.map fun p => if p.1 = k then (k, t) else p) (vs.map fun p => if p.1 = k then (k, v) else p) m' ∧ Fits (m ++ m1) m' := by
    intro ts
    induction ts with
    | nil =>
      intro vs m _ hk hl
      cases vs with
      | nil => cases hl
      | cons p vs => exact hk.elim
    | cons p ts ih =>
      intro vs m hnd hk hl
      cases vs with
      | nil => exact hk.elim
      | cons q vs =>
        obtain ⟨k1, t1⟩ := p
        obtain ⟨k2, v2⟩ := q
        obtain ⟨rfl, ma, mb, rfl, hr, hs⟩ := hk
        rw [List.map_cons, List.nodup_cons] at hnd
        by_cases h : k1 = k
        · subst h
          have hne : ∀ p ∈ vs, p.1 ≠ k1 := fun p hp e => hnd.1 (List.mem_map.2 ⟨p, hp, e⟩)
          have ha := away hne hs
          simp only [List.map_cons, if_true]
          refine ⟨m1 ++ mb, ⟨rfl, m1, mb, rfl, h1, ha⟩, fun f => ?_⟩
          simp only [List.map_append, List.sum_append]; omega
        · have hl' : (vs.lookup k).isSome = true := by
            rw [List.lookup_cons] at hl
            have : (k == k1) = false := by simpa using fun e => h e.symm
            rw [this] at hl
            exact hl
          obtain ⟨m', h2, h3⟩ := ih vs mb hnd.2 hs hl'
          simp only [List.map_cons, if_neg h]
          refine ⟨ma ++ m', ⟨rfl, ma, m', rfl, hr, h2⟩, fun f => ?_⟩
          have := h3 f
          simp only [List.map_append, List.sum_append] at this ⊢; omega
  intro ts vs m hnd hk
  unfold putT putL
  rcases hk.lookup k with ⟨h2, h3⟩ | ⟨t', v', m', h2, h3, _⟩
  · rw [h2, h3]
    exact ⟨m ++ m1, hk.append (Kids.single h1), Fits.refl _⟩
  · rw [h2, h3]
    simp only [Option.isSome_some, if_true]
    exact there ts vs m hnd hk (by rw [h3]; rfl)

end Go.Proofs.Ytnnclcfklbeocaa

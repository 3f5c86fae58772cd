/-
  The globals from above, made ready to be shared ('FX'): tables down to the second keep their own blocks, what is below is shared.
  No condition: definitions and lemmas.
-/
import Derived.Test.YtnnclcfklbeocaaW22
namespace Go.Proofs.Ytnnclcfklbeocaa
open Go.RowKit

theorem kidsK_nil {R : Key → T → Value → Heap → Prop} {vs : List (Key × Value)} {m : Heap} (h : KidsK R [] vs m) : vs = [] ∧ m = [] := by
  cases vs with
  | nil => exact ⟨rfl, h⟩
  | cons _ _ => exact h.elim
theorem kids_nil {R : T → Value → Heap → Prop} {vs : List (Key × Value)} {m : Heap} (h : Kids R [] vs m) : vs = [] ∧ m = [] := by
  cases vs with
  | nil => exact ⟨rfl, h⟩
  | cons _ _ => exact h.elim
theorem RepA.low {n : Nat} {t : T} {v : Value} {m : Heap} (h : RepA n t v m) (hg : Hg 0 t) : RepA 0 t v m := by
  cases t with
  | tab es =>
    obtain rfl : es = [] := hg
    have h1 : ∃ (r : Nat) (kv : KV) (kts : List (Key × T)) (mk : Heap), v = .iface 63 (.map (some r)) ∧ kts.Perm [] ∧ (∃ R, Kids R kts kv.list mk) ∧ m = (r, kv.obj) :: mk := by
      cases n with
      | zero => obtain ⟨r, kv, kts, mk, h1, _, h3, h4, h5⟩ := h; exact ⟨r, kv, kts, mk, h1, h3, ⟨_, h4⟩, h5⟩
      | succ n => obtain ⟨r, kv, kts, mk, h1, _, h3, h4, h5⟩ := h; exact ⟨r, kv, kts, mk, h1, h3, ⟨_, h4⟩, h5⟩
    obtain ⟨r, kv, kts, mk, rfl, h3, ⟨R, h4⟩, rfl⟩ := h1
    obtain rfl := h3.eq_nil
    obtain ⟨h5, rfl⟩ := kids_nil h4
    exact ⟨r, kv, [], [], rfl, ⟨List.Pairwise.nil, fun _ h => (by cases h)⟩, List.Perm.refl _, by rw [h5]; exact rfl, rfl⟩
  | _ => cases n <;> exact h

theorem KidsK.off {R R' : Key → T → Value → Heap → Prop} : ∀ {ts : List (Key × T)} {vs : List (Key × Value)} {m : Heap}, KidsK R ts vs m → (∀ k t v m1, (k, t) ∈ ts → R k t v m1 → (∀ x, x ∈ m1 → x ∈ m) → R' k t v []) → KidsK R' ts vs []
  | [], [], _, _, _ => rfl
  | (k, t) :: ts, (k', v) :: vs, m, h, hR => by
    obtain ⟨hk, m1, m2, rfl, hr, hs⟩ := h
    exact ⟨hk, [], [], rfl, hR k t v m1 List.mem_cons_self hr (fun x hx => List.mem_append_left _ hx), hs.off fun k t v m1 h1 h2 h3 => hR k t v m1 (List.mem_cons_of_mem _ h1) h2 fun x hx => List.mem_append_right _ (h3 x hx)⟩
  | [], _ :: _, _, h, _ => h.elim
  | _ :: _, [], _, h, _ => h.elim
theorem KidsK.perm {R : Key → T → Value → Heap → Prop} {vs vs' : List (Key × Value)} (hp : vs.Perm vs') : ∀ {ts : List (Key × T)} {m : Heap}, KidsK R ts vs m → ∃ ts' m', ts.Perm ts' ∧ m.Perm m' ∧ KidsK R ts' vs' m' := by
  induction hp with
  | nil => intro ts m h; exact ⟨ts, m, .refl _, .refl _, h⟩
  | cons x _ ih =>
    intro ts m h
    cases ts with
    | nil => exact h.elim
    | cons y ts =>
      obtain ⟨k, t⟩ := y
      obtain ⟨k', v⟩ := x
      obtain ⟨hk, m1, m2, rfl, hr, hs⟩ := h
      obtain ⟨ts', m', h1, h2, h3⟩ := ih hs
      exact ⟨(k, t) :: ts', m1 ++ m', h1.cons _, h2.append_left _, hk, m1, m', rfl, hr, h3⟩
  | swap x y l =>
    intro ts m h
    match ts, h with
    | [], h => exact h.elim
    | [p], h =>
      obtain ⟨k, t⟩ := p
      obtain ⟨k', v⟩ := y
      obtain ⟨hk, m1, m2, rfl, hr, hs⟩ := h
      exact hs.elim
    | p :: q :: ts, h =>
      obtain ⟨k1, t1⟩ := p
      obtain ⟨k2, t2⟩ := q
      obtain ⟨k1', v1⟩ := y
      obtain ⟨k2', v2⟩ := x
      obtain ⟨hk1, m1, _, rfl, hr1, hk2, m2, m3, rfl, hr2, hs⟩ := h
      refine ⟨(k2, t2) :: (k1, t1) :: ts, m2 ++ (m1 ++ m3), .swap _ _ _, ?_, hk2, m2, _, rfl, hr2, hk1, m1, m3, rfl, hr1, hs⟩
      rw [← List.append_assoc, ← List.append_assoc]
      exact List.perm_append_comm.append_right _
  | trans _ _ ih1 ih2 =>
    intro ts m h
    obtain ⟨ts1, m1, h1, h2, h3⟩ := ih1 h
    obtain ⟨ts2, m2, h4, h5, h6⟩ := ih2 h3
    exact ⟨ts2, m2, h1.trans h4, h2.trans h5, h6⟩

/-- One of the globals from above: a table of its own, all below it shared; or what is no table, shared. -/
def FX (S : Heap) (t : T) (v : Value) (m : Heap) : Prop :=
  (∃ es rx kvx kts, t = .tab es ∧ v = .iface 63 (.map (some rx)) ∧ KeysOk es ∧ kts.Perm es ∧ KidsK (fun _ => Shared S .Y) kts (KV.list kvx) [] ∧ m = [(rx, kvx.obj)]) ∨ ((∀ es, t ≠ .tab es) ∧ m = [] ∧ Shared S .X t v [])
theorem FX.toX {S : Heap} {n : Nat} {t : T} {v : Value} {m : Heap} (h : FX S t v m) : RepX S (n + 1) .X t v m := by
  rcases h with ⟨es, rx, kvx, kts, rfl, rfl, h1, h2, h3, rfl⟩ | ⟨_, rfl, h⟩
  · refine Or.inl ⟨rx, kvx, kts, [], rfl, h1, h2, h3.mono (fun k t v m h => ?_), rfl⟩
    show RepX S n .Y t v m
    cases n <;> exact Or.inr h
  · exact Or.inr h
theorem FX.look {S : Heap} {t : T} {v : Value} {m : Heap} (h : FX S t v m) : Look t v := (h.toX (n := 0)).look

theorem freeze_one {S : Heap} {n : Nat} {t : T} {v : Value} {m : Heap} (h : RepX S n .X t v m) (hg : Hg 1 t) : ∃ m' N, Fits m (m' ++ N) ∧ ∀ S', (∀ x, x ∈ S → x ∈ S') → (∀ x, x ∈ N → x ∈ S') → FX S' t v m' := by
  by_cases ht : ∃ es, t = .tab es
  · obtain ⟨es, rfl⟩ := ht
    obtain ⟨r, kv, kts, mk, rfl, h1, h2, h3, rfl⟩ := h.succ.table (fun e => by cases e)
    refine ⟨[(r, kv.obj)], mk, Fits.refl _, fun S' hS hN => Or.inl ⟨es, r, kv, kts, rfl, rfl, h1, h2, h3.off fun k t v m1 hm hr hx => ?_, rfl⟩⟩
    have hg0 : Hg 0 t := hg (k, t) (h2.mem_iff.1 hm)
    obtain ⟨m0, h4, h5⟩ := RepX.toA (md := .Y) hr
    refine ⟨?_, rfl, m0, h4.low hg0, fun x hx' => (h5 x hx').elim (fun h => hN x (hx x h)) (hS x)⟩
    cases t <;> exact (by first | trivial | rfl)
  · have hnt : ∀ es, t ≠ .tab es := fun es e => ht ⟨es, e⟩
    obtain ⟨m0, h1, h2⟩ := h.leaf hnt
    refine ⟨[], m, Fits.refl _, fun S' hS hN => Or.inr ⟨hnt, rfl, ?_, rfl, m0, h1, fun x hx => (h2 x hx).elim (hN x) (hS x)⟩⟩
    cases t with
    | tab es => exact absurd rfl (hnt es)
    | _ => trivial
theorem freeze_kids {S : Heap} {n : Nat} : ∀ {ts : List (Key × T)} {vs : List (Key × Value)} {m : Heap}, KidsK (fun _ => RepX S n .X) ts vs m → (∀ p, p ∈ ts → Hg 1 p.2) → ∃ m' N, Fits m (m' ++ N) ∧ ∀ S', (∀ x, x ∈ S → x ∈ S') → (∀ x, x ∈ N → x ∈ S') → KidsK (fun _ => FX S') ts vs m'
  | [], [], m, h, _ => by
    obtain rfl : m = [] := h
    exact ⟨[], [], Fits.refl _, fun _ _ _ => rfl⟩
  | (k, t) :: ts, (k', v) :: vs, m, h, hg => by
    obtain ⟨hk, m1, m2, rfl, hr, hs⟩ := h
    obtain ⟨m1', N1, h1, h2⟩ := freeze_one hr (hg (k, t) List.mem_cons_self)
    obtain ⟨m2', N2, h3, h4⟩ := freeze_kids hs (fun p hp => hg p (List.mem_cons_of_mem _ hp))
    refine ⟨m1' ++ m2', N1 ++ N2, fun f => ?_, fun S' hS hN => ⟨hk, m1', m2', rfl, h2 S' hS (fun x hx => hN x (List.mem_append_left _ hx)), h4 S' hS (fun x hx => hN x (List.mem_append_right _ hx))⟩⟩
    have e1 := h1 f
    have e2 := h3 f
    simp only [List.map_append, List.sum_append] at e1 e2 ⊢
    omega
  | [], _ :: _, _, h, _ => h.elim
  | _ :: _, [], _, h, _ => h.elim
/-- The globals, frozen. -/
theorem freeze {S : Heap} {n : Nat} {sg : List (Key × T)} {v : Value} {m : Heap} (h : RepX S n .G (.tab sg) v m) (hg : Hg 2 (.tab sg)) : ∃ rg kvg kts mk N, v = .iface 63 (.map (some rg)) ∧ KeysOk sg ∧ kts.Perm sg ∧ KidsK (fun _ => FX (N ++ S)) kts (KV.list kvg) mk ∧ Fits m (((rg, kvg.obj) :: mk) ++ N) := by
  obtain ⟨r, kv, kts, mk, rfl, h1, h2, h3, rfl⟩ := h.succ.table (fun e => by cases e)
  obtain ⟨m', N, h4, h5⟩ := freeze_kids (S := S) (n := n) h3 (fun p hp => hg p (h2.mem_iff.1 hp))
  refine ⟨r, kv, kts, m', N, rfl, h1, h2, h5 _ (fun x hx => List.mem_append_right _ hx) (fun x hx => List.mem_append_left _ hx), fun f => ?_⟩
  have := h4 f
  simp only [List.cons_append, List.map_cons, List.sum_cons]
  omega
theorem frozen_toX {S : Heap} {n rg : Nat} {sg kts : List (Key × T)} {kvg : KV} {mk : Heap} (h1 : KeysOk sg) (h2 : kts.Perm sg) (h3 : KidsK (fun _ => FX S) kts kvg.list mk) : RepX S (n + 2) .G (.tab sg) (.iface 63 (.map (some rg))) ((rg, kvg.obj) :: mk) :=
  Or.inl ⟨rg, kvg, kts, mk, rfl, h1, h2, h3.mono (fun _ _ _ _ h => h.toX), rfl⟩

end Go.Proofs.Ytnnclcfklbeocaa

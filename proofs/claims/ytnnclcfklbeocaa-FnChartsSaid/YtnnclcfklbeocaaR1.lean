/-
  The law of two tables laid one over the other ('CoalV', key by key), that it has one answer, and pairs taken out of a table, set and put out.
  No condition: definitions and lemmas.
-/
import Derived.Test.YtnnclcfklbeocaaW11
namespace Go.Proofs.Ytnnclcfklbeocaa
open Go.RowKit

/-! ### keys and what they have -/
theorem mem_of_lookup {α : Type} : ∀ {l : List (Key × α)} {k : Key} {a : α}, l.lookup k = some a → (k, a) ∈ l
  | [], _, _, h => by cases h
  | (k', b) :: l, k, a, h => by
    rw [List.lookup_cons] at h
    by_cases e : k = k'
    · subst e
      simp only [BEq.rfl] at h
      cases h
      exact List.mem_cons_self
    · rw [show (k == k') = false by simpa using e] at h
      exact List.mem_cons_of_mem _ (mem_of_lookup h)
theorem lookup_append {α : Type} : ∀ (l l' : List (Key × α)) (k : Key), (l ++ l').lookup k = (l.lookup k).or (l'.lookup k)
  | [], _, _ => rfl
  | (k', a) :: l, l', k => by
    rw [List.cons_append, List.lookup_cons, List.lookup_cons]
    cases (k == k') with
    | true => rfl
    | false => exact lookup_append l l' k
theorem lookup_filter {α : Type} (k : Key) : ∀ (l : List (Key × α)) (k' : Key), (l.filter fun p => !(p.1 == k)).lookup k' = if k' = k then none else l.lookup k'
  | [], k' => by simp
  | (k1, a) :: l, k' => by
    have ih := lookup_filter k l k'
    by_cases e : k1 = k
    · subst e
      rw [List.filter_cons_of_neg (by simp), ih, List.lookup_cons]
      by_cases e2 : k' = k1
      · rw [if_pos e2, if_pos e2]
      · rw [if_neg e2, if_neg e2, show (k' == k1) = false by simpa using e2]
    · rw [List.filter_cons_of_pos (by simpa using e), List.lookup_cons, List.lookup_cons, ih]
      by_cases e2 : k' = k1
      · subst e2
        simp only [BEq.rfl, if_neg e]
      · rw [show (k' == k1) = false by simpa using e2]
theorem lookup_put {α : Type} (k : Key) (t : α) (l : List (Key × α)) (k' : Key) : (if (l.lookup k).isSome then l.map fun p => if p.1 = k then (k, t) else p else l ++ [(k, t)]).lookup k' = if k' = k then some t else l.lookup k' := by
  have hmap : ∀ l : List (Key × α), (l.map fun p => if p.1 = k then (k, t) else p).lookup k' = if k' = k then (l.lookup k).map (fun _ => t) else l.lookup k' := by
    intro l
    induction l with
    | nil => simp
    | cons p l ih =>
      obtain ⟨k1, a⟩ := p
      rw [List.map_cons]
      by_cases e : k1 = k
      · subst e
        simp only [if_true, List.lookup_cons, ih]
        by_cases e2 : k' = k1
        · subst e2; simp
        · rw [show (k' == k1) = false by simpa using e2]; simp only [if_neg e2]
      · simp only [if_neg e, List.lookup_cons, ih]
        by_cases e2 : k' = k1
        · subst e2
          simp only [BEq.rfl, if_neg e]
        · rw [show (k' == k1) = false by simpa using e2]
          by_cases e3 : k' = k
          · subst e3
            rw [show (k' == k1) = false by simpa using e2]
          · simp only [if_neg e3]
  split
  · rename_i h
    rw [hmap]
    cases hl : l.lookup k with
    | none => rw [hl] at h; cases h
    | some a => rfl
  · rename_i h
    rw [lookup_append, List.lookup_cons]
    by_cases e : k' = k
    · subst e
      have hn : l.lookup k' = none := by
        cases hl : l.lookup k' with
        | none => rfl
        | some a => rw [hl] at h; exact absurd rfl h
      simp [hn]
    · rw [show (k' == k) = false by simpa using e, if_neg e]
      cases l.lookup k' <;> rfl
theorem lookup_putT (k : Key) (t : T) (l : List (Key × T)) (k' : Key) : (putT l k t).lookup k' = if k' = k then some t else l.lookup k' := lookup_put k t l k'
theorem lookup_putL (k : Key) (v : Value) (l : List (Key × Value)) (k' : Key) : (putL l k v).lookup k' = if k' = k then some v else l.lookup k' := lookup_put k v l k'
theorem sortK_lookup {α : Type} {l : List (Key × α)} (hn : (l.map (·.1)).Nodup) (k : Key) : (sortK l).lookup k = l.lookup k := (lookup_perm (sortK_perm l).symm hn k).symm
/-- Sorted lists in which every key has the same are one. -/
theorem lookup_ext {l l' : List (Key × T)} (h : KeysOk l) (h' : KeysOk l') (he : ∀ k, l.lookup k = l'.lookup k) : l = l' := by
  have nd : ∀ {l : List (Key × T)}, KeysOk l → l.Nodup := fun h => (List.pairwise_map.1 h.nodup).imp fun h e => h (by rw [e])
  refine sorted_unique h h' ((List.perm_ext_iff_of_nodup (nd h) (nd h')).2 fun p => ⟨fun hp => ?_, fun hp => ?_⟩)
  · have := lookup_of_mem h.nodup hp
    rw [he] at this
    exact mem_of_lookup this
  · have := lookup_of_mem h'.nodup hp
    rw [← he] at this
    exact mem_of_lookup this

/-! ### one table over the other -/
inductive CoalV (mg : Bool) : Option T → Option T → Option T → Prop
  | nothing : CoalV mg none none none
  | base (s : T) : CoalV mg none (some s) (some s)
  | over (d : T) : CoalV mg (some d) none (some d)
  | del (s : T) : mg = false → s ≠ .null → CoalV mg (some .null) (some s) none
  | keep (d s : T) : (d = .null → mg = true ∨ s = .null) → (∀ de se, d = .tab de → s ≠ .tab se) → CoalV mg (some d) (some s) (some d)
  | both (de se re : List (Key × T)) : KeysOk re → (∀ k, CoalV mg (de.lookup k) (se.lookup k) (re.lookup k)) → CoalV mg (some (.tab de)) (some (.tab se)) (some (.tab re))
def Coal (mg : Bool) (de se re : List (Key × T)) : Prop := ∀ k, CoalV mg (de.lookup k) (se.lookup k) (re.lookup k)

theorem CoalV.det {mg : Bool} {a b c : Option T} (h : CoalV mg a b c) : ∀ {c'}, CoalV mg a b c' → c = c' := by
  induction h with
  | nothing => intro c' h'; cases h'; rfl
  | base s => intro c' h'; cases h'; rfl
  | over d => intro c' h'; cases h'; rfl
  | del s h1 h2 =>
    intro c' h'
    cases h' with
    | del => rfl
    | keep _ _ h3 _ =>
      rcases h3 rfl with h3 | h3
      · rw [h1] at h3; cases h3
      · exact absurd h3 h2
  | keep d s h1 h2 =>
    intro c' h'
    cases h' with
    | del _ h3 h4 =>
      rcases h1 rfl with h5 | h5
      · rw [h3] at h5; cases h5
      · exact absurd h5 h4
    | keep => rfl
    | both de se re _ _ => exact absurd rfl (h2 de se rfl)
  | both de se re hok _ ih =>
    intro c' h'
    cases h' with
    | keep _ _ _ h2 => exact absurd rfl (h2 de se rfl)
    | both _ _ re' hok' h3 =>
      have : re = re' := lookup_ext hok hok' fun k => ih k (h3 k)
      rw [this]
theorem Coal.det {mg : Bool} {de se re re' : List (Key × T)} (hok : KeysOk re) (hok' : KeysOk re') (h : Coal mg de se re) (h' : Coal mg de se re') : re = re' := lookup_ext hok hok' fun k => (h k).det (h' k)
theorem CoalV.of_none {mg : Bool} {s r : Option T} (h : CoalV mg none s r) : r = s := by cases h <;> rfl
theorem CoalV.to_none {mg : Bool} {d r : Option T} (h : CoalV mg d none r) : r = d := by cases h <;> rfl

/-! ### pairs -/
theorem Kids.out {R : T → Value → Heap → Prop} {k : Key} {v : Value} : ∀ {ts : List (Key × T)} {vs : List (Key × Value)} {m : Heap}, Kids R ts vs m → vs.lookup k = some v →
    ∃ ts1 t ts2 m1 mv m2, ts = ts1 ++ (k, t) :: ts2 ∧ ts1.lookup k = none ∧ m = m1 ++ (mv ++ m2) ∧ R t v mv ∧ ∀ t' mv', R t' v mv' → Kids R (ts1 ++ (k, t') :: ts2) vs (m1 ++ (mv' ++ m2))
  | [], [], _, _, h => by cases h
  | (k1, t1) :: ts, (k2, v2) :: vs, m, hk, h => by
    obtain ⟨rfl, ma, mb, rfl, hr, hs⟩ := hk
    rw [List.lookup_cons] at h
    by_cases e : k = k1
    · subst e
      simp only [BEq.rfl] at h
      cases h
      exact ⟨[], t1, ts, [], ma, mb, rfl, rfl, rfl, hr, fun t' mv' hr' => ⟨rfl, mv', mb, rfl, hr', hs⟩⟩
    · rw [show (k == k1) = false by simpa using e] at h
      obtain ⟨ts1, t, ts2, m1, mv, m2, rfl, h2, rfl, h3, h4⟩ := Kids.out hs h
      refine ⟨(k1, t1) :: ts1, t, ts2, ma ++ m1, mv, m2, rfl, ?_, by rw [List.append_assoc], h3, fun t' mv' hr' => ⟨rfl, ma, _, by rw [List.append_assoc], hr, h4 t' mv' hr'⟩⟩
      rw [List.lookup_cons, show (k == k1) = false by simpa using e]
      exact h2
  | [], _ :: _, _, hk, _ => hk.elim
  | _ :: _, [], _, hk, _ => hk.elim
theorem lookup_mid {ts1 ts2 : List (Key × T)} {k : Key} (h : ts1.lookup k = none) (t t' : T) (k' : Key) : (ts1 ++ (k, t') :: ts2).lookup k' = if k' = k then some t' else (ts1 ++ (k, t) :: ts2).lookup k' := by
  rw [lookup_append, lookup_append, List.lookup_cons, List.lookup_cons]
  by_cases e : k' = k
  · subst e
    simp [h]
  · rw [show (k' == k) = false by simpa using e, if_neg e]
theorem lookup_mid_self {ts1 ts2 : List (Key × T)} {k : Key} (h : ts1.lookup k = none) (t : T) : (ts1 ++ (k, t) :: ts2).lookup k = some t := by
  rw [lookup_append, List.lookup_cons, h]
  simp

theorem Kids.less {R : T → Value → Heap → Prop} (k : Key) : ∀ {ts : List (Key × T)} {vs : List (Key × Value)} {m : Heap}, Kids R ts vs m →
    ∃ m', Kids R (ts.filter fun p => !(p.1 == k)) (vs.filter fun p => !(p.1 == k)) m' ∧ Fits m m'
  | [], [], _, h => ⟨_, h, Fits.refl _⟩
  | (k1, t1) :: ts, (k2, v2) :: vs, m, hk => by
    obtain ⟨rfl, ma, mb, rfl, hr, hs⟩ := hk
    obtain ⟨m', h1, h2⟩ := Kids.less k hs
    by_cases e : k1 = k
    · rw [List.filter_cons_of_neg (by simpa using e), List.filter_cons_of_neg (by simpa using e)]
      exact ⟨m', h1, fun f => by have := h2 f; simp only [List.map_append, List.sum_append]; omega⟩
    · rw [List.filter_cons_of_pos (by simpa using e), List.filter_cons_of_pos (by simpa using e)]
      exact ⟨ma ++ m', ⟨rfl, ma, m', rfl, hr, h1⟩, Fits.app (Fits.refl _) h2⟩
  | [], _ :: _, _, hk => hk.elim
  | _ :: _, [], _, hk => hk.elim

/-- A table, as its pairs lie. -/
def RepM (n : Nat) (r : Nat) (kts : List (Key × T)) (m : Heap) : Prop := ∃ (kv : KV) (mk : Heap), Kids (fun t v m => ∃ n', n' < n ∧ RepA n' t v m) kts kv.list mk ∧ (∀ p, p ∈ kts → Nm p.1) ∧ m = (r, kv.obj) :: mk
theorem RepM.close {n r : Nat} {kts : List (Key × T)} {m : Heap} (h : RepM n r kts m) : RepA n (.tab (sortK kts)) (.iface 63 (.map (some r))) m ∧ KeysOk (sortK kts) ∧ ∀ k, (sortK kts).lookup k = kts.lookup k := by
  obtain ⟨kv, mk, hk, hn, rfl⟩ := h
  have hnd : (kts.map (·.1)).Nodup := by rw [hk.keys]; exact kv.nodup
  have hok := sortK_ok hnd hn
  refine ⟨?_, hok, sortK_lookup hnd⟩
  have hfin : RepA1 (fun t v m => ∃ n', n' < n ∧ RepA n' t v m) (.tab (sortK kts)) (.iface 63 (.map (some r))) ((r, kv.obj) :: mk) := ⟨r, kv, kts, mk, rfl, hok, (sortK_perm kts).symm, hk, rfl⟩
  cases n with
  | zero => exact RepA1.mono (fun _ _ _ ⟨_, h, _⟩ => absurd h (Nat.not_lt_zero _)) hfin
  | succ n => exact RepA1.mono (fun _ _ _ ⟨_, h, h'⟩ => h'.le (Nat.le_of_lt_succ h)) hfin
theorem RepA.nil {n : Nat} {t : T} {a : Value} {m : Heap} (h : RepA n t a m) : (t = .null ∧ a = .nilIface ∧ m = []) ∨ (t ≠ .null ∧ ∃ T' u, a = .iface T' u) := by
  cases t with
  | null => cases n <;> exact Or.inl ⟨rfl, h.1, h.2⟩
  | truth x => cases n <;> exact Or.inr ⟨fun e => (by cases e), _, _, h.1⟩
  | int x => cases n <;> exact Or.inr ⟨fun e => (by cases e), _, _, h.1⟩
  | text x => cases n <;> exact Or.inr ⟨fun e => (by cases e), _, _, h.1⟩
  | one x => cases n <;> (obtain ⟨s, h1, _⟩ := h; exact Or.inr ⟨fun e => (by cases e), _, _, h1⟩)
  | tab x =>
    obtain ⟨r, _, _, _, h1, _⟩ := h.table
    exact Or.inr ⟨fun e => (by cases e), _, _, h1⟩

/-! ### the loops of coalesceTablesFullKey -/
theorem left_sub (m : KV) (seen : Array Nat) : ((m.left seen).map (·.1)).Sublist (m.list.map (·.1)) := by
  unfold KV.left KV.list
  exact (List.filter_sublist.map _).map _
theorem left_nodup (m : KV) (seen : Array Nat) : ((m.left seen).map (·.1)).Nodup := m.nodup.sublist (left_sub m seen)
theorem KV.lookup_cur {m : KV} {seen : Array Nat} {k : Key} {v : Value} (h : m.cur seen k v) : m.list.lookup k = some v := lookup_of_mem m.nodup (KV.cur_mem h)

def NonNull (o : Option T) : Prop := ∃ s, o = some s ∧ s ≠ .null
/-- Which keys had something, as far as the loop has come. -/
def Noted (s0 : Key → Option T) (left : List Key) (nn : KV) : Prop :=
  (∀ k, nn.list.lookup k = none ∨ nn.list.lookup k = some (.bool true)) ∧ (∀ k, nn.list.lookup k = some (.bool true) → NonNull (s0 k)) ∧ ∀ k, NonNull (s0 k) → k ∈ left ∨ nn.list.lookup k = some (.bool true)
theorem Noted.pass {s0 : Key → Option T} {left left' : List Key} {nn : KV} {k : Key} (h : Noted s0 left nn) (hp : left.Perm (k :: left')) (hk : ¬ NonNull (s0 k)) : Noted s0 left' nn := by
  refine ⟨h.1, h.2.1, fun k' hn => ?_⟩
  rcases h.2.2 k' hn with h1 | h1
  · rcases List.mem_cons.1 (hp.mem_iff.1 h1) with rfl | h2
    · exact absurd hn hk
    · exact Or.inl h2
  · exact Or.inr h1
theorem Noted.note {s0 : Key → Option T} {left left' : List Key} {nn : KV} {k : Key} (h : Noted s0 left nn) (hp : left.Perm (k :: left')) (hk : NonNull (s0 k)) : Noted s0 left' (nn.put k (.bool true)) := by
  have hl : ∀ k', (nn.put k (.bool true)).list.lookup k' = if k' = k then some (.bool true) else nn.list.lookup k' := fun k' => by rw [KV.list_put, lookup_putL]
  refine ⟨fun k' => ?_, fun k' h1 => ?_, fun k' hn => ?_⟩
  · rw [hl]
    split
    · exact Or.inr rfl
    · exact h.1 k'
  · rw [hl] at h1
    split at h1
    · rename_i e; rw [e]; exact hk
    · exact h.2.1 k' h1
  · rw [hl]
    by_cases e : k' = k
    · rw [if_pos e]; exact Or.inr rfl
    · rw [if_neg e]
      rcases h.2.2 k' hn with h1 | h1
      · rcases List.mem_cons.1 (hp.mem_iff.1 h1) with h2 | h2
        · exact absurd h2 e
        · exact Or.inl h2
      · exact Or.inr h1

def isNullO : Option T → Bool
  | some .null => true
  | _ => false
theorem isNullO_iff {o : Option T} : isNullO o = true ↔ o = some .null := by
  cases o with
  | none => exact ⟨fun h => (by cases h), fun h => by cases h⟩
  | some t => cases t <;> first | exact ⟨fun _ => rfl, fun _ => rfl⟩ | exact ⟨fun h => (by cases h), fun h => by cases h⟩

/-- The base's pairs, as far as the nulls of the table above have been laid in. -/
def Nulled (d0 s0 : Key → Option T) (left : List Key) (sts : List (Key × T)) : Prop := ∀ k, (k ∈ left ∧ sts.lookup k = s0 k) ∨ (k ∉ left ∧ sts.lookup k = if isNullO (d0 k) then some .null else s0 k)
theorem Nulled.pass {d0 s0 : Key → Option T} {left left' : List Key} {sts : List (Key × T)} {k : Key} (h : Nulled d0 s0 left sts) (hp : left.Perm (k :: left')) (hn : left.Nodup) (hk : isNullO (d0 k) = false) : Nulled d0 s0 left' sts := by
  have hnd := (hp.nodup_iff.1 hn)
  rw [List.nodup_cons] at hnd
  intro k'
  by_cases e : k' = k
  · subst e
    refine Or.inr ⟨hnd.1, ?_⟩
    rw [hk]
    rcases h k' with ⟨_, h1⟩ | ⟨h1, _⟩
    · exact h1
    · exact absurd (hp.mem_iff.2 List.mem_cons_self) h1
  · rcases h k' with ⟨h1, h2⟩ | ⟨h1, h2⟩
    · rcases List.mem_cons.1 (hp.mem_iff.1 h1) with h3 | h3
      · exact absurd h3 e
      · exact Or.inl ⟨h3, h2⟩
    · exact Or.inr ⟨fun h3 => h1 (hp.mem_iff.2 (List.mem_cons_of_mem _ h3)), h2⟩
theorem Nulled.set {d0 s0 : Key → Option T} {left left' : List Key} {sts : List (Key × T)} {k : Key} (h : Nulled d0 s0 left sts) (hp : left.Perm (k :: left')) (hn : left.Nodup) (hk : isNullO (d0 k) = true) : Nulled d0 s0 left' (putT sts k .null) := by
  have hnd := (hp.nodup_iff.1 hn)
  rw [List.nodup_cons] at hnd
  intro k'
  rw [lookup_putT]
  by_cases e : k' = k
  · subst e
    refine Or.inr ⟨hnd.1, ?_⟩
    rw [hk, if_pos rfl]
    rfl
  · rw [if_neg e]
    rcases h k' with ⟨h1, h2⟩ | ⟨h1, h2⟩
    · rcases List.mem_cons.1 (hp.mem_iff.1 h1) with h3 | h3
      · exact absurd h3 e
      · exact Or.inl ⟨h3, h2⟩
    · exact Or.inr ⟨fun h3 => h1 (hp.mem_iff.2 (List.mem_cons_of_mem _ h3)), h2⟩

/-- The table above, as far as the base's pairs have been gone through. -/
def Laid (mg : Bool) (d0 s0 : Key → Option T) (dts lts : List (Key × T)) : Prop := ∀ k, (∃ t, lts.lookup k = some t ∧ some t = (if isNullO (d0 k) then some .null else s0 k) ∧ dts.lookup k = d0 k) ∨ (lts.lookup k = none ∧ CoalV mg (d0 k) (s0 k) (dts.lookup k))
theorem Laid.start {mg : Bool} {d0 s0 : Key → Option T} {dts sts : List (Key × T)} (hd : ∀ k, dts.lookup k = d0 k) (h : Nulled d0 s0 [] sts) : Laid mg d0 s0 dts sts := by
  intro k
  have h1 : sts.lookup k = if isNullO (d0 k) then some .null else s0 k := by
    rcases h k with ⟨h1, _⟩ | ⟨_, h1⟩
    · cases h1
    · exact h1
  cases e : sts.lookup k with
  | some t => exact Or.inl ⟨t, rfl, by rw [← e, h1], hd k⟩
  | none =>
    rw [e] at h1
    refine Or.inr ⟨rfl, ?_⟩
    split at h1
    · cases h1
    · rw [← h1, hd k]
      cases d0 k with
      | none => exact .nothing
      | some d => exact .over d
theorem Laid.step {mg : Bool} {d0 s0 : Key → Option T} {dts dts' lts lts' : List (Key × T)} {k : Key} {t : T} {c : Option T} (h : Laid mg d0 s0 dts lts) (hp : lts.Perm ((k, t) :: lts')) (hn : (lts.map (·.1)).Nodup) (hd : ∀ k', dts'.lookup k' = if k' = k then c else dts.lookup k')
    (hc : CoalV mg (d0 k) (s0 k) c) : Laid mg d0 s0 dts' lts' := by
  have hnd := ((hp.map (·.1)).nodup_iff.1 hn)
  rw [List.map_cons, List.nodup_cons] at hnd
  intro k'
  have hl := lookup_perm hp hn k'
  rw [List.lookup_cons] at hl
  by_cases e : k' = k
  · subst e
    refine Or.inr ⟨lookup_none hnd.1, ?_⟩
    rw [hd, if_pos rfl]
    exact hc
  · rw [show (k' == k) = false by simpa using e] at hl
    have hl' : lts.lookup k' = lts'.lookup k' := hl
    rw [hd, if_neg e, ← hl']
    exact h k'
theorem Laid.here {mg : Bool} {d0 s0 : Key → Option T} {dts lts lts' : List (Key × T)} {k : Key} {t : T} (h : Laid mg d0 s0 dts lts) (hp : lts.Perm ((k, t) :: lts')) (hn : (lts.map (·.1)).Nodup) : some t = (if isNullO (d0 k) then some .null else s0 k) ∧ dts.lookup k = d0 k := by
  have hl := lookup_perm hp hn k
  rw [List.lookup_cons] at hl
  simp only [BEq.rfl] at hl
  rcases h k with ⟨t', h1, h2, h3⟩ | ⟨h1, _⟩
  · rw [hl] at h1
    cases h1
    exact ⟨h2, h3⟩
  · rw [hl] at h1; cases h1
theorem Laid.done {mg : Bool} {d0 s0 : Key → Option T} {dts : List (Key × T)} (h : Laid mg d0 s0 dts []) : ∀ k, CoalV mg (d0 k) (s0 k) (dts.lookup k) := fun k => by
  rcases h k with ⟨t, h1, _⟩ | ⟨_, h1⟩
  · cases h1
  · exact h1

/-- What the table above has stays, unless it is put out or both are tables. -/
theorem keep_fact {mg nk : Bool} {d t : T} {s0 : Option T} (hb : ¬ (mg = false ∧ d = .null ∧ nk = true)) (hnn : NonNull s0 → nk = true) (hs : some t = (if isNullO (some d) then some .null else s0)) (hnb : ∀ de se, d = .tab de → t ≠ .tab se) : CoalV mg (some d) s0 (some d) := by
  cases s0 with
  | none => exact .over d
  | some s =>
    refine .keep d s (fun e => ?_) (fun de se e => ?_)
    · cases mg with
      | true => exact Or.inl rfl
      | false =>
        by_cases h : s = .null
        · exact Or.inr h
        · exact absurd ⟨rfl, e, hnn ⟨s, rfl, h⟩⟩ hb
    · subst e
      have : t = s := by simpa [isNullO] using hs
      rw [← this]
      exact hnb de se rfl

end Go.Proofs.Ytnnclcfklbeocaa

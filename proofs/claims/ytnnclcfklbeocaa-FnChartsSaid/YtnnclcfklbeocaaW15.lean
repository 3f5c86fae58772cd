/-
  The walks, part 15: spec.Coalesced lays one table over the other, as 'Coal' says.
  Conditions: both lie in memory as RepS says.
-/
import Derived.Test.YtnnclcfklbeocaaW14
namespace Go.Proofs.Ytnnclcfklbeocaa
open Go.RowKit

variable {W0 : World}

theorem RepS.kind {n : Nat} {t : T} {v : Value} {m : Heap} (h : RepS n t v m) : ∃ b x i s it mp mm, v = ptr b ∧ m = (b, Obj.cells (sCells (kindT t) x i s it mp) 40 (0, 0)) :: mm := by
  have h' : RepS1 (fun _ _ _ => True) t v m := by
    cases n with
    | zero => exact RepS1.mono (fun _ _ _ _ => trivial) h
    | succ n => exact RepS1.mono (fun _ _ _ _ => trivial) h
  cases t with
  | tab es => obtain ⟨b, r, kv, kts, mk, hv, _, _, _, hm⟩ := h'; exact ⟨b, _, _, _, _, _, _, hv, hm⟩
  | one y => obtain ⟨b, it, mi, bx, hv, _, hm⟩ := h'; exact ⟨b, _, _, _, _, _, _, hv, hm⟩
  | null => obtain ⟨b, hv, hm⟩ := h'; exact ⟨b, _, _, _, _, _, _, hv, hm⟩
  | truth x => obtain ⟨b, hv, hm⟩ := h'; exact ⟨b, _, _, _, _, _, _, hv, hm⟩
  | int x => obtain ⟨b, hv, hm⟩ := h'; exact ⟨b, _, _, _, _, _, _, hv, hm⟩
  | text x => obtain ⟨b, hv, hm⟩ := h'; exact ⟨b, _, _, _, _, _, _, hv, hm⟩
theorem kind_null {t : T} (h : kindT t = 0) : t = .null := by
  cases t <;> first | rfl | exact absurd h (by simp [kindT])
theorem kind_tab {t : T} (h : kindT t = 6) : ∃ es, t = .tab es := by
  cases t <;> first | exact ⟨_, rfl⟩ | exact absurd h (by simp [kindT])
theorem mg_or {mg : Bool} {p : Prop} (h : mg = false → ¬ p → False) : mg = true ∨ p := by
  cases mg with
  | true => exact Or.inl rfl
  | false => exact Or.inr (Classical.not_not.1 (h rfl))
theorem same_gone {l : List (Key × T)} {k : Key} (h : l.lookup k = none) (k' : Key) : l.lookup k' = if k' = k then none else l.lookup k' := by
  by_cases e : k' = k
  · subst e; rw [if_pos rfl, h]
  · rw [if_neg e]
theorem kids_none {R : T → Value → Heap → Prop} {ts : List (Key × T)} {vs : List (Key × Value)} {m : Heap} (h : Kids R ts vs m) {k : Key} (hn : ts.lookup k = none) : vs.lookup k = none := by
  rcases h.lookup k with ⟨_, h2⟩ | ⟨t, v, m1, h2, _⟩
  · exact h2
  · rw [hn] at h2; cases h2
/-- What spec.Value shows of a table. -/
theorem RepS.table {n : Nat} {es : List (Key × T)} {v : Value} {m : Heap} (h : RepS n (.tab es) v m) : ∃ b x i s it r kv kts mk, v = ptr b ∧ KeysOk es ∧ kts.Perm es ∧ Kids (fun t v m => ∃ n', n' < n ∧ RepS n' t v m) kts kv.list mk ∧ m = (b, Obj.cells (sCells 6 x i s it (.map (some r))) 40 (0, 0)) :: (r, KV.obj kv) :: mk := by
  obtain ⟨b, kk, x, i, s, it, mp, mm, hv, hm, hc⟩ := h.look
  rcases hc with ⟨rfl, es', r, kv, kts, mk, e, rfl, hok, hp, hk, rfl⟩ | ⟨_, h⟩
  · cases e
    exact ⟨b, x, i, s, it, r, kv, kts, mk, hv, hok, hp, hk, hm⟩
  · exact absurd rfl (h es)

/-- The new table, as far as the upper one has been gone through. -/
def Cov1 (mg : Bool) (o0 b0 : Key → Option T) (left : List Key) (vts : List (Key × T)) : Prop := ∀ k, (k ∈ left ∧ vts.lookup k = none) ∨ (k ∉ left ∧ ((o0 k = none ∧ vts.lookup k = none) ∨ ((o0 k).isSome = true ∧ CoalV mg (o0 k) (b0 k) (vts.lookup k))))
theorem Cov1.start {mg : Bool} {o0 b0 : Key → Option T} {kv : KV} (h : ∀ k, (o0 k).isSome = true → k ∈ kv.list.map (·.1)) : Cov1 mg o0 b0 ((kv.left #[]).map (·.1)) [] := fun k => by
  rw [KV.left_start]
  by_cases hk : k ∈ kv.list.map (·.1)
  · exact Or.inl ⟨hk, rfl⟩
  · refine Or.inr ⟨hk, Or.inl ⟨?_, rfl⟩⟩
    cases e : o0 k with
    | none => rfl
    | some t => exact absurd (h k (by rw [e]; rfl)) hk
theorem Cov1.fresh {mg : Bool} {o0 b0 : Key → Option T} {left left' : List Key} {vts : List (Key × T)} {k : Key} (h : Cov1 mg o0 b0 left vts) (hp : left.Perm (k :: left')) : vts.lookup k = none := by
  rcases h k with ⟨_, h1⟩ | ⟨h1, _⟩
  · exact h1
  · exact absurd (hp.mem_iff.2 List.mem_cons_self) h1
theorem Cov1.step {mg : Bool} {o0 b0 : Key → Option T} {left left' : List Key} {vts vts' : List (Key × T)} {k : Key} {t : T} {c : Option T} (h : Cov1 mg o0 b0 left vts) (hp : left.Perm (k :: left')) (hn : left.Nodup) (ho : o0 k = some t) (hv : ∀ k', vts'.lookup k' = if k' = k then c else vts.lookup k') (hc : CoalV mg (o0 k) (b0 k) c) :
    Cov1 mg o0 b0 left' vts' := by
  have hnd := (hp.nodup_iff.1 hn)
  rw [List.nodup_cons] at hnd
  intro k'
  rw [hv]
  by_cases e : k' = k
  · subst e
    rw [if_pos rfl]
    exact Or.inr ⟨hnd.1, Or.inr ⟨by rw [ho]; rfl, hc⟩⟩
  · rw [if_neg e]
    rcases h k' with ⟨h1, h2⟩ | ⟨h1, h2⟩
    · rcases List.mem_cons.1 (hp.mem_iff.1 h1) with h3 | h3
      · exact absurd h3 e
      · exact Or.inl ⟨h3, h2⟩
    · exact Or.inr ⟨fun h3 => h1 (hp.mem_iff.2 (List.mem_cons_of_mem _ h3)), h2⟩

/-- The new table, as far as the lower one has been gone through. -/
def Cov2 (mg : Bool) (o0 b0 : Key → Option T) (left : List Key) (vts : List (Key × T)) : Prop := ∀ k, ((o0 k).isSome = true ∧ CoalV mg (o0 k) (b0 k) (vts.lookup k)) ∨ (o0 k = none ∧ ((k ∈ left ∧ vts.lookup k = none) ∨ (k ∉ left ∧ vts.lookup k = b0 k)))
theorem Cov2.start {mg : Bool} {o0 b0 : Key → Option T} {kv : KV} {vts : List (Key × T)} (h : Cov1 mg o0 b0 (([] : List (Key × Value)).map (·.1)) vts) (hb : ∀ k, (b0 k).isSome = true → k ∈ kv.list.map (·.1)) : Cov2 mg o0 b0 ((kv.left #[]).map (·.1)) vts := fun k => by
  rw [KV.left_start]
  rcases h k with ⟨h1, _⟩ | ⟨_, ⟨h1, h2⟩ | h1⟩
  · cases h1
  · refine Or.inr ⟨h1, ?_⟩
    by_cases hk : k ∈ kv.list.map (·.1)
    · exact Or.inl ⟨hk, h2⟩
    · refine Or.inr ⟨hk, ?_⟩
      rw [h2]
      cases e : b0 k with
      | none => rfl
      | some t => exact absurd (hb k (by rw [e]; rfl)) hk
  · exact Or.inl h1
theorem Cov2.fresh {mg : Bool} {o0 b0 : Key → Option T} {left left' : List Key} {vts : List (Key × T)} {k : Key} (h : Cov2 mg o0 b0 left vts) (hp : left.Perm (k :: left')) (ho : o0 k = none) : vts.lookup k = none := by
  rcases h k with ⟨h1, _⟩ | ⟨_, ⟨_, h1⟩ | ⟨h1, _⟩⟩
  · rw [ho] at h1; cases h1
  · exact h1
  · exact absurd (hp.mem_iff.2 List.mem_cons_self) h1
theorem Cov2.lay {mg : Bool} {o0 b0 : Key → Option T} {left left' : List Key} {vts vts' : List (Key × T)} {k : Key} {t : T} (h : Cov2 mg o0 b0 left vts) (hp : left.Perm (k :: left')) (hn : left.Nodup) (ho : o0 k = none) (hb : b0 k = some t) (hv : ∀ k', vts'.lookup k' = if k' = k then some t else vts.lookup k') : Cov2 mg o0 b0 left' vts' := by
  have hnd := (hp.nodup_iff.1 hn)
  rw [List.nodup_cons] at hnd
  intro k'
  rw [hv]
  by_cases e : k' = k
  · subst e
    rw [if_pos rfl]
    exact Or.inr ⟨ho, Or.inr ⟨hnd.1, hb.symm⟩⟩
  · rw [if_neg e]
    rcases h k' with h1 | ⟨h0, ⟨h1, h2⟩ | ⟨h1, h2⟩⟩
    · exact Or.inl h1
    · rcases List.mem_cons.1 (hp.mem_iff.1 h1) with h3 | h3
      · exact absurd h3 e
      · exact Or.inr ⟨h0, Or.inl ⟨h3, h2⟩⟩
    · exact Or.inr ⟨h0, Or.inr ⟨fun h3 => h1 (hp.mem_iff.2 (List.mem_cons_of_mem _ h3)), h2⟩⟩
theorem Cov2.pass {mg : Bool} {o0 b0 : Key → Option T} {left left' : List Key} {vts : List (Key × T)} {k : Key} (h : Cov2 mg o0 b0 left vts) (hp : left.Perm (k :: left')) (ho : (o0 k).isSome = true) : Cov2 mg o0 b0 left' vts := by
  intro k'
  rcases h k' with h1 | ⟨h0, ⟨h1, h2⟩ | ⟨h1, h2⟩⟩
  · exact Or.inl h1
  · rcases List.mem_cons.1 (hp.mem_iff.1 h1) with h3 | h3
    · rw [← h3, h0] at ho; cases ho
    · exact Or.inr ⟨h0, Or.inl ⟨h3, h2⟩⟩
  · exact Or.inr ⟨h0, Or.inr ⟨fun h3 => h1 (hp.mem_iff.2 (List.mem_cons_of_mem _ h3)), h2⟩⟩
theorem Cov2.done {mg : Bool} {o0 b0 : Key → Option T} {vts : List (Key × T)} (h : Cov2 mg o0 b0 (([] : List (Key × Value)).map (·.1)) vts) (k : Key) : CoalV mg (o0 k) (b0 k) (vts.lookup k) := by
  rcases h k with ⟨_, h1⟩ | ⟨h0, ⟨h1, _⟩ | ⟨_, h1⟩⟩
  · exact h1
  · cases h1
  · rw [h0, h1]
    cases b0 k with
    | none => exact .nothing
    | some t => exact .base t

def CoalescedSpec (W0 : World) (n : Nat) : Prop := ∀ (oe be : List (Key × T)) (vo vb : Value) (mo mb : Heap) (mg : Bool) (M : Heap), RepS n (.tab oe) vo mo → RepS n (.tab be) vb mb → (∀ x, x ∈ mo → x ∈ M) → (∀ x, x ∈ mb → x ∈ M) →
  Tri Try.prog W0 18 [vo, vb, .bool mg] M fun v M' => ∃ re m', RepS n (.tab re) v m' ∧ Coal mg oe be re ∧ M' = M ++ m'

set_option maxHeartbeats 8000000 in
theorem coalesced_step (n : Nat) (ih : ∀ N, N < n → CoalescedSpec W0 N) : CoalescedSpec W0 n := by
  intro oe be vo vb mo mb mg M hvo hvb hmo hmb
  obtain ⟨bo, _, _, _, _, ro, kvo, okts, mko, rfl, hoko, hpo, hko, rfl⟩ := hvo.table
  obtain ⟨bb, _, _, _, _, rb, kvb, bkts, mkb, rfl, hokb, hpb, hkb, rfl⟩ := hvb.table
  have hbo := hmo _ m0
  have hro := hmo _ m1
  have hbb := hmb _ m0
  have hrb := hmb _ m1
  obtain ⟨o0, ho0⟩ : ∃ o0 : Key → Option T, o0 = fun k => oe.lookup k := ⟨_, rfl⟩
  obtain ⟨b0, hb0⟩ : ∃ b0 : Key → Option T, b0 = fun k => be.lookup k := ⟨_, rfl⟩
  have hol : ∀ k, okts.lookup k = o0 k := fun k => by rw [ho0]; exact lookup_perm hpo (perm_keys_nodup hoko hpo) k
  have hbl : ∀ k, bkts.lookup k = b0 k := fun k => by rw [hb0]; exact lookup_perm hpb (perm_keys_nodup hokb hpb) k
  have hin : ∀ {ts : List (Key × T)} {kv : KV} {m : Heap}, Kids (fun t v m => ∃ n', n' < n ∧ RepS n' t v m) ts kv.list m → ∀ k, (ts.lookup k).isSome = true → k ∈ kv.list.map (·.1) := fun {ts kv m} hk k h => by
    obtain ⟨t, ht⟩ := Option.isSome_iff_exists.1 h
    rw [← hk.keys]
    exact List.mem_map.2 ⟨_, mem_of_lookup ht, rfl⟩
  have ho0in : ∀ k, (o0 k).isSome = true → k ∈ kvo.list.map (·.1) := fun k h => hin hko k (by rw [hol]; exact h)
  have hb0in : ∀ k, (b0 k).isSome = true → k ∈ kvb.list.map (·.1) := fun k h => hin hkb k (by rw [hbl]; exact h)
  have hnmo : ∀ {k : Key} {v : Value}, (k, v) ∈ kvo.list → Nm k := fun {k v} h => by
    have h1 : k ∈ kvo.list.map (·.1) := List.mem_map.2 ⟨_, h, rfl⟩
    rw [← hko.keys] at h1
    obtain ⟨p, hp, rfl⟩ := List.mem_map.1 h1
    exact hoko.2 p (hpo.mem_iff.1 hp)
  have hnmb : ∀ {k : Key} {v : Value}, (k, v) ∈ kvb.list → Nm k := fun {k v} h => by
    have h1 : k ∈ kvb.list.map (·.1) := List.mem_map.2 ⟨_, h, rfl⟩
    rw [← hkb.keys] at h1
    obtain ⟨p, hp, rfl⟩ := List.mem_map.1 h1
    exact hokb.2 p (hpb.mem_iff.1 hp)
  suffices hco : Tri Try.prog W0 18 [ptr bo, ptr bb, .bool mg] M fun v M' => ∃ re m', RepS n (.tab re) v m' ∧ (∀ k, CoalV mg (o0 k) (b0 k) (re.lookup k)) ∧ M' = M ++ m' by
    rw [ho0, hb0] at hco
    exact hco
  clear hvo hvb ho0 hb0
  refine tri_of 117 Try.func18 rfl Try.ntmps18 (Nat.le_of_ble_eq_true rfl) ?_
  refine c_seq ?_
  refine c_region ?_   -- region 0
  refine g_q (qv_assign rfl) rfl ?_
  refine g_nil ?_
  refine e_seq ?_
  refine c_seq ?_
  refine c_region ?_   -- region 1
  refine g_i (iv_call (vs := []) Try.call16 trivial (new_any 0 M)) rfl ?_
  rintro _ _ ⟨mn, rfl, bn, rn, kvn0, ktsn, mkn, rfl, _, hpn, hkn, rfl⟩
  obtain rfl : ktsn = [] := List.perm_nil.1 hpn
  obtain ⟨hkn0, rfl⟩ : kvn0.list = [] ∧ mkn = [] := by
    cases e : kvn0.list with
    | nil => rw [e] at hkn; exact ⟨rfl, hkn⟩
    | cons p l => rw [e] at hkn; exact hkn.elim
  refine g_q (qv_assign rfl) rfl ?_
  refine g_nil ?_
  refine e_seq ?_
  refine c_seq ?_
  refine c_seq ?_
  refine c_region ?_   -- region 2
  refine g_q (qv_move rfl) rfl ?_
  refine g_q (qv_nil rfl) rfl ?_
  refine g_q (qv_field rfl Try.runUnderlying40 rfl Try.sizeOf38 rfl) rfl ?_
  refine g_q (qv_load (v := .map (some ro)) rfl Try.isAgg38 (List.mem_append_left _ hbo) rfl) rfl ?_
  refine g_i (iv_range (m := kvo) rfl Try.runUnderlying38 (List.mem_append_left _ hro)) rfl ?_
  rintro _ _ ⟨it, rfl, rfl⟩
  refine g_nil ?_
  refine e_seq ?_
  refine c_block ?_
  refine c_keep (L' := [(0, ptr bo), (1, ptr bb), (2, .bool mg), (7, ptr bn), (21, ptr it)]) ⟨rfl, rfl, rfl, rfl, rfl, trivial⟩ ?_
  refine c_to (M' := (it, iterObj ro kvo #[]) :: (rn, kvn0.obj) :: (bn, .cells (sCells 6 false 0 [] nilS (.map (some rn))) 40 (0, 0)) :: (M ++ [])) (fun f => by simp <;> omega) ?_
  refine c_loop (ι := Array Nat) (fun seen L M' => ∃ kvn vts mv, L = [(0, ptr bo), (1, ptr bb), (2, .bool mg), (7, ptr bn), (21, ptr it)] ∧ Kids (fun t v m => ∃ n', n' < n ∧ RepS n' t v m) vts (KV.list kvn) mv ∧ (∀ p, p ∈ vts → Nm p.1) ∧ Cov1 mg o0 b0 ((kvo.left seen).map (·.1)) vts ∧ M' = (it, iterObj ro kvo seen) :: (rn, kvn.obj) :: (bn, .cells (sCells 6 false 0 [] nilS (.map (some rn))) 40 (0, 0)) :: (M ++ mv)) (fun seen => (kvo.left seen).length) #[] ⟨kvn0, [], [], rfl, by rw [hkn0]; rfl, fun _ h => (by cases h), Cov1.start ho0in, rfl⟩ ?_
  rintro seen _ _ ⟨kvn, vts, mv, rfl, hvk, hnm, hcov, rfl⟩
  refine c_seq ?_
  refine c_region ?_   -- region 3
  refine g_i (iv_next (i := 0) rfl rfl (.tail _ (.tail _ (.tail _ (List.mem_append_left _ hro))))) rfl ?_
  rintro _ _ (⟨hl0, rfl, rfl⟩ | ⟨key, u, seen2, rfl, rfl, hperm2, hcur⟩)
  · refine g_q (qv_extract rfl rfl) rfl ?_
    refine g_nil ?_
    refine e_seq ?_
    refine c_seq ?_
    refine c_false rfl ?_
    refine c_exit ?_
    refine e_exit_then ?_
    refine e_exit_then ?_
    refine e_exit_block ?_
    refine e_seq ?_
    rw [hl0] at hcov
    refine c_seq ?_
    refine c_seq ?_
    refine c_region ?_   -- region 10
    refine g_q (qv_move rfl) rfl ?_
    refine g_q (qv_nil rfl) rfl ?_
    refine g_q (qv_field rfl Try.runUnderlying40 rfl Try.sizeOf38 rfl) rfl ?_
    refine g_q (qv_load (v := .map (some rb)) rfl Try.isAgg38 (.tail _ (.tail _ (.tail _ (List.mem_append_left _ hbb)))) rfl) rfl ?_
    refine g_i (iv_range (m := kvb) rfl Try.runUnderlying38 (.tail _ (.tail _ (.tail _ (List.mem_append_left _ hrb))))) rfl ?_
    rintro _ _ ⟨it2, rfl, rfl⟩
    refine g_nil ?_
    refine e_seq ?_
    refine c_block ?_
    refine c_keep (L' := [(0, ptr bo), (7, ptr bn), (92, ptr it2)]) ⟨rfl, rfl, rfl, trivial⟩ ?_
    refine c_to (M' := (it2, iterObj rb kvb #[]) :: (rn, kvn.obj) :: (bn, .cells (sCells 6 false 0 [] nilS (.map (some rn))) 40 (0, 0)) :: (M ++ mv)) (Fits.cons Fits.tail) ?_
    refine c_loop (ι := Array Nat) (fun seen L M' => ∃ kvn vts mv, L = [(0, ptr bo), (7, ptr bn), (92, ptr it2)] ∧ Kids (fun t v m => ∃ n', n' < n ∧ RepS n' t v m) vts (KV.list kvn) mv ∧ (∀ p, p ∈ vts → Nm p.1) ∧ Cov2 mg o0 b0 ((kvb.left seen).map (·.1)) vts ∧ M' = (it2, iterObj rb kvb seen) :: (rn, kvn.obj) :: (bn, .cells (sCells 6 false 0 [] nilS (.map (some rn))) 40 (0, 0)) :: (M ++ mv)) (fun seen => (kvb.left seen).length) #[] ⟨kvn, vts, mv, rfl, hvk, hnm, Cov2.start hcov hb0in, rfl⟩ ?_
    clear hcov hnm hvk
    rintro seen _ _ ⟨kvn, vts, mv, rfl, hvk, hnm, hcov, rfl⟩
    refine c_seq ?_
    refine c_region ?_   -- region 11
    refine g_i (iv_next (i := 0) rfl rfl (.tail _ (.tail _ (.tail _ (List.mem_append_left _ hrb))))) rfl ?_
    rintro _ _ (⟨hl0, rfl, rfl⟩ | ⟨key, u, seen2, rfl, rfl, hperm2, hcur⟩)
    · refine g_q (qv_extract rfl rfl) rfl ?_
      refine g_nil ?_
      refine e_seq ?_
      refine c_seq ?_
      refine c_false rfl ?_
      refine c_exit ?_
      refine e_exit_then ?_
      refine e_exit_then ?_
      refine e_exit_block ?_
      refine e_seq ?_
      rw [hl0] at hcov
      have hndv : (vts.map (·.1)).Nodup := by rw [hvk.keys]; exact kvn.nodup
      refine c_seq ?_
      refine c_region ?_   -- region 16
      refine g_q (qv_move rfl) rfl ?_
      refine g_q (qv_assign rfl) rfl ?_
      refine g_nil ?_
      refine e_seq ?_
      refine c_ret ?_
      exact e_to (M' := M ++ ((bn, .cells (sCells 6 false 0 [] nilS (.map (some rn))) 40 (0, 0)) :: (rn, kvn.obj) :: mv)) (fun f => by simp <;> omega) (e_ret1 (.inl rfl) Try.results18 rfl ⟨sortK vts, _, RepS.mk (sortK_ok hndv hnm) (sortK_perm vts).symm hvk, fun k => by rw [sortK_lookup hndv]; exact hcov.done k, rfl⟩)
    · have hmu : (kvb.left seen2).length < (kvb.left seen).length := by
        rw [hperm2.length_eq]
        exact Nat.lt_succ_self _
      have hpk : ((kvb.left seen).map (·.1)).Perm (key :: (kvb.left seen2).map (·.1)) := hperm2.map (·.1)
      obtain ⟨tu, mu, hbu, ⟨n1, hn1, hru⟩, hmu2⟩ : ∃ t m1, b0 key = some t ∧ (∃ n', n' < n ∧ RepS n' t u m1) ∧ ∀ x, x ∈ m1 → x ∈ M := by
        rcases hkb.lookup key with ⟨_, h2⟩ | ⟨t1, v1, m1, h1, h2, h3, h4⟩
        · rw [KV.lookup_cur hcur] at h2; cases h2
        · rw [KV.lookup_cur hcur] at h2; cases h2; exact ⟨t1, m1, by rw [← hbl, h1], h3, fun x hx => hmb _ (.tail _ (.tail _ (h4 x hx)))⟩
      have hnk : Nm key := hnmb (KV.cur_mem hcur)
      rcases hko.lookup key with ⟨hon0, hov⟩ | ⟨to, vo1, _, hot0, hov, _⟩
      · have hon : o0 key = none := by rw [← hol, hon0]
        have hfresh : vts.lookup key = none := hcov.fresh hpk hon
        have hfv : kvn.list.lookup key = none := kids_none hvk hfresh
        refine g_q (qv_extract rfl rfl) rfl ?_
        refine g_nil ?_
        refine e_seq ?_
        refine c_seq ?_
        refine c_true rfl ?_
        refine c_skip ?_
        refine e_seq ?_
        refine c_block ?_
        refine c_seq ?_
        refine c_region ?_   -- region 12
        refine g_q (qv_entry (k := key) (v := u) rfl m0 (.tail _ (.tail _ (.tail _ (List.mem_append_left _ hrb)))) hcur) rfl ?_
        refine g_q (qv_extract rfl rfl) rfl ?_
        refine g_q (qv_extract rfl rfl) rfl ?_
        refine g_q (qv_assign rfl) rfl ?_
        refine g_q (qv_assign rfl) rfl ?_
        refine g_nil ?_
        refine e_seq ?_
        refine c_seq ?_
        refine c_region ?_   -- region 13
        refine g_q (qv_move rfl) rfl ?_
        refine g_q (qv_nil rfl) rfl ?_
        refine g_q (qv_field rfl Try.runUnderlying40 rfl Try.sizeOf38 rfl) rfl ?_
        refine g_q (qv_load (v := .map (some ro)) rfl Try.isAgg38 (.tail _ (.tail _ (.tail _ (List.mem_append_left _ hbo)))) rfl) rfl ?_
        refine g_q (qv_move rfl) rfl ?_
        refine g_q (QV.to (v' := .tuple #[.pointer none, .bool false]) (qv_lookup2 (m := kvo) (k := key) rfl rfl Try.runUnderlying38 Try.runUnderlying9 Try.zeroValue24 (.tail _ (.tail _ (.tail _ (List.mem_append_left _ hro))))) (by rw [hov]; rfl)) rfl ?_
        refine g_q (qv_move rfl) rfl ?_
        refine g_q (qv_extract rfl rfl) rfl ?_
        refine g_q (qv_extract rfl rfl) rfl ?_
        refine g_q (qv_assign rfl) rfl ?_
        refine g_q (qv_assign rfl) rfl ?_
        refine g_nil ?_
        refine e_seq ?_
        refine c_seq ?_
        refine c_region ?_   -- region 14
        refine g_q (qv_move rfl) rfl ?_
        refine g_q (qv_not rfl) rfl ?_
        refine g_nil ?_
        refine e_seq ?_
        refine c_true rfl ?_
        refine c_draw [(bn, .cells (sCells 6 false 0 [] nilS (.map (some rn))) 40 (0, 0))] (fun i => !(i == 7)) Try.mixed ?_
        refine d_takeW 0 rfl (by kernel_rfl) (by kernel_rfl) (by kernel_rfl) rfl (fun _ => qv_move rfl) ?_
        refine d_takeW 1 rfl (by kernel_rfl) (by kernel_rfl) (by kernel_rfl) rfl (fun _ => qv_nil rfl) ?_
        refine d_takeW 2 rfl (by kernel_rfl) (by kernel_rfl) (by kernel_rfl) rfl (fun _ => qv_field rfl Try.runUnderlying40 rfl Try.sizeOf38 rfl) ?_
        refine d_take 3 rfl (by kernel_rfl) (by kernel_rfl) (by kernel_rfl) (by kernel_rfl) rfl (qv_load (v := .map (some rn)) rfl Try.isAgg38 m0 rfl) (fun x hx => by rw [List.mem_singleton.1 hx]; exact m2) ?_
        refine d_takeW 4 rfl (by kernel_rfl) (by kernel_rfl) (by kernel_rfl) rfl (fun _ => qv_move rfl) ?_
        refine d_takeW 5 rfl (by kernel_rfl) (by kernel_rfl) (by kernel_rfl) rfl (fun _ => qv_move rfl) ?_
        refine d_run 6 rfl (by kernel_rfl) rfl (iv_call (vs := [u]) Try.call21 ⟨rfl, trivial⟩ (copy_any n1 tu u mu _ hru (fun x hx => .tail _ (.tail _ (.tail _ (List.mem_append_left _ (hmu2 x hx))))))) (by rintro _ _ ⟨m', _, rfl⟩ _ x hx; rw [List.mem_singleton.1 hx]; exact m2) ?_
        rintro d1 _ ⟨m1, hd1, rfl⟩
        refine d_run0 7 rfl (by kernel_rfl) (iv_put (i := 1) (m := kvn) rfl rfl rfl Try.runUnderlying38 Try.runUnderlying9 rfl) (fun _ _ _ h => by cases h) ?_
        rintro _ _ rfl
        refine d_done (by kernel_rfl) ?_
        refine e_normal_block ?_
        have hput : (kvn.put key d1).list = kvn.list ++ [(key, d1)] := by rw [KV.list_put, putL, hfv]; rfl
        refine e_to (M' := (it2, iterObj rb kvb seen2) :: (rn, (kvn.put key d1).obj) :: (bn, .cells (sCells 6 false 0 [] nilS (.map (some rn))) 40 (0, 0)) :: (M ++ (mv ++ m1))) (fun f => by simp) ?_
        exact e_again seen2 hmu (L' := [(0, ptr bo), (7, ptr bn), (92, ptr it2)]) ⟨rfl, rfl, rfl, trivial⟩ ⟨kvn.put key d1, vts ++ [(key, tu)], mv ++ m1, rfl, (by rw [hput]; exact hvk.append (Kids.single ⟨n1, hn1, hd1⟩)), (fun p hp => (List.mem_append.1 hp).elim (hnm p) (fun h => by rw [List.mem_singleton.1 h]; exact hnk)), (hcov.lay hpk (left_nodup kvb seen) hon hbu (fun k' => lookup_snoc hfresh _ k')), rfl⟩
      · have hot : o0 key = some to := by rw [← hol, hot0]
        refine g_q (qv_extract rfl rfl) rfl ?_
        refine g_nil ?_
        refine e_seq ?_
        refine c_seq ?_
        refine c_true rfl ?_
        refine c_skip ?_
        refine e_seq ?_
        refine c_block ?_
        refine c_seq ?_
        refine c_region ?_   -- region 12
        refine g_q (qv_entry (k := key) (v := u) rfl m0 (.tail _ (.tail _ (.tail _ (List.mem_append_left _ hrb)))) hcur) rfl ?_
        refine g_q (qv_extract rfl rfl) rfl ?_
        refine g_q (qv_extract rfl rfl) rfl ?_
        refine g_q (qv_assign rfl) rfl ?_
        refine g_q (qv_assign rfl) rfl ?_
        refine g_nil ?_
        refine e_seq ?_
        refine c_seq ?_
        refine c_region ?_   -- region 13
        refine g_q (qv_move rfl) rfl ?_
        refine g_q (qv_nil rfl) rfl ?_
        refine g_q (qv_field rfl Try.runUnderlying40 rfl Try.sizeOf38 rfl) rfl ?_
        refine g_q (qv_load (v := .map (some ro)) rfl Try.isAgg38 (.tail _ (.tail _ (.tail _ (List.mem_append_left _ hbo)))) rfl) rfl ?_
        refine g_q (qv_move rfl) rfl ?_
        refine g_q (QV.to (v' := .tuple #[vo1, .bool true]) (qv_lookup2 (m := kvo) (k := key) rfl rfl Try.runUnderlying38 Try.runUnderlying9 Try.zeroValue24 (.tail _ (.tail _ (.tail _ (List.mem_append_left _ hro))))) (by rw [hov]; rfl)) rfl ?_
        refine g_q (qv_move rfl) rfl ?_
        refine g_q (qv_extract rfl rfl) rfl ?_
        refine g_q (qv_extract rfl rfl) rfl ?_
        refine g_q (qv_assign rfl) rfl ?_
        refine g_q (qv_assign rfl) rfl ?_
        refine g_nil ?_
        refine e_seq ?_
        refine c_seq ?_
        refine c_region ?_   -- region 14
        refine g_q (qv_move rfl) rfl ?_
        refine g_q (qv_not rfl) rfl ?_
        refine g_nil ?_
        refine e_seq ?_
        refine c_false rfl ?_
        refine c_skip ?_
        refine e_normal_block ?_
        exact e_again seen2 hmu (L' := [(0, ptr bo), (7, ptr bn), (92, ptr it2)]) ⟨rfl, rfl, rfl, trivial⟩ ⟨kvn, vts, mv, rfl, hvk, hnm, (hcov.pass hpk (by rw [hot]; rfl)), rfl⟩
  · have hmu : (kvo.left seen2).length < (kvo.left seen).length := by
      rw [hperm2.length_eq]
      exact Nat.lt_succ_self _
    have hpk : ((kvo.left seen).map (·.1)).Perm (key :: (kvo.left seen2).map (·.1)) := hperm2.map (·.1)
    obtain ⟨tu, mu, hou, ⟨n1, hn1, hru⟩, hmu2⟩ : ∃ t m1, o0 key = some t ∧ (∃ n', n' < n ∧ RepS n' t u m1) ∧ ∀ x, x ∈ m1 → x ∈ M := by
      rcases hko.lookup key with ⟨_, h2⟩ | ⟨t1, v1, m1, h1, h2, h3, h4⟩
      · rw [KV.lookup_cur hcur] at h2; cases h2
      · rw [KV.lookup_cur hcur] at h2; cases h2; exact ⟨t1, m1, by rw [← hol, h1], h3, fun x hx => hmo _ (.tail _ (.tail _ (h4 x hx)))⟩
    have hnk : Nm key := hnmo (KV.cur_mem hcur)
    have hfresh : vts.lookup key = none := hcov.fresh hpk
    have hfv : kvn.list.lookup key = none := kids_none hvk hfresh
    obtain ⟨bu, _, _, _, _, _, mmu, rfl, rfl⟩ := hru.kind
    rcases hkb.lookup key with ⟨hbn0, hbv⟩ | ⟨tb, vb1, mvb, hbt0, hbv, ⟨n2, hn2, hrv⟩, hmvb⟩
    · have hbn : b0 key = none := by rw [← hbl, hbn0]
      refine g_q (qv_extract rfl rfl) rfl ?_
      refine g_nil ?_
      refine e_seq ?_
      refine c_seq ?_
      refine c_true rfl ?_
      refine c_skip ?_
      refine e_seq ?_
      refine c_block ?_
      refine c_seq ?_
      refine c_region ?_   -- region 4
      refine g_q (qv_entry (k := key) (v := ptr bu) rfl m0 (.tail _ (.tail _ (.tail _ (List.mem_append_left _ hro)))) hcur) rfl ?_
      refine g_q (qv_extract rfl rfl) rfl ?_
      refine g_q (qv_extract rfl rfl) rfl ?_
      refine g_q (qv_assign rfl) rfl ?_
      refine g_q (qv_assign rfl) rfl ?_
      refine g_nil ?_
      refine e_seq ?_
      refine c_seq ?_
      refine c_region ?_   -- region 5
      refine g_q (qv_move rfl) rfl ?_
      refine g_q (qv_nil rfl) rfl ?_
      refine g_q (qv_field rfl Try.runUnderlying40 rfl Try.sizeOf38 rfl) rfl ?_
      refine g_q (qv_load (v := .map (some rb)) rfl Try.isAgg38 (.tail _ (.tail _ (.tail _ (List.mem_append_left _ hbb)))) rfl) rfl ?_
      refine g_q (qv_move rfl) rfl ?_
      refine g_q (QV.to (v' := .tuple #[.pointer none, .bool false]) (qv_lookup2 (m := kvb) (k := key) rfl rfl Try.runUnderlying38 Try.runUnderlying9 Try.zeroValue24 (.tail _ (.tail _ (.tail _ (List.mem_append_left _ hrb))))) (by rw [hbv]; rfl)) rfl ?_
      refine g_q (qv_move rfl) rfl ?_
      refine g_q (qv_extract rfl rfl) rfl ?_
      refine g_q (qv_extract rfl rfl) rfl ?_
      refine g_q (qv_assign rfl) rfl ?_
      refine g_q (qv_assign rfl) rfl ?_
      refine g_nil ?_
      refine e_seq ?_
      refine c_block ?_
      refine c_seq ?_
      refine c_region ?_   -- region 7
      refine g_q (qv_move rfl) rfl ?_
      refine g_q (qv_move rfl) rfl ?_
      refine g_off rfl rfl rfl rfl ?_
      refine g_off rfl rfl rfl rfl ?_
      refine g_off rfl rfl rfl rfl ?_
      refine g_off rfl rfl rfl rfl ?_
      refine g_off rfl rfl rfl rfl ?_
      refine g_q (qv_pick_f rfl rfl) rfl ?_
      refine g_q (qv_move rfl) rfl ?_
      refine g_off rfl rfl rfl rfl ?_
      refine g_off rfl rfl rfl rfl ?_
      refine g_off rfl rfl rfl rfl ?_
      refine g_off rfl rfl rfl rfl ?_
      refine g_off rfl rfl rfl rfl ?_
      refine g_q (qv_pick_f rfl rfl) rfl ?_
      refine g_q (qv_move rfl) rfl ?_
      refine g_off rfl rfl rfl rfl ?_
      refine g_off rfl rfl rfl rfl ?_
      refine g_q (qv_pick_f rfl rfl) rfl ?_
      refine g_q (qv_assign rfl) rfl ?_
      refine g_nil ?_
      refine e_seq ?_
      refine c_false rfl ?_
      refine c_seq ?_
      refine c_region ?_   -- region 8
      refine g_q (qv_move rfl) rfl ?_
      refine g_q (qv_move rfl) rfl ?_
      refine g_off rfl rfl rfl rfl ?_
      refine g_off rfl rfl rfl rfl ?_
      refine g_off rfl rfl rfl rfl ?_
      refine g_off rfl rfl rfl rfl ?_
      refine g_off rfl rfl rfl rfl ?_
      refine g_q (qv_pick_f rfl rfl) rfl ?_
      refine g_q (qv_move rfl) rfl ?_
      refine g_off rfl rfl rfl rfl ?_
      refine g_off rfl rfl rfl rfl ?_
      refine g_off rfl rfl rfl rfl ?_
      refine g_off rfl rfl rfl rfl ?_
      refine g_off rfl rfl rfl rfl ?_
      refine g_q (qv_pick_f rfl rfl) rfl ?_
      refine g_q (qv_assign rfl) rfl ?_
      refine g_nil ?_
      refine e_seq ?_
      refine c_false rfl ?_
      refine c_draw [(bn, .cells (sCells 6 false 0 [] nilS (.map (some rn))) 40 (0, 0))] (fun i => !(i == 7)) Try.mixed ?_
      refine d_takeW 0 rfl (by kernel_rfl) (by kernel_rfl) (by kernel_rfl) rfl (fun _ => qv_move rfl) ?_
      refine d_takeW 1 rfl (by kernel_rfl) (by kernel_rfl) (by kernel_rfl) rfl (fun _ => qv_nil rfl) ?_
      refine d_takeW 2 rfl (by kernel_rfl) (by kernel_rfl) (by kernel_rfl) rfl (fun _ => qv_field rfl Try.runUnderlying40 rfl Try.sizeOf38 rfl) ?_
      refine d_take 3 rfl (by kernel_rfl) (by kernel_rfl) (by kernel_rfl) (by kernel_rfl) rfl (qv_load (v := .map (some rn)) rfl Try.isAgg38 m0 rfl) (fun x hx => by rw [List.mem_singleton.1 hx]; exact m2) ?_
      refine d_takeW 4 rfl (by kernel_rfl) (by kernel_rfl) (by kernel_rfl) rfl (fun _ => qv_move rfl) ?_
      refine d_takeW 5 rfl (by kernel_rfl) (by kernel_rfl) (by kernel_rfl) rfl (fun _ => qv_move rfl) ?_
      refine d_run 6 rfl (by kernel_rfl) rfl (iv_call (vs := [ptr bu]) Try.call21 ⟨rfl, trivial⟩ (copy_any n1 tu (ptr bu) _ _ hru (fun x hx => .tail _ (.tail _ (.tail _ (List.mem_append_left _ (hmu2 x hx))))))) (by rintro _ _ ⟨m', _, rfl⟩ _ x hx; rw [List.mem_singleton.1 hx]; exact m2) ?_
      rintro d1 _ ⟨m1, hd1, rfl⟩
      refine d_run0 7 rfl (by kernel_rfl) (iv_put (i := 1) (m := kvn) rfl rfl rfl Try.runUnderlying38 Try.runUnderlying9 rfl) (fun _ _ _ h => by cases h) ?_
      rintro _ _ rfl
      refine d_done (by kernel_rfl) ?_
      refine e_normal_block ?_
      refine e_normal_block ?_
      have hput : (kvn.put key d1).list = kvn.list ++ [(key, d1)] := by rw [KV.list_put, putL, hfv]; rfl
      refine e_to (M' := (it, iterObj ro kvo seen2) :: (rn, (kvn.put key d1).obj) :: (bn, .cells (sCells 6 false 0 [] nilS (.map (some rn))) 40 (0, 0)) :: (M ++ (mv ++ m1))) (fun f => by simp) ?_
      exact e_again seen2 hmu (L' := [(0, ptr bo), (1, ptr bb), (2, .bool mg), (7, ptr bn), (21, ptr it)]) ⟨rfl, rfl, rfl, rfl, rfl, trivial⟩ ⟨kvn.put key d1, vts ++ [(key, tu)], mv ++ m1, rfl, (by rw [hput]; exact hvk.append (Kids.single ⟨n1, hn1, hd1⟩)), (fun p hp => (List.mem_append.1 hp).elim (hnm p) (fun h => by rw [List.mem_singleton.1 h]; exact hnk)), (hcov.step hpk (left_nodup kvo seen) hou (c := some tu) (fun k' => lookup_snoc hfresh _ k') (by rw [hou, hbn]; exact .over tu)), rfl⟩
    · have hbt : b0 key = some tb := by rw [← hbl, hbt0]
      obtain ⟨bv, _, _, _, _, _, mmv, rfl, rfl⟩ := hrv.kind
      have hmb2 := fun x hx => hmb _ (.tail _ (.tail _ (hmvb x hx)))
      refine g_q (qv_extract rfl rfl) rfl ?_
      refine g_nil ?_
      refine e_seq ?_
      refine c_seq ?_
      refine c_true rfl ?_
      refine c_skip ?_
      refine e_seq ?_
      refine c_block ?_
      refine c_seq ?_
      refine c_region ?_   -- region 4
      refine g_q (qv_entry (k := key) (v := ptr bu) rfl m0 (.tail _ (.tail _ (.tail _ (List.mem_append_left _ hro)))) hcur) rfl ?_
      refine g_q (qv_extract rfl rfl) rfl ?_
      refine g_q (qv_extract rfl rfl) rfl ?_
      refine g_q (qv_assign rfl) rfl ?_
      refine g_q (qv_assign rfl) rfl ?_
      refine g_nil ?_
      refine e_seq ?_
      refine c_seq ?_
      refine c_region ?_   -- region 5
      refine g_q (qv_move rfl) rfl ?_
      refine g_q (qv_nil rfl) rfl ?_
      refine g_q (qv_field rfl Try.runUnderlying40 rfl Try.sizeOf38 rfl) rfl ?_
      refine g_q (qv_load (v := .map (some rb)) rfl Try.isAgg38 (.tail _ (.tail _ (.tail _ (List.mem_append_left _ hbb)))) rfl) rfl ?_
      refine g_q (qv_move rfl) rfl ?_
      refine g_q (QV.to (v' := .tuple #[ptr bv, .bool true]) (qv_lookup2 (m := kvb) (k := key) rfl rfl Try.runUnderlying38 Try.runUnderlying9 Try.zeroValue24 (.tail _ (.tail _ (.tail _ (List.mem_append_left _ hrb))))) (by rw [hbv]; rfl)) rfl ?_
      refine g_q (qv_move rfl) rfl ?_
      refine g_q (qv_extract rfl rfl) rfl ?_
      refine g_q (qv_extract rfl rfl) rfl ?_
      refine g_q (qv_assign rfl) rfl ?_
      refine g_q (qv_assign rfl) rfl ?_
      refine g_nil ?_
      refine e_seq ?_
      refine c_block ?_
      refine c_cut (fun L' M' => ∃ β : Bool, (β = true ↔ (mg = false ∧ kindT tu = 0 ∧ kindT tb ≠ 0)) ∧ L' = [(0, ptr bo), (1, ptr bb), (2, .bool mg), (7, ptr bn), (8, str key), (9, ptr bu), (10, ptr bv), (11, .bool true), (21, ptr it), (43, .bool β)] ∧ M' = (it, iterObj ro kvo seen2) :: (rn, kvn.obj) :: (bn, .cells (sCells 6 false 0 [] nilS (.map (some rn))) 40 (0, 0)) :: (M ++ mv)) ?_ ?_
      · refine c_region ?_   -- region 7
        refine g_q (qv_move rfl) rfl ?_
        refine g_q (qv_move rfl) rfl ?_
        by_cases hu0 : kindT tu = 0
        · refine g_on rfl rfl ?_
          refine g_q (qv_move rfl) rfl ?_
          refine g_on rfl rfl ?_
          refine g_q (qv_nil rfl) rfl ?_
          refine g_on rfl rfl ?_
          refine g_q (qv_field rfl Try.runUnderlying40 rfl Try.sizeOf3 rfl) rfl ?_
          refine g_on rfl rfl ?_
          refine g_q (qv_load (v := .int .i64 (kindT tu)) rfl Try.isAgg3 (.tail _ (.tail _ (.tail _ (List.mem_append_left _ (hmu2 _ m0))))) rfl) rfl ?_
          refine g_on rfl rfl ?_
          refine g_q (QV.to (v' := .bool true) (qv_eqi (b := 0) rfl rfl) (by simp [hu0])) rfl ?_
          refine g_q (qv_pick_t rfl rfl) rfl ?_
          refine g_q (qv_move rfl) rfl ?_
          by_cases hb0 : kindT tb = 0
          · refine g_on rfl rfl ?_
            refine g_q (qv_move rfl) rfl ?_
            refine g_on rfl rfl ?_
            refine g_q (qv_nil rfl) rfl ?_
            refine g_on rfl rfl ?_
            refine g_q (qv_field rfl Try.runUnderlying40 rfl Try.sizeOf3 rfl) rfl ?_
            refine g_on rfl rfl ?_
            refine g_q (qv_load (v := .int .i64 (kindT tb)) rfl Try.isAgg3 (.tail _ (.tail _ (.tail _ (List.mem_append_left _ (hmb2 _ m0))))) rfl) rfl ?_
            refine g_on rfl rfl ?_
            refine g_q (QV.to (v' := .bool false) (qv_nei (b := 0) rfl rfl) (by simp [hb0])) rfl ?_
            refine g_q (qv_pick_t rfl rfl) rfl ?_
            refine g_q (qv_move rfl) rfl ?_
            refine g_off rfl rfl rfl rfl ?_
            refine g_off rfl rfl rfl rfl ?_
            refine g_q (qv_pick_f rfl rfl) rfl ?_
            refine g_q (qv_assign rfl) rfl ?_
            refine g_nil ?_
            exact e_mid (L' := [(0, ptr bo), (1, ptr bb), (2, .bool mg), (7, ptr bn), (8, str key), (9, ptr bu), (10, ptr bv), (11, .bool true), (21, ptr it), (43, .bool false)]) ⟨rfl, rfl, rfl, rfl, rfl, rfl, rfl, rfl, rfl, rfl, trivial⟩ ⟨false, ⟨fun h => (by cases h), fun h => absurd hb0 h.2.2⟩, rfl, rfl⟩
          · refine g_on rfl rfl ?_
            refine g_q (qv_move rfl) rfl ?_
            refine g_on rfl rfl ?_
            refine g_q (qv_nil rfl) rfl ?_
            refine g_on rfl rfl ?_
            refine g_q (qv_field rfl Try.runUnderlying40 rfl Try.sizeOf3 rfl) rfl ?_
            refine g_on rfl rfl ?_
            refine g_q (qv_load (v := .int .i64 (kindT tb)) rfl Try.isAgg3 (.tail _ (.tail _ (.tail _ (List.mem_append_left _ (hmb2 _ m0))))) rfl) rfl ?_
            refine g_on rfl rfl ?_
            refine g_q (QV.to (v' := .bool true) (qv_nei (b := 0) rfl rfl) (by simp [hb0])) rfl ?_
            refine g_q (qv_pick_t rfl rfl) rfl ?_
            refine g_q (qv_move rfl) rfl ?_
            refine g_on rfl rfl ?_
            refine g_q (qv_move rfl) rfl ?_
            refine g_on rfl rfl ?_
            refine g_q (qv_not rfl) rfl ?_
            refine g_q (qv_pick_t rfl rfl) rfl ?_
            refine g_q (qv_assign rfl) rfl ?_
            cases mg with
            | true =>
              refine g_nil ?_
              exact e_mid (L' := [(0, ptr bo), (1, ptr bb), (2, .bool true), (7, ptr bn), (8, str key), (9, ptr bu), (10, ptr bv), (11, .bool true), (21, ptr it), (43, .bool false)]) ⟨rfl, rfl, rfl, rfl, rfl, rfl, rfl, rfl, rfl, rfl, trivial⟩ ⟨false, ⟨fun h => (by cases h), fun h => by cases h.1⟩, rfl, rfl⟩
            | false =>
              refine g_nil ?_
              exact e_mid (L' := [(0, ptr bo), (1, ptr bb), (2, .bool false), (7, ptr bn), (8, str key), (9, ptr bu), (10, ptr bv), (11, .bool true), (21, ptr it), (43, .bool true)]) ⟨rfl, rfl, rfl, rfl, rfl, rfl, rfl, rfl, rfl, rfl, trivial⟩ ⟨true, ⟨fun _ => ⟨rfl, hu0, hb0⟩, fun _ => rfl⟩, rfl, rfl⟩
        · refine g_on rfl rfl ?_
          refine g_q (qv_move rfl) rfl ?_
          refine g_on rfl rfl ?_
          refine g_q (qv_nil rfl) rfl ?_
          refine g_on rfl rfl ?_
          refine g_q (qv_field rfl Try.runUnderlying40 rfl Try.sizeOf3 rfl) rfl ?_
          refine g_on rfl rfl ?_
          refine g_q (qv_load (v := .int .i64 (kindT tu)) rfl Try.isAgg3 (.tail _ (.tail _ (.tail _ (List.mem_append_left _ (hmu2 _ m0))))) rfl) rfl ?_
          refine g_on rfl rfl ?_
          refine g_q (QV.to (v' := .bool false) (qv_eqi (b := 0) rfl rfl) (by simp [hu0])) rfl ?_
          refine g_q (qv_pick_t rfl rfl) rfl ?_
          refine g_q (qv_move rfl) rfl ?_
          refine g_off rfl rfl rfl rfl ?_
          refine g_off rfl rfl rfl rfl ?_
          refine g_off rfl rfl rfl rfl ?_
          refine g_off rfl rfl rfl rfl ?_
          refine g_off rfl rfl rfl rfl ?_
          refine g_q (qv_pick_f rfl rfl) rfl ?_
          refine g_q (qv_move rfl) rfl ?_
          refine g_off rfl rfl rfl rfl ?_
          refine g_off rfl rfl rfl rfl ?_
          refine g_q (qv_pick_f rfl rfl) rfl ?_
          refine g_q (qv_assign rfl) rfl ?_
          refine g_nil ?_
          exact e_mid (L' := [(0, ptr bo), (1, ptr bb), (2, .bool mg), (7, ptr bn), (8, str key), (9, ptr bu), (10, ptr bv), (11, .bool true), (21, ptr it), (43, .bool false)]) ⟨rfl, rfl, rfl, rfl, rfl, rfl, rfl, rfl, rfl, rfl, trivial⟩ ⟨false, ⟨fun h => (by cases h), fun h => absurd h.2.1 hu0⟩, rfl, rfl⟩
      · rintro _ _ ⟨β, hβ, rfl, rfl⟩
        refine c_cond rfl (fun hc => ?_) (fun hc => ?_)
        · obtain ⟨rfl, hu0, hb0⟩ := hβ.1 hc
          obtain rfl := kind_null hu0
          refine c_skip ?_
          refine e_normal_block ?_
          refine e_normal_block ?_
          exact e_again seen2 hmu (L' := [(0, ptr bo), (1, ptr bb), (2, .bool false), (7, ptr bn), (21, ptr it)]) ⟨rfl, rfl, rfl, rfl, rfl, trivial⟩ ⟨kvn, vts, mv, rfl, hvk, hnm, (hcov.step hpk (left_nodup kvo seen) hou (c := none) (fun k' => same_gone hfresh k') (by rw [hou, hbt]; exact .del tb rfl (fun e => hb0 (by rw [e]; rfl)))), rfl⟩
        · refine c_cut (fun L' M' => ∃ β : Bool, (β = true ↔ (kindT tu = 6 ∧ kindT tb = 6)) ∧ L' = [(0, ptr bo), (1, ptr bb), (2, .bool mg), (7, ptr bn), (8, str key), (9, ptr bu), (10, ptr bv), (11, .bool true), (21, ptr it), (63, .bool β)] ∧ M' = (it, iterObj ro kvo seen2) :: (rn, kvn.obj) :: (bn, .cells (sCells 6 false 0 [] nilS (.map (some rn))) 40 (0, 0)) :: (M ++ mv)) ?_ ?_
          · refine c_region ?_   -- region 8
            refine g_q (qv_move rfl) rfl ?_
            refine g_q (qv_move rfl) rfl ?_
            by_cases hu6 : kindT tu = 6
            · refine g_on rfl rfl ?_
              refine g_q (qv_move rfl) rfl ?_
              refine g_on rfl rfl ?_
              refine g_q (qv_nil rfl) rfl ?_
              refine g_on rfl rfl ?_
              refine g_q (qv_field rfl Try.runUnderlying40 rfl Try.sizeOf3 rfl) rfl ?_
              refine g_on rfl rfl ?_
              refine g_q (qv_load (v := .int .i64 (kindT tu)) rfl Try.isAgg3 (.tail _ (.tail _ (.tail _ (List.mem_append_left _ (hmu2 _ m0))))) rfl) rfl ?_
              refine g_on rfl rfl ?_
              refine g_q (QV.to (v' := .bool true) (qv_eqi (b := 6) rfl rfl) (by simp [hu6])) rfl ?_
              refine g_q (qv_pick_t rfl rfl) rfl ?_
              refine g_q (qv_move rfl) rfl ?_
              by_cases hb6 : kindT tb = 6
              · refine g_on rfl rfl ?_
                refine g_q (qv_move rfl) rfl ?_
                refine g_on rfl rfl ?_
                refine g_q (qv_nil rfl) rfl ?_
                refine g_on rfl rfl ?_
                refine g_q (qv_field rfl Try.runUnderlying40 rfl Try.sizeOf3 rfl) rfl ?_
                refine g_on rfl rfl ?_
                refine g_q (qv_load (v := .int .i64 (kindT tb)) rfl Try.isAgg3 (.tail _ (.tail _ (.tail _ (List.mem_append_left _ (hmb2 _ m0))))) rfl) rfl ?_
                refine g_on rfl rfl ?_
                refine g_q (QV.to (v' := .bool true) (qv_eqi (b := 6) rfl rfl) (by simp [hb6])) rfl ?_
                refine g_q (qv_pick_t rfl rfl) rfl ?_
                refine g_q (qv_assign rfl) rfl ?_
                refine g_nil ?_
                exact e_mid (L' := [(0, ptr bo), (1, ptr bb), (2, .bool mg), (7, ptr bn), (8, str key), (9, ptr bu), (10, ptr bv), (11, .bool true), (21, ptr it), (63, .bool true)]) ⟨rfl, rfl, rfl, rfl, rfl, rfl, rfl, rfl, rfl, rfl, trivial⟩ ⟨true, ⟨fun _ => ⟨hu6, hb6⟩, fun _ => rfl⟩, rfl, rfl⟩
              · refine g_on rfl rfl ?_
                refine g_q (qv_move rfl) rfl ?_
                refine g_on rfl rfl ?_
                refine g_q (qv_nil rfl) rfl ?_
                refine g_on rfl rfl ?_
                refine g_q (qv_field rfl Try.runUnderlying40 rfl Try.sizeOf3 rfl) rfl ?_
                refine g_on rfl rfl ?_
                refine g_q (qv_load (v := .int .i64 (kindT tb)) rfl Try.isAgg3 (.tail _ (.tail _ (.tail _ (List.mem_append_left _ (hmb2 _ m0))))) rfl) rfl ?_
                refine g_on rfl rfl ?_
                refine g_q (QV.to (v' := .bool false) (qv_eqi (b := 6) rfl rfl) (by simp [hb6])) rfl ?_
                refine g_q (qv_pick_t rfl rfl) rfl ?_
                refine g_q (qv_assign rfl) rfl ?_
                refine g_nil ?_
                exact e_mid (L' := [(0, ptr bo), (1, ptr bb), (2, .bool mg), (7, ptr bn), (8, str key), (9, ptr bu), (10, ptr bv), (11, .bool true), (21, ptr it), (63, .bool false)]) ⟨rfl, rfl, rfl, rfl, rfl, rfl, rfl, rfl, rfl, rfl, trivial⟩ ⟨false, ⟨fun h => (by cases h), fun h => absurd h.2 hb6⟩, rfl, rfl⟩
            · refine g_on rfl rfl ?_
              refine g_q (qv_move rfl) rfl ?_
              refine g_on rfl rfl ?_
              refine g_q (qv_nil rfl) rfl ?_
              refine g_on rfl rfl ?_
              refine g_q (qv_field rfl Try.runUnderlying40 rfl Try.sizeOf3 rfl) rfl ?_
              refine g_on rfl rfl ?_
              refine g_q (qv_load (v := .int .i64 (kindT tu)) rfl Try.isAgg3 (.tail _ (.tail _ (.tail _ (List.mem_append_left _ (hmu2 _ m0))))) rfl) rfl ?_
              refine g_on rfl rfl ?_
              refine g_q (QV.to (v' := .bool false) (qv_eqi (b := 6) rfl rfl) (by simp [hu6])) rfl ?_
              refine g_q (qv_pick_t rfl rfl) rfl ?_
              refine g_q (qv_move rfl) rfl ?_
              refine g_off rfl rfl rfl rfl ?_
              refine g_off rfl rfl rfl rfl ?_
              refine g_off rfl rfl rfl rfl ?_
              refine g_off rfl rfl rfl rfl ?_
              refine g_off rfl rfl rfl rfl ?_
              refine g_q (qv_pick_f rfl rfl) rfl ?_
              refine g_q (qv_assign rfl) rfl ?_
              refine g_nil ?_
              exact e_mid (L' := [(0, ptr bo), (1, ptr bb), (2, .bool mg), (7, ptr bn), (8, str key), (9, ptr bu), (10, ptr bv), (11, .bool true), (21, ptr it), (63, .bool false)]) ⟨rfl, rfl, rfl, rfl, rfl, rfl, rfl, rfl, rfl, rfl, trivial⟩ ⟨false, ⟨fun h => (by cases h), fun h => absurd h.1 hu6⟩, rfl, rfl⟩
          · rintro _ _ ⟨γ, hγ, rfl, rfl⟩
            refine c_cond rfl (fun hc2 => ?_) (fun hc2 => ?_)
            · obtain ⟨hu6, hb6⟩ := hγ.1 hc2
              obtain ⟨oe2, rfl⟩ := kind_tab hu6
              obtain ⟨be2, rfl⟩ := kind_tab hb6
              have hN : max n1 n2 < n := Nat.max_lt.2 ⟨hn1, hn2⟩
              refine c_draw [(bn, .cells (sCells 6 false 0 [] nilS (.map (some rn))) 40 (0, 0))] (fun i => !(i == 9)) Try.mixed ?_
              refine d_takeW 0 rfl (by kernel_rfl) (by kernel_rfl) (by kernel_rfl) rfl (fun _ => qv_move rfl) ?_
              refine d_takeW 1 rfl (by kernel_rfl) (by kernel_rfl) (by kernel_rfl) rfl (fun _ => qv_nil rfl) ?_
              refine d_takeW 2 rfl (by kernel_rfl) (by kernel_rfl) (by kernel_rfl) rfl (fun _ => qv_field rfl Try.runUnderlying40 rfl Try.sizeOf38 rfl) ?_
              refine d_take 3 rfl (by kernel_rfl) (by kernel_rfl) (by kernel_rfl) (by kernel_rfl) rfl (qv_load (v := .map (some rn)) rfl Try.isAgg38 m0 rfl) (fun x hx => by rw [List.mem_singleton.1 hx]; exact m2) ?_
              refine d_takeW 4 rfl (by kernel_rfl) (by kernel_rfl) (by kernel_rfl) rfl (fun _ => qv_move rfl) ?_
              refine d_takeW 5 rfl (by kernel_rfl) (by kernel_rfl) (by kernel_rfl) rfl (fun _ => qv_move rfl) ?_
              refine d_takeW 6 rfl (by kernel_rfl) (by kernel_rfl) (by kernel_rfl) rfl (fun _ => qv_move rfl) ?_
              refine d_takeW 7 rfl (by kernel_rfl) (by kernel_rfl) (by kernel_rfl) rfl (fun _ => qv_move rfl) ?_
              refine d_run 8 rfl (by kernel_rfl) rfl (iv_call (vs := [ptr bu, ptr bv, .bool mg]) Try.call18 ⟨rfl, rfl, rfl, trivial⟩ (ih _ hN oe2 be2 (ptr bu) (ptr bv) _ _ mg _ (hru.le (Nat.le_max_left _ _)) (hrv.le (Nat.le_max_right _ _)) (fun x hx => .tail _ (.tail _ (.tail _ (List.mem_append_left _ (hmu2 x hx))))) (fun x hx => .tail _ (.tail _ (.tail _ (List.mem_append_left _ (hmb2 x hx))))))) (by rintro _ _ ⟨_, m', _, _, rfl⟩ _ x hx; rw [List.mem_singleton.1 hx]; exact m2) ?_
              rintro d1 _ ⟨re2, m1, hd1, hco2, rfl⟩
              refine d_run0 9 rfl (by kernel_rfl) (iv_put (i := 1) (m := kvn) rfl rfl rfl Try.runUnderlying38 Try.runUnderlying9 rfl) (fun _ _ _ h => by cases h) ?_
              rintro _ _ rfl
              refine d_done (by kernel_rfl) ?_
              refine e_normal_block ?_
              refine e_normal_block ?_
              have hput : (kvn.put key d1).list = kvn.list ++ [(key, d1)] := by rw [KV.list_put, putL, hfv]; rfl
              refine e_to (M' := (it, iterObj ro kvo seen2) :: (rn, (kvn.put key d1).obj) :: (bn, .cells (sCells 6 false 0 [] nilS (.map (some rn))) 40 (0, 0)) :: (M ++ (mv ++ m1))) (fun f => by simp) ?_
              exact e_again seen2 hmu (L' := [(0, ptr bo), (1, ptr bb), (2, .bool mg), (7, ptr bn), (21, ptr it)]) ⟨rfl, rfl, rfl, rfl, rfl, trivial⟩ ⟨kvn.put key d1, vts ++ [(key, .tab re2)], mv ++ m1, rfl, (by rw [hput]; exact hvk.append (Kids.single ⟨_, hN, hd1⟩)), (fun p hp => (List.mem_append.1 hp).elim (hnm p) (fun h => by rw [List.mem_singleton.1 h]; exact hnk)), (hcov.step hpk (left_nodup kvo seen) hou (c := some (.tab re2)) (fun k' => lookup_snoc hfresh _ k') (by rw [hou, hbt]; exact .both _ _ _ hd1.ok hco2)), rfl⟩
            · refine c_draw [(bn, .cells (sCells 6 false 0 [] nilS (.map (some rn))) 40 (0, 0))] (fun i => !(i == 7)) Try.mixed ?_
              refine d_takeW 0 rfl (by kernel_rfl) (by kernel_rfl) (by kernel_rfl) rfl (fun _ => qv_move rfl) ?_
              refine d_takeW 1 rfl (by kernel_rfl) (by kernel_rfl) (by kernel_rfl) rfl (fun _ => qv_nil rfl) ?_
              refine d_takeW 2 rfl (by kernel_rfl) (by kernel_rfl) (by kernel_rfl) rfl (fun _ => qv_field rfl Try.runUnderlying40 rfl Try.sizeOf38 rfl) ?_
              refine d_take 3 rfl (by kernel_rfl) (by kernel_rfl) (by kernel_rfl) (by kernel_rfl) rfl (qv_load (v := .map (some rn)) rfl Try.isAgg38 m0 rfl) (fun x hx => by rw [List.mem_singleton.1 hx]; exact m2) ?_
              refine d_takeW 4 rfl (by kernel_rfl) (by kernel_rfl) (by kernel_rfl) rfl (fun _ => qv_move rfl) ?_
              refine d_takeW 5 rfl (by kernel_rfl) (by kernel_rfl) (by kernel_rfl) rfl (fun _ => qv_move rfl) ?_
              refine d_run 6 rfl (by kernel_rfl) rfl (iv_call (vs := [ptr bu]) Try.call21 ⟨rfl, trivial⟩ (copy_any n1 tu (ptr bu) _ _ hru (fun x hx => .tail _ (.tail _ (.tail _ (List.mem_append_left _ (hmu2 x hx))))))) (by rintro _ _ ⟨m', _, rfl⟩ _ x hx; rw [List.mem_singleton.1 hx]; exact m2) ?_
              rintro d1 _ ⟨m1, hd1, rfl⟩
              refine d_run0 7 rfl (by kernel_rfl) (iv_put (i := 1) (m := kvn) rfl rfl rfl Try.runUnderlying38 Try.runUnderlying9 rfl) (fun _ _ _ h => by cases h) ?_
              rintro _ _ rfl
              refine d_done (by kernel_rfl) ?_
              refine e_normal_block ?_
              refine e_normal_block ?_
              have hput : (kvn.put key d1).list = kvn.list ++ [(key, d1)] := by rw [KV.list_put, putL, hfv]; rfl
              refine e_to (M' := (it, iterObj ro kvo seen2) :: (rn, (kvn.put key d1).obj) :: (bn, .cells (sCells 6 false 0 [] nilS (.map (some rn))) 40 (0, 0)) :: (M ++ (mv ++ m1))) (fun f => by simp) ?_
              exact e_again seen2 hmu (L' := [(0, ptr bo), (1, ptr bb), (2, .bool mg), (7, ptr bn), (21, ptr it)]) ⟨rfl, rfl, rfl, rfl, rfl, trivial⟩ ⟨kvn.put key d1, vts ++ [(key, tu)], mv ++ m1, rfl, (by rw [hput]; exact hvk.append (Kids.single ⟨n1, hn1, hd1⟩)), (fun p hp => (List.mem_append.1 hp).elim (hnm p) (fun h => by rw [List.mem_singleton.1 h]; exact hnk)), (hcov.step hpk (left_nodup kvo seen) hou (c := some tu) (fun k' => lookup_snoc hfresh _ k') (by rw [hou, hbt]; exact .keep tu tb (fun e => mg_or (fun h1 h2 => by rw [hβ.2 ⟨h1, by rw [e]; rfl, fun h3 => h2 (kind_null h3)⟩] at hc; cases hc)) (fun de se e1 e2 => by rw [hγ.2 ⟨by rw [e1]; rfl, by rw [e2]; rfl⟩] at hc2; cases hc2))), rfl⟩
theorem coalesced_any (n : Nat) : CoalescedSpec W0 n := by
  induction n using Nat.strongRecOn with
  | ind n ih => exact coalesced_step n ih

end Go.Proofs.Ytnnclcfklbeocaa

/-
  The walks, part 3: spec.Walk gives what 'walkT' gives.
  Conditions: the value lies in memory as RepS says.
-/
import Derived.Test.YtnnclcfklbeocaaW2
namespace Go.Proofs.Ytnnclcfklbeocaa
open Go.RowKit

variable {W0 : World}

def walkT : List Key → T → Option T
  | [], t => some t
  | k :: ks, .tab es => (es.lookup k).bind (walkT ks)
  | _ :: _, _ => none

theorem walkT_not {ks : List Key} {k : Key} {t : T} (h : ∀ es, t ≠ .tab es) : walkT (k :: ks) t = none := by
  cases t with
  | tab es => exact absurd rfl (h es)
  | _ => rfl

/-- What every spec.Value shows first. -/
theorem RepS.look : ∀ {n : Nat} {t : T} {v : Value} {m : Heap}, RepS n t v m → ∃ b kk x i s it mp mm, v = ptr b ∧ m = (b, Obj.cells (sCells kk x i s it mp) 40 (0, 0)) :: mm ∧
    ((kk = 6 ∧ ∃ es r kv kts mk, t = .tab es ∧ mp = .map (some r) ∧ KeysOk es ∧ kts.Perm es ∧ Kids (fun t v m => ∃ n', n' < n ∧ RepS n' t v m) kts kv.list mk ∧ mm = (r, KV.obj kv) :: mk) ∨ (kk ≠ 6 ∧ ∀ es, t ≠ .tab es)) := by
  intro n t v m h
  have h' : RepS1 (fun t v m => ∃ n', n' < n ∧ RepS n' t v m) t v m := by
    cases n with
    | zero => exact RepS1.mono (fun _ _ _ hf => hf.elim) h
    | succ n => exact RepS1.mono (fun _ _ _ hf => ⟨n, Nat.lt_succ_self n, hf⟩) h
  cases t with
  | tab es =>
    obtain ⟨b, r, kv, kts, mk, hv, hok, hp, hk, hm⟩ := h'
    exact ⟨b, 6, _, _, _, _, _, _, hv, hm, Or.inl ⟨rfl, es, r, kv, kts, mk, rfl, rfl, hok, hp, hk, rfl⟩⟩
  | one n =>
    obtain ⟨b, it, mi, bx, hv, _, hm⟩ := h'
    exact ⟨b, 5, _, _, _, _, _, _, hv, hm, Or.inr ⟨by decide, fun _ e => by cases e⟩⟩
  | null => obtain ⟨b, hv, hm⟩ := h'; exact ⟨b, 0, _, _, _, _, _, _, hv, hm, Or.inr ⟨by decide, fun _ e => by cases e⟩⟩
  | truth x => obtain ⟨b, hv, hm⟩ := h'; exact ⟨b, 1, _, _, _, _, _, _, hv, hm, Or.inr ⟨by decide, fun _ e => by cases e⟩⟩
  | int x => obtain ⟨b, hv, hm⟩ := h'; exact ⟨b, 2, _, _, _, _, _, _, hv, hm, Or.inr ⟨by decide, fun _ e => by cases e⟩⟩
  | text x => obtain ⟨b, hv, hm⟩ := h'; exact ⟨b, 4, _, _, _, _, _, _, hv, hm, Or.inr ⟨by decide, fun _ e => by cases e⟩⟩

theorem walk_any (n : Nat) (t : T) (u : Value) (mu : Heap) (ks : List Key) (v : Value) (m M : Heap) (hu : RepS n t u mu) (hmu : ∀ x, x ∈ mu → x ∈ M) (hrow : Row 9 1 v ks.length (ks.map str) m) (hm : ∀ x, x ∈ m → x ∈ M) (hn : ks.length ≤ 1000) :
    Tri Try.prog W0 9 [u, v] M fun r M' => M' = M ∧ ((walkT ks t = none ∧ r = .pointer none) ∨ ∃ t' n' m', walkT ks t = some t' ∧ n' ≤ n ∧ RepS n' t' r m' ∧ ∀ x, x ∈ m' → x ∈ M) := by
  obtain ⟨p, c, rfl⟩ := hrow.shape
  refine tri_of 34 Try.func9 rfl Try.ntmps9 (Nat.le_of_ble_eq_true rfl) ?_
  refine c_seq ?_
  refine c_region ?_   -- region 0
  refine g_q (qv_assign rfl) rfl ?_
  refine g_nil ?_
  refine e_seq ?_
  refine c_seq ?_
  refine c_seq ?_
  refine c_region ?_   -- region 1
  refine g_q (qv_move rfl) rfl ?_
  refine g_q (qv_len_slice rfl Try.runUnderlying27) rfl ?_
  refine g_q (qv_move rfl) rfl ?_
  refine g_nil ?_
  refine e_seq ?_
  refine c_block ?_
  refine c_keep (L' := [(0, u), (9, .slice p ks.length c), (10, .int .i64 (ks.length : Int)), (11, .int .i64 ((0 : Nat) : Int))]) ⟨rfl, rfl, rfl, rfl, trivial⟩ ?_
  refine c_loop (ι := Nat) (fun j L M' => ∃ t' u' n' m', L = [(0, u'), (9, .slice p ks.length c), (10, .int .i64 (ks.length : Int)), (11, .int .i64 (j : Int))] ∧ j ≤ ks.length ∧ n' ≤ n ∧ RepS n' t' u' m' ∧ (∀ x, x ∈ m' → x ∈ M) ∧ walkT ks t = walkT (ks.drop j) t' ∧ M' = M) (fun j => ks.length - j) 0 ⟨t, u, n, mu, rfl, Nat.zero_le _, Nat.le_refl _, hu, hmu, rfl, rfl⟩ ?_
  rintro j _ _ ⟨t', u', n', m', rfl, hj, hn', hu', hmu', hw, rfl⟩
  refine c_seq ?_
  refine c_region ?_   -- region 2
  refine g_q (qv_lss rfl rfl) rfl ?_
  refine g_nil ?_
  refine e_seq ?_
  refine c_seq ?_
  refine c_cond rfl (fun hc => ?_) (fun hc => ?_)   -- t12
  · -- true
    refine c_skip ?_
    refine e_seq ?_
    refine c_seq ?_
    refine c_block ?_
    refine c_seq ?_
    refine c_region ?_   -- region 3
    have hjl : j < ks.length := by
      have := of_decide_eq_true hc
      omega
    obtain ⟨k, hk⟩ : ∃ k, ks[j]? = some k := ⟨_, List.getElem?_eq_getElem hjl⟩
    have hdrop : ks.drop j = k :: ks.drop (j + 1) := by
      rw [List.drop_eq_getElem_cons hjl]
      rw [List.getElem?_eq_getElem hjl] at hk
      cases hk
      rfl
    rw [hdrop] at hw
    obtain ⟨g, c', cs, hv, hg, hcs⟩ := row_at hrow (k := j) (u := str k) (by rw [List.getElem?_map, hk]; rfl)
    cases hv
    obtain ⟨b, kk, x, i, s, it, mp, mm, rfl, rfl, hcase⟩ := hu'.look
    refine g_q (qv_index rfl rfl Try.runUnderlying27 Try.sizeOf9 (by omega) (by omega)) rfl ?_
    refine g_q (qv_load (v := str k) rfl Try.isAgg9 (hm _ hg) (by simpa using hcs)) rfl ?_
    refine g_q (qv_assign rfl) rfl ?_
    refine g_nil ?_
    refine e_seq ?_
    refine c_seq ?_
    refine c_seq ?_
    refine c_region ?_   -- region 4
    refine g_q (qv_move rfl) rfl ?_
    refine g_q (qv_nil rfl) rfl ?_
    refine g_q (qv_field rfl Try.runUnderlying40 rfl Try.sizeOf3 rfl) rfl ?_
    refine g_q (qv_load (v := .int .i64 kk) rfl Try.isAgg3 (hmu' _ m0) rfl) rfl ?_
    refine g_q (qv_nei rfl rfl) rfl ?_
    refine g_nil ?_
    refine e_seq ?_
    refine c_cond rfl (fun hc => ?_) (fun hc => ?_)   -- t19
    · -- true
      refine c_seq ?_
      refine c_region ?_   -- region 5
      refine g_q (qv_assign rfl) rfl ?_
      refine g_nil ?_
      refine e_seq ?_
      refine c_ret ?_
      refine e_ret_then (e_ret_block (e_ret_then (e_ret_then (e_ret_block (e_ret_then (?_))))))
      have hkk : kk ≠ 6 := fun e => by subst e; exact absurd hc (by decide)
      rcases hcase with ⟨e, _⟩ | ⟨_, hnt⟩
      · exact absurd e hkk
      exact e_ret1 (.inl rfl) Try.results9 rfl ⟨rfl, Or.inl ⟨by rw [hw, walkT_not hnt], rfl⟩⟩
    · -- false
      refine c_skip ?_
      refine e_seq ?_
      refine c_seq ?_
      refine c_region ?_   -- region 6
      have hkk : kk = 6 := by
        have : decide (kk = 6) = true := by simpa using hc
        exact of_decide_eq_true this
      obtain ⟨_, es, r, kv, kts, mk, rfl, rfl, hok, hp, hkids, rfl⟩ := hcase.resolve_right (fun h => h.1 hkk)
      have hlook := lookup_perm hp (perm_keys_nodup hok hp) k
      refine g_q (qv_move rfl) rfl ?_
      refine g_q (qv_nil rfl) rfl ?_
      refine g_q (qv_field rfl Try.runUnderlying40 rfl Try.sizeOf38 rfl) rfl ?_
      refine g_q (qv_load (v := .map (some r)) rfl Try.isAgg38 (hmu' _ m0) rfl) rfl ?_
      refine g_q (qv_move rfl) rfl ?_
      refine g_q (qv_lookup2 rfl rfl Try.runUnderlying38 Try.runUnderlying9 Try.zeroValue24 (hmu' _ m1)) rfl ?_
      refine g_q (qv_move rfl) rfl ?_
      refine g_q (qv_extract rfl rfl) rfl ?_
      refine g_q (qv_extract rfl rfl) rfl ?_
      refine g_q (qv_assign rfl) rfl ?_
      refine g_q (qv_assign rfl) rfl ?_
      refine g_nil ?_
      refine e_seq ?_
      refine c_seq ?_
      refine c_seq ?_
      refine c_region ?_   -- region 7
      refine g_q (qv_move rfl) rfl ?_
      refine g_q (qv_not rfl) rfl ?_
      refine g_nil ?_
      refine e_seq ?_
      refine c_cond rfl (fun hc => ?_) (fun hc => ?_)   -- t30
      · -- true
        refine c_seq ?_
        refine c_region ?_   -- region 8
        refine g_q (qv_assign rfl) rfl ?_
        refine g_nil ?_
        refine e_seq ?_
        refine c_ret ?_
        refine e_ret_then (e_ret_block (e_ret_then (e_ret_then (e_ret_block (e_ret_then (?_))))))
        rcases hkids.lookup k with ⟨h1, h2⟩ | ⟨t1, v1, m1, h1, h2, _⟩
        · exact e_ret1 (.inl rfl) Try.results9 rfl ⟨rfl, Or.inl ⟨by rw [hw, walkT, ← hlook, h1]; rfl, rfl⟩⟩
        · rw [h2] at hc
          exact absurd (show false = true from hc) (by decide)
      · -- false
        refine c_skip ?_
        refine e_seq ?_
        refine c_region ?_   -- region 9
        refine g_q (qv_move rfl) rfl ?_
        refine g_q (qv_assign rfl) rfl ?_
        refine g_nil ?_
        refine e_normal_block ?_
        refine e_seq ?_
        refine c_region ?_   -- region 10
        refine g_q (qv_add (c := ((j + 1 : Nat) : Int)) rfl rfl (by rw [wrap_i64 (by omega) (by omega)]; omega)) rfl ?_
        refine g_q (qv_move rfl) rfl ?_
        refine g_nil ?_
        rcases hkids.lookup k with ⟨h1, h2⟩ | ⟨t1, v1, m1', h1, h2, ⟨n2, hn2, hr2⟩, hsub⟩
        · rw [h2] at hc
          exact absurd hc (by decide)
        rw [h2]
        exact e_again (j + 1) (by omega) (L' := [(0, v1), (9, .slice (some ⟨g, 0, none⟩) ks.length c), (10, .int .i64 (ks.length : Int)), (11, .int .i64 ((j + 1 : Nat) : Int))]) ⟨rfl, rfl, rfl, rfl, trivial⟩ ⟨t1, v1, n2, m1', rfl, hjl, by omega, hr2, fun x hx => hmu' _ (List.mem_cons_of_mem _ (List.mem_cons_of_mem _ (hsub x hx))), by rw [hw, walkT, ← hlook, h1]; rfl, rfl⟩
  · -- false
    refine c_exit ?_
    refine e_exit_then ?_
    refine e_exit_then ?_
    refine e_exit_block ?_
    refine e_seq ?_
    refine c_seq ?_
    refine c_region ?_   -- region 11
    refine g_q (qv_move rfl) rfl ?_
    refine g_q (qv_assign rfl) rfl ?_
    refine g_nil ?_
    refine e_seq ?_
    refine c_ret ?_
    refine ?_
    have hje : ks.length ≤ j := by
      have := of_decide_eq_false hc
      omega
    rw [List.drop_of_length_le hje] at hw
    exact e_ret1 (.inl rfl) Try.results9 rfl ⟨rfl, Or.inr ⟨t', n', m', hw, hn', hu', hmu'⟩⟩
end Go.Proofs.Ytnnclcfklbeocaa

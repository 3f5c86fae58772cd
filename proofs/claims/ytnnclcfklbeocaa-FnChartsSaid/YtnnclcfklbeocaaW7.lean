/-
  The walks, part 7: parsePath, tableLookup and Values.Table follow the path as 'walkT' does.
  Conditions: the value lies in memory as RepA says; the path's names hold no dot.
-/
import Derived.Test.YtnnclcfklbeocaaW6
namespace Go.Proofs.Ytnnclcfklbeocaa
open Go.RowKit

variable {W0 : World}

theorem path_any (ks : List Key) (M : Heap) (hne : ks ≠ []) (hks : ∀ k ∈ ks, Nm k) (hn : ks.length ≤ 3) : Tri Try.prog W0 39 [str (joinL ks)] M fun v M' => ∃ m', Row 9 1 v ks.length (ks.map str) m' ∧ M' = M ++ m' := by
  have hl : (joinL ks).length ≤ 1000 := by
    have := joinL_len ks (fun k hk => by have := (hks k hk).ok.2.2; omega)
    omega
  have hs : spl [] [] (joinL ks) = ks := by
    have := spl_join ks [] hne (fun k hk => (hks k hk).ok.2.1)
    simpa using this
  refine tri_of 5 Try.func39 rfl Try.ntmps39 (Nat.le_of_ble_eq_true rfl) ?_
  refine c_seq ?_
  refine c_region ?_   -- region 0
  refine g_q (qv_assign rfl) rfl ?_
  refine g_nil ?_
  refine e_seq ?_
  refine c_seq ?_
  refine c_region ?_   -- region 1
  refine g_q (qv_move rfl) rfl ?_
  refine g_i (iv_call (vs := [str (joinL ks)]) Try.call51 ⟨rfl, trivial⟩ (split_any (joinL ks) M hl)) rfl ?_
  rintro v1 _ ⟨m1, hr1, rfl⟩
  rw [hs] at hr1
  refine g_q (qv_assign rfl) rfl ?_
  refine g_nil ?_
  refine e_seq ?_
  refine c_ret ?_
  refine ?_
  exact e_ret1 (.inl rfl) Try.results39 rfl ⟨m1, hr1, rfl⟩
/-- What every value of the package shows first. -/
theorem RepA.look : ∀ {n : Nat} {t : T} {a : Value} {m : Heap}, RepA n t a m →
    (∃ es r kv kts mk, t = .tab es ∧ a = .iface 63 (.map (some r)) ∧ KeysOk es ∧ kts.Perm es ∧ Kids (fun t v m => ∃ n', n' < n ∧ RepA n' t v m) kts kv.list mk ∧ m = (r, KV.obj kv) :: mk) ∨
    ((∀ es, t ≠ .tab es) ∧ (a = .nilIface ∨ ∃ T u, a = .iface T u ∧ Nat.beq T 63 = false ∧ Nat.beq T 66 = false)) := by
  intro n t a m h
  have h' : RepA1 (fun t v m => ∃ n', n' < n ∧ RepA n' t v m) t a m := by
    cases n with
    | zero => exact RepA1.mono (fun _ _ _ hf => hf.elim) h
    | succ n => exact RepA1.mono (fun _ _ _ hf => ⟨n, Nat.lt_succ_self n, hf⟩) h
  cases t with
  | tab es =>
    obtain ⟨r, kv, kts, mk, ha, hok, hp, hk, hm⟩ := h'
    exact Or.inl ⟨es, r, kv, kts, mk, rfl, ha, hok, hp, hk, hm⟩
  | null => exact Or.inr ⟨fun _ e => (by cases e), Or.inl h'.1⟩
  | truth x => exact Or.inr ⟨fun _ e => (by cases e), Or.inr ⟨_, _, h'.1, rfl, rfl⟩⟩
  | int x => exact Or.inr ⟨fun _ e => (by cases e), Or.inr ⟨_, _, h'.1, rfl, rfl⟩⟩
  | text x => exact Or.inr ⟨fun _ e => (by cases e), Or.inr ⟨_, _, h'.1, rfl, rfl⟩⟩
  | one x =>
    obtain ⟨s, hs, _⟩ := h'
    exact Or.inr ⟨fun _ e => (by cases e), Or.inr ⟨_, _, hs, rfl, rfl⟩⟩

theorem RepA.table {n : Nat} {es : List (Key × T)} {a : Value} {m : Heap} (h : RepA n (.tab es) a m) : ∃ r kv kts mk, a = .iface 63 (.map (some r)) ∧ KeysOk es ∧ kts.Perm es ∧ Kids (fun t v m => ∃ n', n' < n ∧ RepA n' t v m) kts kv.list mk ∧ m = (r, KV.obj kv) :: mk := by
  rcases h.look with ⟨es', r, kv, kts, mk, he, ha, hok, hp, hk, hm⟩ | ⟨h1, _⟩
  · cases he
    exact ⟨r, kv, kts, mk, ha, hok, hp, hk, hm⟩
  · exact absurd rfl (h1 es)

theorem qv_isntX {P : Program} {L : Slots} {M : Heap} {S T : TypeId} {d : TypeDesc} {x : Operand} {v z : Value} (hv : v = .nilIface ∨ ∃ T' u, v = .iface T' u ∧ Nat.beq T' T = false) (hx : opv L x = some v) (hu : ∀ w, (underlying T).run P w = .ok d w) (hd : ∀ ms, d ≠ .interface ms) (hz : ∀ w, (zeroValue T).run P w = .ok z w) :
    QV P W0 L M (.typeAssert x S T true) (.tuple #[z, .bool false]) := by
  rcases hv with rfl | ⟨T', u, rfl, hne⟩
  · exact qv_isnt_nil hx hu hd hz
  · exact qv_isnt hx hne hu hd hz

theorem look_any (n : Nat) (es : List (Key × T)) (r : Nat) (mr : Heap) (k : Key) (M : Heap) (hr : RepA n (.tab es) (.iface 63 (.map (some r))) mr) (hmr : ∀ x, x ∈ mr → x ∈ M) :
    Tri Try.prog W0 40 [.map (some r), str k] M fun v M' => M' = M ∧ ((∃ es' r' n' m', es.lookup k = some (.tab es') ∧ n' < n ∧ v = .tuple #[.map (some r'), .nilIface] ∧ RepA n' (.tab es') (.iface 63 (.map (some r'))) m' ∧ ∀ x, x ∈ m' → x ∈ mr) ∨
      ((∀ es', es.lookup k ≠ some (.tab es')) ∧ ∃ x u, v = .tuple #[.map x, .iface 107 u])) := by
  obtain ⟨r', kv, kts, mk, e, hok, hp, hkids, rfl⟩ := hr.table
  cases e
  have hlook := lookup_perm hp (perm_keys_nodup hok hp) k
  have hr' := hmr _ m0
  rcases hkids.lookup k with ⟨h1, h2⟩ | ⟨t1, v1, m1', h1, h2, ⟨n2, hn2, hr2⟩, hsub⟩
  · rw [h1] at hlook
    refine tri_of 42 Try.func40 rfl Try.ntmps40 (Nat.le_of_ble_eq_true rfl) ?_
    refine c_seq ?_
    refine c_region ?_   -- region 0
    refine g_q (qv_assign rfl) rfl ?_
    refine g_q (qv_assign rfl) rfl ?_
    refine g_nil ?_
    refine e_seq ?_
    refine c_seq ?_
    refine c_region ?_   -- region 1
    refine g_q (qv_move rfl) rfl ?_
    refine g_q (qv_move rfl) rfl ?_
    refine g_q (QV.to (v' := .tuple #[.nilIface, .bool false]) (qv_lookup2 (k := k) rfl rfl Try.runUnderlying66 Try.runUnderlying9 Try.zeroValue20 hr') (by rw [h2]; rfl)) rfl ?_
    refine g_q (qv_move rfl) rfl ?_
    refine g_q (qv_extract rfl rfl) rfl ?_
    refine g_q (qv_extract rfl rfl) rfl ?_
    refine g_q (qv_assign rfl) rfl ?_
    refine g_q (qv_assign rfl) rfl ?_
    refine g_nil ?_
    refine e_seq ?_
    refine c_seq ?_
    refine c_seq ?_
    refine c_region ?_   -- region 2
    refine g_q (qv_move rfl) rfl ?_
    refine g_q (qv_not rfl) rfl ?_
    refine g_nil ?_
    refine e_seq ?_
    refine c_true rfl ?_   -- t19
    refine c_seq ?_
    refine c_region ?_   -- region 3
    refine g_q (qv_move rfl) rfl ?_
    refine g_q (qv_move rfl) rfl ?_
    refine g_q (qv_build (vs := [(0, str k)]) (cs := #[str k]) lay107 ⟨rfl, rfl, trivial⟩ rfl) rfl ?_
    refine g_q (qv_iface Try.runUnderlying107 (fun _ h => by cases h) rfl) rfl ?_
    refine g_q (qv_assign rfl) rfl ?_
    refine g_q (qv_assign rfl) rfl ?_
    refine g_nil ?_
    refine e_seq ?_
    refine c_ret ?_
    refine e_ret_then (?_)
    exact e_ret2 (.inl rfl) Try.results40 rfl rfl ⟨rfl, Or.inr ⟨fun es' => (by rw [← hlook]; exact fun e => by cases e), _, _, rfl⟩⟩
  · rw [h1] at hlook
    have hsub' : ∀ x, x ∈ m1' → x ∈ (r, kv.obj) :: mk := fun x hx => .tail _ (hsub x hx)
    rcases hr2.look with ⟨es', r2, kv2, kts2, mk2, rfl, rfl, _⟩ | ⟨hnt, hv1⟩
    · skip
      refine tri_of 42 Try.func40 rfl Try.ntmps40 (Nat.le_of_ble_eq_true rfl) ?_
      refine c_seq ?_
      refine c_region ?_   -- region 0
      refine g_q (qv_assign rfl) rfl ?_
      refine g_q (qv_assign rfl) rfl ?_
      refine g_nil ?_
      refine e_seq ?_
      refine c_seq ?_
      refine c_region ?_   -- region 1
      refine g_q (qv_move rfl) rfl ?_
      refine g_q (qv_move rfl) rfl ?_
      refine g_q (QV.to (v' := .tuple #[.iface 63 (.map (some r2)), .bool true]) (qv_lookup2 (k := k) rfl rfl Try.runUnderlying66 Try.runUnderlying9 Try.zeroValue20 hr') (by rw [h2]; rfl)) rfl ?_
      refine g_q (qv_move rfl) rfl ?_
      refine g_q (qv_extract rfl rfl) rfl ?_
      refine g_q (qv_extract rfl rfl) rfl ?_
      refine g_q (qv_assign rfl) rfl ?_
      refine g_q (qv_assign rfl) rfl ?_
      refine g_nil ?_
      refine e_seq ?_
      refine c_seq ?_
      refine c_seq ?_
      refine c_region ?_   -- region 2
      refine g_q (qv_move rfl) rfl ?_
      refine g_q (qv_not rfl) rfl ?_
      refine g_nil ?_
      refine e_seq ?_
      refine c_false rfl ?_   -- t19
      refine c_skip ?_
      refine e_seq ?_
      refine c_seq ?_
      refine c_seq ?_
      refine c_region ?_   -- region 4
      refine g_q (qv_move rfl) rfl ?_
      refine g_q (qv_is rfl Try.runUnderlying63 (fun _ h => by cases h)) rfl ?_
      refine g_q (qv_move rfl) rfl ?_
      refine g_q (qv_extract rfl rfl) rfl ?_
      refine g_q (qv_extract rfl rfl) rfl ?_
      refine g_q (qv_assign rfl) rfl ?_
      refine g_q (qv_assign rfl) rfl ?_
      refine g_nil ?_
      refine e_seq ?_
      refine c_seq ?_
      refine c_region ?_   -- region 5
      refine g_q (qv_move rfl) rfl ?_
      refine g_nil ?_
      refine e_seq ?_
      refine c_true rfl ?_   -- t29
      refine c_seq ?_
      refine c_region ?_   -- region 6
      refine g_q (qv_move rfl) rfl ?_
      refine g_q (qv_assign rfl) rfl ?_
      refine g_q (qv_assign rfl) rfl ?_
      refine g_nil ?_
      refine e_seq ?_
      refine c_ret ?_
      refine e_ret_then (?_)
      exact e_ret2 (.inl rfl) Try.results40 rfl rfl ⟨rfl, Or.inl ⟨es', r2, n2, m1', hlook.symm, hn2, rfl, hr2, hsub'⟩⟩
    · have h63 : v1 = .nilIface ∨ ∃ T' u, v1 = .iface T' u ∧ Nat.beq T' 63 = false := hv1.imp id fun ⟨T', u, h3, h4, _⟩ => ⟨T', u, h3, h4⟩
      have h66 : v1 = .nilIface ∨ ∃ T' u, v1 = .iface T' u ∧ Nat.beq T' 66 = false := hv1.imp id fun ⟨T', u, h3, _, h4⟩ => ⟨T', u, h3, h4⟩
      refine tri_of 42 Try.func40 rfl Try.ntmps40 (Nat.le_of_ble_eq_true rfl) ?_
      refine c_seq ?_
      refine c_region ?_   -- region 0
      refine g_q (qv_assign rfl) rfl ?_
      refine g_q (qv_assign rfl) rfl ?_
      refine g_nil ?_
      refine e_seq ?_
      refine c_seq ?_
      refine c_region ?_   -- region 1
      refine g_q (qv_move rfl) rfl ?_
      refine g_q (qv_move rfl) rfl ?_
      refine g_q (QV.to (v' := .tuple #[v1, .bool true]) (qv_lookup2 (k := k) rfl rfl Try.runUnderlying66 Try.runUnderlying9 Try.zeroValue20 hr') (by rw [h2]; rfl)) rfl ?_
      refine g_q (qv_move rfl) rfl ?_
      refine g_q (qv_extract rfl rfl) rfl ?_
      refine g_q (qv_extract rfl rfl) rfl ?_
      refine g_q (qv_assign rfl) rfl ?_
      refine g_q (qv_assign rfl) rfl ?_
      refine g_nil ?_
      refine e_seq ?_
      refine c_seq ?_
      refine c_seq ?_
      refine c_region ?_   -- region 2
      refine g_q (qv_move rfl) rfl ?_
      refine g_q (qv_not rfl) rfl ?_
      refine g_nil ?_
      refine e_seq ?_
      refine c_false rfl ?_   -- t19
      refine c_skip ?_
      refine e_seq ?_
      refine c_seq ?_
      refine c_seq ?_
      refine c_region ?_   -- region 4
      refine g_q (qv_move rfl) rfl ?_
      refine g_q (qv_isntX h63 rfl Try.runUnderlying63 (fun _ h => by cases h) Try.zeroValue63) rfl ?_
      refine g_q (qv_move rfl) rfl ?_
      refine g_q (qv_extract rfl rfl) rfl ?_
      refine g_q (qv_extract rfl rfl) rfl ?_
      refine g_q (qv_assign rfl) rfl ?_
      refine g_q (qv_assign rfl) rfl ?_
      refine g_nil ?_
      refine e_seq ?_
      refine c_seq ?_
      refine c_region ?_   -- region 5
      refine g_q (qv_move rfl) rfl ?_
      refine g_nil ?_
      refine e_seq ?_
      refine c_false rfl ?_   -- t29
      refine c_skip ?_
      refine e_seq ?_
      refine c_seq ?_
      refine c_seq ?_
      refine c_region ?_   -- region 7
      refine g_q (qv_move rfl) rfl ?_
      refine g_q (qv_isntX h66 rfl Try.runUnderlying66 (fun _ h => by cases h) Try.zeroValue66) rfl ?_
      refine g_q (qv_move rfl) rfl ?_
      refine g_q (qv_extract rfl rfl) rfl ?_
      refine g_q (qv_extract rfl rfl) rfl ?_
      refine g_q (qv_assign rfl) rfl ?_
      refine g_q (qv_assign rfl) rfl ?_
      refine g_nil ?_
      refine e_seq ?_
      refine c_seq ?_
      refine c_region ?_   -- region 8
      refine g_q (qv_move rfl) rfl ?_
      refine g_nil ?_
      refine e_seq ?_
      refine c_false rfl ?_   -- t36
      refine c_skip ?_
      refine e_seq ?_
      refine c_seq ?_
      refine c_region ?_   -- region 10
      refine g_i (iv_makeMap) rfl ?_
      rintro _ _ ⟨r, rfl, rfl⟩
      refine g_q (qv_move rfl) rfl ?_
      refine g_q (qv_build (vs := [(0, str k)]) (cs := #[str k]) lay107 ⟨rfl, rfl, trivial⟩ rfl) rfl ?_
      refine g_q (qv_iface Try.runUnderlying107 (fun _ h => by cases h) rfl) rfl ?_
      refine g_q (qv_assign rfl) rfl ?_
      refine g_q (qv_assign rfl) rfl ?_
      refine g_nil ?_
      refine e_seq ?_
      refine c_ret ?_
      refine ?_
      exact e_to Fits.tail (e_ret2 (.inl rfl) Try.results40 rfl rfl ⟨rfl, Or.inr ⟨fun es' => (by rw [← hlook]; exact fun e => by cases e; exact hnt _ rfl), _, _, rfl⟩⟩)
theorem Fits.drop_right {α : Type} {l l' : List α} : Fits (l ++ l') l := fun f => by simp
theorem no_table {es : List (Key × T)} {k : Key} (h : ∀ es', es.lookup k ≠ some (.tab es')) (ks : List Key) (es2 : List (Key × T)) : (es.lookup k).bind (walkT ks) ≠ some (.tab es2) := by
  cases e : es.lookup k with
  | none => exact fun h => by cases h
  | some t =>
    have hnt : ∀ es', t ≠ .tab es' := fun es' e' => h es' (by rw [e, e'])
    cases ks with
    | nil => exact fun h => hnt es2 (by simpa [walkT] using h)
    | cons k ks => rw [Option.bind_some, walkT_not hnt]; exact fun h => by cases h

theorem tables_any (n : Nat) (es : List (Key × T)) (r : Nat) (mr : Heap) (ks : List Key) (M : Heap) (hr : RepA n (.tab es) (.iface 63 (.map (some r))) mr) (hmr : ∀ x, x ∈ mr → x ∈ M) (hne : ks ≠ []) (hks : ∀ k ∈ ks, Nm k) (hn : ks.length ≤ 3) :
    Tri Try.prog W0 27 [.map (some r), str (joinL ks)] M fun v M' => M' = M ∧ ((∃ es' r' n' m', walkT ks (.tab es) = some (.tab es') ∧ n' ≤ n ∧ v = .tuple #[.map (some r'), .nilIface] ∧ RepA n' (.tab es') (.iface 63 (.map (some r'))) m' ∧ ∀ x, x ∈ m' → x ∈ M) ∨
      ((∀ es', walkT ks (.tab es) ≠ some (.tab es')) ∧ ∃ x u, v = .tuple #[.map x, .iface 107 u])) := by
  refine tri_of 29 Try.func27 rfl Try.ntmps27 (Nat.le_of_ble_eq_true rfl) ?_
  refine c_seq ?_
  refine c_region ?_   -- region 0
  refine g_q (qv_assign rfl) rfl ?_
  refine g_q (qv_assign rfl) rfl ?_
  refine g_nil ?_
  refine e_seq ?_
  refine c_seq ?_
  refine c_region ?_   -- region 1
  refine g_q (qv_move rfl) rfl ?_
  refine g_q (qv_assign rfl) rfl ?_
  refine g_nil ?_
  refine e_seq ?_
  refine c_seq ?_
  refine c_region ?_   -- region 2
  refine g_q (qv_assign rfl) rfl ?_
  refine g_nil ?_
  refine e_seq ?_
  refine c_seq ?_
  refine c_seq ?_
  refine c_region ?_   -- region 3
  refine g_q (qv_move rfl) rfl ?_
  refine g_i (iv_call (vs := [str (joinL ks)]) Try.call39 ⟨rfl, trivial⟩ (path_any ks M hne hks hn)) rfl ?_
  rintro v1 _ ⟨mp, hrow, rfl⟩
  obtain ⟨p, c, rfl⟩ := hrow.shape
  refine g_q (qv_len_slice rfl Try.runUnderlying27) rfl ?_
  refine g_q (qv_move rfl) rfl ?_
  refine g_nil ?_
  refine e_seq ?_
  refine c_block ?_
  refine c_keep (L' := [(6, .map (some r)), (7, .nilIface), (12, .slice p ks.length c), (13, .int .i64 (ks.length : Int)), (14, .int .i64 ((0 : Nat) : Int))]) ⟨rfl, rfl, rfl, rfl, rfl, trivial⟩ ?_
  refine c_loop (ι := Nat) (fun j L M' => ∃ es' r' n' m', L = [(6, .map (some r')), (7, .nilIface), (12, .slice p ks.length c), (13, .int .i64 (ks.length : Int)), (14, .int .i64 (j : Int))] ∧ j ≤ ks.length ∧ n' ≤ n ∧ RepA n' (.tab es') (.iface 63 (.map (some r'))) m' ∧ (∀ x, x ∈ m' → x ∈ M) ∧ walkT ks (.tab es) = walkT (ks.drop j) (.tab es') ∧ M' = M ++ mp) (fun j => ks.length - j) 0 ⟨es, r, n, mr, rfl, Nat.zero_le _, Nat.le_refl _, hr, hmr, rfl, rfl⟩ ?_
  rintro j _ _ ⟨es', r', n', m', rfl, hj, hn', hr', hm', hw, rfl⟩
  refine c_seq ?_
  refine c_region ?_   -- region 4
  refine g_q (qv_lss rfl rfl) rfl ?_
  refine g_nil ?_
  refine e_seq ?_
  refine c_seq ?_
  refine c_cond rfl (fun hc => ?_) (fun hc => ?_)   -- t15
  · -- true
    refine c_skip ?_
    refine e_seq ?_
    refine c_seq ?_
    refine c_block ?_
    refine c_seq ?_
    refine c_region ?_   -- region 5
    have hjl : j < ks.length := by
      have := of_decide_eq_true hc
      omega
    obtain ⟨k, hk⟩ : ∃ k, ks[j]? = some k := ⟨_, List.getElem?_eq_getElem hjl⟩
    have hdrop : ks.drop j = k :: ks.drop (j + 1) := by
      rw [List.drop_eq_getElem_cons hjl]
      rw [List.getElem?_eq_getElem hjl] at hk
      cases hk
      rfl
    rw [hdrop, walkT] at hw
    obtain ⟨g, c', cs, hv, hg, hcs⟩ := row_at hrow (k := j) (u := str k) (by rw [List.getElem?_map, hk]; rfl)
    cases hv
    refine g_q (qv_index rfl rfl Try.runUnderlying27 Try.sizeOf9 (by omega) (by omega)) rfl ?_
    refine g_q (qv_load (v := str k) rfl Try.isAgg9 (List.mem_append_right _ hg) (by simpa using hcs)) rfl ?_
    refine g_q (qv_assign rfl) rfl ?_
    refine g_nil ?_
    refine e_seq ?_
    refine c_seq ?_
    refine c_region ?_   -- region 6
    refine g_q (qv_move rfl) rfl ?_
    refine g_q (qv_move rfl) rfl ?_
    refine g_i (iv_call (vs := [.map (some r'), str k]) Try.call40 ⟨rfl, rfl, trivial⟩ (look_any n' es' r' m' k _ hr' (fun x hx => List.mem_append_left _ (hm' x hx)))) rfl ?_
    rintro _ _ ⟨rfl, ⟨es2, r2, n2, m2, hl2, hn2, rfl, hr2, hm2⟩ | ⟨hno, x, u, rfl⟩⟩
    · refine g_q (qv_move rfl) rfl ?_
      refine g_q (qv_extract rfl rfl) rfl ?_
      refine g_q (qv_extract rfl rfl) rfl ?_
      refine g_q (qv_assign rfl) rfl ?_
      refine g_q (qv_assign rfl) rfl ?_
      refine g_nil ?_
      refine e_seq ?_
      refine c_seq ?_
      refine c_region ?_   -- region 7
      refine g_q (qv_move rfl) rfl ?_
      refine g_q (qv_nen Try.runUnderlying68 rfl (Or.inl rfl)) rfl ?_
      refine g_nil ?_
      refine e_seq ?_
      refine c_false rfl ?_
      refine c_skip ?_
      refine e_normal_block ?_
      refine e_seq ?_
      refine c_region ?_   -- region 8
      refine g_q (qv_add (c := ((j + 1 : Nat) : Int)) rfl rfl (by rw [wrap_i64 (by omega) (by omega)]; omega)) rfl ?_
      refine g_q (qv_move rfl) rfl ?_
      refine g_nil ?_
      exact e_again (j + 1) (by omega) (L' := [(6, .map (some r2)), (7, .nilIface), (12, .slice (some ⟨g, 0, none⟩) ks.length c), (13, .int .i64 (ks.length : Int)), (14, .int .i64 ((j + 1 : Nat) : Int))]) ⟨rfl, rfl, rfl, rfl, rfl, trivial⟩ ⟨es2, r2, n2, m2, rfl, hjl, by omega, hr2, fun x hx => hm' x (hm2 x hx), by rw [hw, hl2]; rfl, rfl⟩
    · refine g_q (qv_move rfl) rfl ?_
      refine g_q (qv_extract rfl rfl) rfl ?_
      refine g_q (qv_extract rfl rfl) rfl ?_
      refine g_q (qv_assign rfl) rfl ?_
      refine g_q (qv_assign rfl) rfl ?_
      refine g_nil ?_
      refine e_seq ?_
      refine c_seq ?_
      refine c_region ?_   -- region 7
      refine g_q (qv_move rfl) rfl ?_
      refine g_q (qv_nen Try.runUnderlying68 rfl (Or.inr ⟨_, _, rfl⟩)) rfl ?_
      refine g_nil ?_
      refine e_seq ?_
      refine c_true rfl ?_
      refine c_exit ?_
      refine e_exit_other rfl ?_
      refine e_exit_then ?_
      refine e_exit_then ?_
      refine e_exit_block ?_
      refine e_seq ?_
      refine c_seq ?_
      refine c_region ?_   -- region 9
      refine g_q (qv_move rfl) rfl ?_
      refine g_q (qv_move rfl) rfl ?_
      refine g_q (qv_assign rfl) rfl ?_
      refine g_q (qv_assign rfl) rfl ?_
      refine g_nil ?_
      refine e_seq ?_
      refine c_ret ?_
      refine e_to Fits.drop_right (e_ret2 (.inl rfl) Try.results27 rfl rfl ⟨rfl, Or.inr ⟨fun es2 => ?_, _, _, rfl⟩⟩)
      rw [hw]
      exact no_table hno _ _
  · -- false
    refine c_exit ?_
    refine e_exit_then ?_
    refine e_exit_then ?_
    refine e_exit_block ?_
    refine e_seq ?_
    refine c_seq ?_
    refine c_region ?_   -- region 9
    refine g_q (qv_move rfl) rfl ?_
    refine g_q (qv_move rfl) rfl ?_
    refine g_q (qv_assign rfl) rfl ?_
    refine g_q (qv_assign rfl) rfl ?_
    refine g_nil ?_
    refine e_seq ?_
    refine c_ret ?_
    refine ?_
    have hje : ks.length ≤ j := by
      have := of_decide_eq_false hc
      omega
    rw [List.drop_of_length_le hje] at hw
    exact e_to (Fits.drop_right) (e_ret2 (.inl rfl) Try.results27 rfl rfl ⟨rfl, Or.inl ⟨es', r', n', m', hw, hn', rfl, hr', hm'⟩⟩)
end Go.Proofs.Ytnnclcfklbeocaa

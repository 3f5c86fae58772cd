/-
  The walks, part 17: joinPath, Values.pathValue, Values.PathValue: they follow the path as 'walkT' does, to what is no table.
  Conditions: the value lies in memory as RepA says; the path's names hold no dot.
-/
import Derived.Test.YtnnclcfklbeocaaW16
import Derived.Test.YtnnclcfklbeocaaJoin
namespace Go.Proofs.Ytnnclcfklbeocaa
open Go.RowKit

variable {W0 : World}

theorem Own.grown {M : Heap} {w w' : World} (h : Own W0 M w) (hb : Below w.heap.size w w') : Own W0 M w' := by
  refine ⟨fun b o hm => ?_, h.nodup, h.base, h.below.trans (hb.mono h.below.size)⟩
  have h1 := h.has b o hm
  have hlt : b < w.heap.size := (Array.getElem?_eq_some_iff.1 h1).1
  rw [hb.block b hlt]
  exact h1

theorem lib_join : ∀ ks : List Key, Lib.join ks [46] = joinL ks
  | [] => rfl
  | [k] => Lib.join_one k [46]
  | k :: k' :: l => by
    have ih := lib_join (k' :: l)
    rw [Lib.join_cons] at ih ⊢
    simp only [joinL, ← ih]
    simp [Lib.joinTail]

theorem join_any (ks : List Key) (g c : Nat) (cs : Array Value) (M : Heap) (hg : (g, Obj.cells cs 9 (0, 0)) ∈ M) (hcs : ∀ (j : Nat) k, ks[j]? = some k → cs[j]? = some (str k)) (hc : ks.length ≤ c) (hn : ks.length ≤ 3) (hks : ∀ k ∈ ks, k.length ≤ 100) :
    Tri Try.prog W0 71 [.slice (some ⟨g, 0, none⟩) ks.length c, str [46]] M fun v M' => v = str (joinL ks) ∧ M' = M := by
  intro w hw
  have hx : (ks.map fun k => (⟨k.toArray⟩ : ByteArray)).map (·.data.toList) = ks := by
    rw [List.map_map]
    conv => rhs; rw [← List.map_id ks]
    exact List.map_congr_left fun k _ => by simp
  have hj := joinL_len ks hks
  have h := Try.strings_Join g 0 c (ks.map fun k => ⟨k.toArray⟩) ⟨[46].toArray⟩ w (fun j x hjx => by
      rw [List.getElem?_map] at hjx
      cases e : ks[j]? with
      | none => rw [e] at hjx; cases hjx
      | some k =>
        rw [e] at hjx
        cases hjx
        rw [hw.rd.cell hg, Nat.zero_add]
        exact hcs j k e) (Array.getElem?_eq_some_iff.1 (hw.has g _ hg)).1 (by rw [List.length_map]; omega) (by rw [List.length_map]; exact hc)
    (by rw [hx]; show (Lib.join ks [46]).length ≤ _; rw [lib_join]; omega)
  rw [List.length_map, hx] at h
  refine h.mono fun e w' ⟨he, hb⟩ => ⟨_, M, he, ⟨?_, rfl⟩, hw.grown hb⟩
  show Value.string ⟨(Lib.join ks [46]).toArray⟩ = _
  rw [lib_join]
  rfl

theorem joinPath_any (ks : List Key) (g c : Nat) (cs : Array Value) (M : Heap) (hg : (g, Obj.cells cs 9 (0, 0)) ∈ M) (hcs : ∀ (j : Nat) k, ks[j]? = some k → cs[j]? = some (str k)) (hc : ks.length ≤ c) (hn : ks.length ≤ 3) (hks : ∀ k ∈ ks, k.length ≤ 100) :
    Tri Try.prog W0 56 [.slice (some ⟨g, 0, none⟩) ks.length c] M fun v M' => v = str (joinL ks) ∧ M' = M := by
  refine tri_of 5 Try.func56 rfl Try.ntmps56 (Nat.le_of_ble_eq_true rfl) ?_
  refine c_seq ?_
  refine c_region ?_   -- region 0
  refine g_q (qv_assign rfl) rfl ?_
  refine g_nil ?_
  refine e_seq ?_
  refine c_seq ?_
  refine c_region ?_   -- region 1
  refine g_q (qv_move rfl) rfl ?_
  refine g_i (iv_call (vs := [.slice (some ⟨g, 0, none⟩) ks.length c, str [46]]) Try.call71 ⟨rfl, rfl, trivial⟩ (join_any ks g c cs M hg hcs hc hn hks)) rfl ?_
  rintro _ _ ⟨rfl, rfl⟩
  refine g_q (qv_assign rfl) rfl ?_
  refine g_nil ?_
  refine e_seq ?_
  refine c_ret ?_
  refine ?_
  exact e_ret1 (.inl rfl) Try.results56 rfl ⟨rfl, rfl⟩
theorem walkT_snoc : ∀ (ks : List Key) (k : Key) (t : T), walkT (ks ++ [k]) t = (walkT ks t).bind (walkT [k])
  | [], _, _ => rfl
  | k1 :: ks, k, t => by
    cases t with
    | tab es =>
      rw [List.cons_append, walkT, walkT]
      cases es.lookup k1 with
      | none => rfl
      | some t1 => exact walkT_snoc ks k t1
    | _ => rfl
theorem walkT_one (k : Key) (es : List (Key × T)) : walkT [k] (.tab es) = es.lookup k := by
  rw [walkT]
  cases es.lookup k <;> rfl

theorem qv_sliceTo {P : Program} {L : Slots} {M : Heap} {T E : TypeId} {x hi : Operand} {g n c h sz : Nat} {k : IntKind} (hx : opv L x = some (.slice (some ⟨g, 0, none⟩) n c)) (hh : opv L hi = some (.int k (h : Int))) (hu : ∀ w, (underlying T).run P w = .ok (.slice E) w) (hs : ∀ w, (sizeOf E).run P w = .ok sz w) (hc : h ≤ c) :
    QV P W0 L M (.slice T x none (some hi) none) (.slice (some ⟨g, 0, none⟩) h c) := fun a w o ha _ ho => by
  have h1 : (0 : Int) ≤ (h : Int) ∧ (h : Int) ≤ (c : Int) := by omega
  simp [execOp, ho, ha _ _ hx, ha _ _ hh, Instr.sliceAt, hu, Instr.slice, Instr.sliceBounds, Instr.sliceBound, asIntOf, h1, hs, hc, Addr.add]

/-- What pathValue answers. -/
def PvAns (n : Nat) (ks : List Key) (es : List (Key × T)) (v : Value) (M : Heap) : Prop :=
  (∃ t a n' m', walkT ks (.tab es) = some t ∧ (∀ es', t ≠ .tab es') ∧ n' ≤ n ∧ v = .tuple #[a, .nilIface] ∧ RepA n' t a m' ∧ ∀ x, x ∈ m' → x ∈ M) ∨
  ((∀ t, walkT ks (.tab es) = some t → ∃ es', t = .tab es') ∧ ∃ x u, v = .tuple #[x, .iface 118 u])

theorem pathValue1_any (n : Nat) (es : List (Key × T)) (r : Nat) (mr : Heap) (key : Key) (v : Value) (m M : Heap) (hr : RepA n (.tab es) (.iface 63 (.map (some r))) mr) (hmr : ∀ x, x ∈ mr → x ∈ M) (hrow : Row 9 1 v 1 [str key] m) (hm : ∀ x, x ∈ m → x ∈ M) :
    Tri Try.prog W0 46 [.map (some r), v] M fun v M' => M' = M ∧ PvAns n [key] es v M := by
  obtain ⟨r', kv, kts, mk, e, hok, hp, hkids, rfl⟩ := hr.table
  cases e
  obtain ⟨g, c, cs, rfl, hg, hcs⟩ := row_at (k := 0) hrow rfl
  have hg' := hm _ hg
  have hcs' : cs.toList[0 + (0 : Int).toNat * 1]? = some (str key) := hcs
  have hlook := lookup_perm hp (perm_keys_nodup hok hp) key
  have hr' := hmr _ m0
  rcases hkids.lookup key with ⟨h1, h2⟩ | ⟨t1, v1, m1', h1, h2, hr2, hsub⟩
  · rw [h1] at hlook
    refine tri_of 83 Try.func46 rfl Try.ntmps46 (Nat.le_of_ble_eq_true rfl) ?_
    refine c_seq ?_
    refine c_region ?_   -- region 0
    refine g_q (qv_assign rfl) rfl ?_
    refine g_q (qv_assign rfl) rfl ?_
    refine g_nil ?_
    refine e_seq ?_
    refine c_seq ?_
    refine c_seq ?_
    refine c_region ?_   -- region 1
    refine g_q (qv_move rfl) rfl ?_
    refine g_q (qv_len_slice rfl Try.runUnderlying27) rfl ?_
    refine g_q (qv_eqi (b := 1) rfl rfl) rfl ?_
    refine g_nil ?_
    refine e_seq ?_
    refine c_true rfl ?_   -- t15
    refine c_seq ?_
    refine c_seq ?_
    refine c_region ?_   -- region 2
    refine g_q (qv_move rfl) rfl ?_
    refine g_q (qv_move rfl) rfl ?_
    refine g_q (qv_index (n := 0) rfl rfl Try.runUnderlying27 Try.sizeOf9 (by decide) (by decide)) rfl ?_
    refine g_q (qv_load (v := str key) rfl Try.isAgg9 hg' hcs') rfl ?_
    refine g_q (QV.to (v' := .tuple #[.nilIface, .bool false]) (qv_lookup2 (m := kv) (k := key) rfl rfl Try.runUnderlying66 Try.runUnderlying9 Try.zeroValue20 hr') (by rw [h2]; rfl)) rfl ?_
    refine g_q (qv_move rfl) rfl ?_
    refine g_q (qv_extract rfl rfl) rfl ?_
    refine g_q (qv_extract rfl rfl) rfl ?_
    refine g_q (qv_assign rfl) rfl ?_
    refine g_q (qv_assign rfl) rfl ?_
    refine g_nil ?_
    refine e_seq ?_
    refine c_seq ?_
    refine c_region ?_   -- region 3
    refine g_q (qv_move rfl) rfl ?_
    refine g_q (qv_move rfl) rfl ?_
    refine g_off rfl rfl rfl rfl ?_
    refine g_off rfl rfl rfl rfl ?_
    refine g_off rfl rfl rfl rfl ?_
    refine g_off rfl rfl rfl rfl ?_
    refine g_off rfl rfl rfl rfl ?_
    refine g_off rfl rfl rfl rfl ?_
    refine g_off rfl rfl rfl rfl ?_
    refine g_q (qv_pick_f rfl rfl) rfl ?_
    refine g_nil ?_
    refine e_seq ?_
    refine c_false rfl ?_   -- t33
    refine c_skip ?_
    refine e_seq ?_
    refine c_seq ?_
    refine c_drawM (fun _ => true) Try.mixed ?_
    refine d_takeW 0 rfl (by kernel_rfl) (by kernel_rfl) (by kernel_rfl) rfl (fun _ => qv_move rfl) ?_
    refine d_takeW 1 rfl (by kernel_rfl) (by kernel_rfl) (by kernel_rfl) rfl (fun _ => qv_index (n := 0) rfl rfl Try.runUnderlying27 Try.sizeOf9 (by decide) (by decide)) ?_
    refine d_take 2 rfl (by kernel_rfl) (by kernel_rfl) (by kernel_rfl) (by kernel_rfl) rfl (qv_load (v := str key) rfl Try.isAgg9 hg' hcs') (fun _ h => h) ?_
    refine d_takeW 3 rfl (by kernel_rfl) (by kernel_rfl) (by kernel_rfl) rfl (fun _ => qv_build (vs := [(0, str key)]) (cs := #[str key]) lay118 ⟨rfl, rfl, trivial⟩ rfl) ?_
    refine d_takeW 4 rfl (by kernel_rfl) (by kernel_rfl) (by kernel_rfl) rfl (fun _ => qv_iface Try.runUnderlying118 (fun _ h => by cases h) rfl) ?_
    refine d_takeW 5 rfl (by kernel_rfl) (by kernel_rfl) (by kernel_rfl) rfl (fun _ => qv_assign rfl) ?_
    refine d_takeW 6 rfl (by kernel_rfl) (by kernel_rfl) (by kernel_rfl) rfl (fun _ => qv_assign rfl) ?_
    refine d_done (by kernel_rfl) ?_
    refine e_seq ?_
    refine c_ret ?_
    refine e_ret_then (?_)
    exact e_ret2 (.inl rfl) Try.results46 rfl rfl ⟨rfl, Or.inr ⟨fun t ht => (by rw [walkT_one, ← hlook] at ht; cases ht), _, _, rfl⟩⟩
  · rw [h1] at hlook
    refine tri_of 83 Try.func46 rfl Try.ntmps46 (Nat.le_of_ble_eq_true rfl) ?_
    refine c_seq ?_
    refine c_region ?_   -- region 0
    refine g_q (qv_assign rfl) rfl ?_
    refine g_q (qv_assign rfl) rfl ?_
    refine g_nil ?_
    refine e_seq ?_
    refine c_seq ?_
    refine c_seq ?_
    refine c_region ?_   -- region 1
    refine g_q (qv_move rfl) rfl ?_
    refine g_q (qv_len_slice rfl Try.runUnderlying27) rfl ?_
    refine g_q (qv_eqi (b := 1) rfl rfl) rfl ?_
    refine g_nil ?_
    refine e_seq ?_
    refine c_true rfl ?_   -- t15
    refine c_seq ?_
    refine c_seq ?_
    refine c_region ?_   -- region 2
    refine g_q (qv_move rfl) rfl ?_
    refine g_q (qv_move rfl) rfl ?_
    refine g_q (qv_index (n := 0) rfl rfl Try.runUnderlying27 Try.sizeOf9 (by decide) (by decide)) rfl ?_
    refine g_q (qv_load (v := str key) rfl Try.isAgg9 hg' hcs') rfl ?_
    refine g_q (QV.to (v' := .tuple #[v1, .bool true]) (qv_lookup2 (m := kv) (k := key) rfl rfl Try.runUnderlying66 Try.runUnderlying9 Try.zeroValue20 hr') (by rw [h2]; rfl)) rfl ?_
    refine g_q (qv_move rfl) rfl ?_
    refine g_q (qv_extract rfl rfl) rfl ?_
    refine g_q (qv_extract rfl rfl) rfl ?_
    refine g_q (qv_assign rfl) rfl ?_
    refine g_q (qv_assign rfl) rfl ?_
    refine g_nil ?_
    refine e_seq ?_
    refine c_seq ?_
    refine c_region ?_   -- region 3
    refine g_q (qv_move rfl) rfl ?_
    refine g_q (qv_move rfl) rfl ?_
    refine g_on rfl rfl ?_
    refine g_q (qv_move rfl) rfl ?_
    refine g_on rfl rfl ?_
    refine g_q (qv_move rfl) rfl ?_
    refine g_on rfl rfl ?_
    refine g_q (qv_index (n := 0) rfl rfl Try.runUnderlying27 Try.sizeOf9 (by decide) (by decide)) rfl ?_
    refine g_on rfl rfl ?_
    refine g_q (qv_load (v := str key) rfl Try.isAgg9 hg' hcs') rfl ?_
    refine g_on rfl rfl ?_
    refine g_q (QV.to (v' := v1) (qv_lookup1 (m := kv) (k := key) rfl rfl Try.runUnderlying66 Try.runUnderlying9 Try.zeroValue20 hr') (by rw [h2]; rfl)) rfl ?_
    refine g_on rfl rfl ?_
    refine g_i (iv_call (vs := [v1]) Try.call55 ⟨rfl, trivial⟩ (istable_any n t1 v1 m1' _ hr2)) rfl ?_
    rintro _ _ ⟨rfl, rfl⟩
    refine g_on rfl rfl ?_
    refine g_q (qv_not rfl) rfl ?_
    refine g_q (qv_pick_t rfl rfl) rfl ?_
    refine g_nil ?_
    refine e_seq ?_
    refine c_cond rfl (fun hc => ?_) (fun hc => ?_)   -- t33
    · -- true
      refine c_seq ?_
      refine c_region ?_   -- region 4
      refine g_q (qv_move rfl) rfl ?_
      refine g_q (qv_move rfl) rfl ?_
      refine g_q (qv_index (n := 0) rfl rfl Try.runUnderlying27 Try.sizeOf9 (by decide) (by decide)) rfl ?_
      refine g_q (qv_load (v := str key) rfl Try.isAgg9 hg' hcs') rfl ?_
      refine g_q (QV.to (v' := v1) (qv_lookup1 (m := kv) (k := key) rfl rfl Try.runUnderlying66 Try.runUnderlying9 Try.zeroValue20 hr') (by rw [h2]; rfl)) rfl ?_
      refine g_q (qv_assign rfl) rfl ?_
      refine g_q (qv_assign rfl) rfl ?_
      refine g_nil ?_
      refine e_seq ?_
      refine c_ret ?_
      refine e_ret_then (e_ret_then (?_))
      obtain ⟨n2, hn2, hr3⟩ := hr2
      have hnt : ∀ es', t1 ≠ .tab es' := fun es' e => by rw [e] at hc; exact absurd hc (by simp [isTabT])
      exact e_ret2 (.inl rfl) Try.results46 rfl rfl ⟨rfl, Or.inl ⟨t1, v1, n2, m1', (by rw [walkT_one, ← hlook]), hnt, Nat.le_of_lt hn2, rfl, hr3, fun x hx => hmr _ (.tail _ (hsub x hx))⟩⟩
    · -- false
      refine c_skip ?_
      refine e_seq ?_
      refine c_seq ?_
      refine c_drawM (fun _ => true) Try.mixed ?_
      refine d_takeW 0 rfl (by kernel_rfl) (by kernel_rfl) (by kernel_rfl) rfl (fun _ => qv_move rfl) ?_
      refine d_takeW 1 rfl (by kernel_rfl) (by kernel_rfl) (by kernel_rfl) rfl (fun _ => qv_index (n := 0) rfl rfl Try.runUnderlying27 Try.sizeOf9 (by decide) (by decide)) ?_
      refine d_take 2 rfl (by kernel_rfl) (by kernel_rfl) (by kernel_rfl) (by kernel_rfl) rfl (qv_load (v := str key) rfl Try.isAgg9 hg' hcs') (fun _ h => h) ?_
      refine d_takeW 3 rfl (by kernel_rfl) (by kernel_rfl) (by kernel_rfl) rfl (fun _ => qv_build (vs := [(0, str key)]) (cs := #[str key]) lay118 ⟨rfl, rfl, trivial⟩ rfl) ?_
      refine d_takeW 4 rfl (by kernel_rfl) (by kernel_rfl) (by kernel_rfl) rfl (fun _ => qv_iface Try.runUnderlying118 (fun _ h => by cases h) rfl) ?_
      refine d_takeW 5 rfl (by kernel_rfl) (by kernel_rfl) (by kernel_rfl) rfl (fun _ => qv_assign rfl) ?_
      refine d_takeW 6 rfl (by kernel_rfl) (by kernel_rfl) (by kernel_rfl) rfl (fun _ => qv_assign rfl) ?_
      refine d_done (by kernel_rfl) ?_
      refine e_seq ?_
      refine c_ret ?_
      refine e_ret_then (?_)
      have ht1 : isTabT t1 = true := by simpa using hc
      obtain ⟨es', he⟩ := isTabT_iff.1 ht1
      exact e_ret2 (.inl rfl) Try.results46 rfl rfl ⟨rfl, Or.inr ⟨fun t ht => (by rw [walkT_one, ← hlook] at ht; cases ht; exact ⟨es', he⟩), _, _, rfl⟩⟩
theorem pathValue2_any (n : Nat) (es : List (Key × T)) (r : Nat) (mr : Heap) (ks : List Key) (key : Key) (v : Value) (m M : Heap) (hr : RepA n (.tab es) (.iface 63 (.map (some r))) mr) (hmr : ∀ x, x ∈ mr → x ∈ M) (hrow : Row 9 1 v (ks.length + 1) ((ks ++ [key]).map str) m) (hm : ∀ x, x ∈ m → x ∈ M) (hne : ks ≠ []) (hks : ∀ k ∈ ks, Nm k) (hn : ks.length ≤ 2) :
    Tri Try.prog W0 46 [.map (some r), v] M fun v M' => M' = M ∧ PvAns n (ks ++ [key]) es v M := by
  obtain ⟨g, c, cs, rfl, hg, hcs⟩ := row_at (k := ks.length) (u := str key) hrow (by simp)
  have hg' := hm _ hg
  have hkl : 1 ≤ ks.length := by
    cases ks with
    | nil => exact absurd rfl hne
    | cons _ _ => simp
  have hcap : ks.length ≤ c ∧ ∀ (j : Nat) k, ks[j]? = some k → cs[j]? = some (str k) := by
    obtain ⟨g', cap, cs', hv, hmm, hcells⟩ := hrow.block (by omega)
    cases hv
    rw [hmm] at hg
    cases List.mem_singleton.1 hg
    refine ⟨?_, fun j k hk => hcells j _ (by rw [List.getElem?_map, List.getElem?_append_left (List.getElem?_eq_some_iff.1 hk).1, hk]; rfl)⟩
    rcases hrow.2 with ⟨h, _⟩ | ⟨_, _, _, h, _, h3, _⟩
    · cases h
    · cases h; omega
  have hw := walkT_snoc ks key (.tab es)
  have h1f : ¬ (((ks.length + 1 : Nat) : Int) = 1) := by omega
  refine tri_of 83 Try.func46 rfl Try.ntmps46 (Nat.le_of_ble_eq_true rfl) ?_
  refine c_seq ?_
  refine c_region ?_   -- region 0
  refine g_q (qv_assign rfl) rfl ?_
  refine g_q (qv_assign rfl) rfl ?_
  refine g_nil ?_
  refine e_seq ?_
  refine c_seq ?_
  refine c_seq ?_
  refine c_region ?_   -- region 1
  refine g_q (qv_move rfl) rfl ?_
  refine g_q (qv_len_slice rfl Try.runUnderlying27) rfl ?_
  refine g_q (QV.to (qv_eqi (b := 1) rfl rfl) (congrArg Value.bool (decide_eq_false h1f))) rfl ?_
  refine g_nil ?_
  refine e_seq ?_
  refine c_false rfl ?_   -- t15
  refine c_skip ?_
  refine e_seq ?_
  refine c_seq ?_
  refine c_drawM (fun _ => true) Try.mixed ?_
  refine d_takeW 0 rfl (by kernel_rfl) (by kernel_rfl) (by kernel_rfl) rfl (fun _ => qv_move rfl) ?_
  refine d_takeW 1 rfl (by kernel_rfl) (by kernel_rfl) (by kernel_rfl) rfl (fun _ => qv_move rfl) ?_
  refine d_takeW 2 rfl (by kernel_rfl) (by kernel_rfl) (by kernel_rfl) rfl (fun _ => qv_len_slice rfl Try.runUnderlying27) ?_
  refine d_takeW 3 rfl (by kernel_rfl) (by kernel_rfl) (by kernel_rfl) rfl (fun _ => qv_sub (c := (ks.length : Int)) rfl rfl (by rw [wrap_i64 (by omega) (by omega)]; omega)) ?_
  refine d_takeW 4 rfl (by kernel_rfl) (by kernel_rfl) (by kernel_rfl) rfl (fun _ => qv_index (n := (ks.length : Int)) rfl rfl Try.runUnderlying27 Try.sizeOf9 (by omega) (by omega)) ?_
  refine d_take 5 rfl (by kernel_rfl) (by kernel_rfl) (by kernel_rfl) (by kernel_rfl) rfl (qv_load (v := str key) rfl Try.isAgg9 hg' (by simpa using hcs)) (fun _ h => h) ?_
  refine d_takeW 6 rfl (by kernel_rfl) (by kernel_rfl) (by kernel_rfl) rfl (fun _ => qv_move rfl) ?_
  refine d_takeW 7 rfl (by kernel_rfl) (by kernel_rfl) (by kernel_rfl) rfl (fun _ => qv_move rfl) ?_
  refine d_takeW 8 rfl (by kernel_rfl) (by kernel_rfl) (by kernel_rfl) rfl (fun _ => qv_len_slice rfl Try.runUnderlying27) ?_
  refine d_takeW 9 rfl (by kernel_rfl) (by kernel_rfl) (by kernel_rfl) rfl (fun _ => qv_sub (c := (ks.length : Int)) rfl rfl (by rw [wrap_i64 (by omega) (by omega)]; omega)) ?_
  refine d_takeW 10 rfl (by kernel_rfl) (by kernel_rfl) (by kernel_rfl) rfl (fun _ => qv_sliceTo (h := ks.length) rfl rfl Try.runUnderlying27 Try.sizeOf9 hcap.1) ?_
  refine d_takeW 11 rfl (by kernel_rfl) (by kernel_rfl) (by kernel_rfl) rfl (fun _ => qv_assign rfl) ?_
  refine d_takeW 12 rfl (by kernel_rfl) (by kernel_rfl) (by kernel_rfl) rfl (fun _ => qv_assign rfl) ?_
  refine d_done (by kernel_rfl) ?_
  refine e_seq ?_
  refine c_seq ?_
  refine c_region ?_   -- region 7
  refine g_q (qv_move rfl) rfl ?_
  refine g_q (qv_move rfl) rfl ?_
  refine g_i (iv_call (vs := [.slice (some ⟨g, 0, none⟩) ks.length c]) Try.call56 ⟨rfl, trivial⟩ (joinPath_any ks g c cs M hg' hcap.2 hcap.1 (by omega) (fun k hk => by have := (hks k hk).ok.2.2; omega))) rfl ?_
  rintro _ _ ⟨rfl, rfl⟩
  refine g_i (iv_call (vs := [.map (some r), str (joinL ks)]) Try.call27 ⟨rfl, rfl, trivial⟩ (tables_any n es r mr ks _ hr hmr hne hks (by omega))) rfl ?_
  rintro _ _ ⟨rfl, ⟨es', r', n', m', hw1, hn', rfl, hr', hm'⟩ | ⟨hno, x, u, rfl⟩⟩
  · obtain ⟨_, kv, kts, mk, e, hok, hp, hkids, rfl⟩ := hr'.table
    cases e
    have hlook := lookup_perm hp (perm_keys_nodup hok hp) key
    have hr2' := hm' _ m0
    have hw2 : walkT (ks ++ [key]) (.tab es) = es'.lookup key := by rw [hw, hw1]; exact walkT_one key es'
    refine g_q (qv_move rfl) rfl ?_
    refine g_q (qv_extract rfl rfl) rfl ?_
    refine g_q (qv_extract rfl rfl) rfl ?_
    refine g_q (qv_assign rfl) rfl ?_
    refine g_q (qv_assign rfl) rfl ?_
    refine g_nil ?_
    refine e_seq ?_
    refine c_seq ?_
    refine c_seq ?_
    refine c_region ?_   -- region 8
    refine g_q (qv_move rfl) rfl ?_
    refine g_q (qv_nen Try.runUnderlying68 rfl (Or.inl rfl)) rfl ?_
    refine g_nil ?_
    refine e_seq ?_
    refine c_false rfl ?_
    refine c_skip ?_
    refine e_seq ?_
    refine c_seq ?_
    refine c_seq ?_
    refine c_region ?_   -- region 10
    refine g_q (qv_move rfl) rfl ?_
    refine g_q (qv_move rfl) rfl ?_
    rcases hkids.lookup key with ⟨h1, h2⟩ | ⟨t1, v1, m1', h1, h2, hr2, hsub⟩
    · rw [h1] at hlook
      refine g_q (QV.to (v' := .tuple #[.nilIface, .bool false]) (qv_lookup2 (m := kv) (k := key) rfl rfl Try.runUnderlying66 Try.runUnderlying9 Try.zeroValue20 hr2') (by rw [h2]; rfl)) rfl ?_
      refine g_q (qv_move rfl) rfl ?_
      refine g_q (qv_extract rfl rfl) rfl ?_
      refine g_q (qv_extract rfl rfl) rfl ?_
      refine g_q (qv_assign rfl) rfl ?_
      refine g_q (qv_assign rfl) rfl ?_
      refine g_nil ?_
      refine e_seq ?_
      refine c_seq ?_
      refine c_region ?_   -- region 11
      refine g_q (qv_move rfl) rfl ?_
      refine g_q (qv_move rfl) rfl ?_
      refine g_off rfl rfl rfl rfl ?_
      refine g_off rfl rfl rfl rfl ?_
      refine g_off rfl rfl rfl rfl ?_
      refine g_q (qv_pick_f rfl rfl) rfl ?_
      refine g_nil ?_
      refine e_seq ?_
      refine c_false rfl ?_
      refine c_skip ?_
      refine e_seq ?_
      refine c_seq ?_
      refine c_region ?_   -- region 13
      refine g_q (qv_move rfl) rfl ?_
      refine g_q (qv_build (vs := [(0, str key)]) (cs := #[str key]) lay118 ⟨rfl, rfl, trivial⟩ rfl) rfl ?_
      refine g_q (qv_iface Try.runUnderlying118 (fun _ h => by cases h) rfl) rfl ?_
      refine g_q (qv_assign rfl) rfl ?_
      refine g_q (qv_assign rfl) rfl ?_
      refine g_nil ?_
      refine e_seq ?_
      refine c_ret ?_
      exact e_ret2 (.inl rfl) Try.results46 rfl rfl ⟨rfl, Or.inr ⟨fun t ht => (by rw [hw2, ← hlook] at ht; cases ht), _, _, rfl⟩⟩
    · rw [h1] at hlook
      refine g_q (QV.to (v' := .tuple #[v1, .bool true]) (qv_lookup2 (m := kv) (k := key) rfl rfl Try.runUnderlying66 Try.runUnderlying9 Try.zeroValue20 hr2') (by rw [h2]; rfl)) rfl ?_
      refine g_q (qv_move rfl) rfl ?_
      refine g_q (qv_extract rfl rfl) rfl ?_
      refine g_q (qv_extract rfl rfl) rfl ?_
      refine g_q (qv_assign rfl) rfl ?_
      refine g_q (qv_assign rfl) rfl ?_
      refine g_nil ?_
      refine e_seq ?_
      refine c_seq ?_
      refine c_region ?_   -- region 11
      refine g_q (qv_move rfl) rfl ?_
      refine g_q (qv_move rfl) rfl ?_
      refine g_on rfl rfl ?_
      refine g_q (qv_move rfl) rfl ?_
      refine g_on rfl rfl ?_
      refine g_i (iv_call (vs := [v1]) Try.call55 ⟨rfl, trivial⟩ (istable_any n' t1 v1 m1' _ hr2)) rfl ?_
      rintro _ _ ⟨rfl, rfl⟩
      refine g_on rfl rfl ?_
      refine g_q (qv_not rfl) rfl ?_
      refine g_q (qv_pick_t rfl rfl) rfl ?_
      refine g_nil ?_
      refine e_seq ?_
      refine c_cond rfl (fun hc => ?_) (fun hc => ?_)
      · refine c_seq ?_
        refine c_region ?_   -- region 12
        refine g_q (qv_move rfl) rfl ?_
        refine g_q (qv_assign rfl) rfl ?_
        refine g_q (qv_assign rfl) rfl ?_
        refine g_nil ?_
        refine e_seq ?_
        refine c_ret ?_
        refine e_ret_then (?_)
        obtain ⟨n2, hn2, hr3⟩ := hr2
        have hnt : ∀ es', t1 ≠ .tab es' := fun es' e => by rw [e] at hc; exact absurd hc (by simp [isTabT])
        exact e_ret2 (.inl rfl) Try.results46 rfl rfl ⟨rfl, Or.inl ⟨t1, v1, n2, m1', (by rw [hw2, ← hlook]), hnt, by omega, rfl, hr3, fun x hx => hm' _ (.tail _ (hsub x hx))⟩⟩
      · refine c_skip ?_
        refine e_seq ?_
        refine c_seq ?_
        refine c_region ?_   -- region 13
        refine g_q (qv_move rfl) rfl ?_
        refine g_q (qv_build (vs := [(0, str key)]) (cs := #[str key]) lay118 ⟨rfl, rfl, trivial⟩ rfl) rfl ?_
        refine g_q (qv_iface Try.runUnderlying118 (fun _ h => by cases h) rfl) rfl ?_
        refine g_q (qv_assign rfl) rfl ?_
        refine g_q (qv_assign rfl) rfl ?_
        refine g_nil ?_
        refine e_seq ?_
        refine c_ret ?_
        have ht1 : isTabT t1 = true := by simpa using hc
        obtain ⟨es3, he⟩ := isTabT_iff.1 ht1
        exact e_ret2 (.inl rfl) Try.results46 rfl rfl ⟨rfl, Or.inr ⟨fun t ht => (by rw [hw2, ← hlook] at ht; cases ht; exact ⟨es3, he⟩), _, _, rfl⟩⟩
  · refine g_q (qv_move rfl) rfl ?_
    refine g_q (qv_extract rfl rfl) rfl ?_
    refine g_q (qv_extract rfl rfl) rfl ?_
    refine g_q (qv_assign rfl) rfl ?_
    refine g_q (qv_assign rfl) rfl ?_
    refine g_nil ?_
    refine e_seq ?_
    refine c_seq ?_
    refine c_seq ?_
    refine c_region ?_   -- region 8
    refine g_q (qv_move rfl) rfl ?_
    refine g_q (qv_nen Try.runUnderlying68 rfl (Or.inr ⟨_, _, rfl⟩)) rfl ?_
    refine g_nil ?_
    refine e_seq ?_
    refine c_true rfl ?_
    refine c_seq ?_
    refine c_region ?_   -- region 9
    refine g_q (qv_move rfl) rfl ?_
    refine g_q (qv_build (vs := [(0, str key)]) (cs := #[str key]) lay118 ⟨rfl, rfl, trivial⟩ rfl) rfl ?_
    refine g_q (qv_iface Try.runUnderlying118 (fun _ h => by cases h) rfl) rfl ?_
    refine g_q (qv_assign rfl) rfl ?_
    refine g_q (qv_assign rfl) rfl ?_
    refine g_nil ?_
    refine e_seq ?_
    refine c_ret ?_
    refine e_ret_then (?_)
    refine e_ret2 (.inl rfl) Try.results46 rfl rfl ⟨rfl, Or.inr ⟨fun t ht => ?_, _, _, rfl⟩⟩
    rw [hw] at ht
    cases e : walkT ks (.tab es) with
    | none => rw [e] at ht; cases ht
    | some t2 =>
      rw [e] at ht
      cases t2 with
      | tab es2 => exact absurd e (hno es2)
      | _ => cases ht
end Go.Proofs.Ytnnclcfklbeocaa

/-
  The walks, part 23: coalesceGlobals.
  Conditions: both destinations lie as RepX says, as high as 'Hg' says.
-/
import Derived.Test.YtnnclcfklbeocaaR7
namespace Go.Proofs.Ytnnclcfklbeocaa
open Go.RowKit

variable {W0 : World}

/-- Of the globals, the keys in 'left' are still to come. -/
def GDone (d0 s0 : Key → Option T) (left : List Key) (gts : List (Key × T)) : Prop := ∀ k, (k ∈ left ∧ gts.lookup k = d0 k) ∨ (k ∉ left ∧ GVal (d0 k) (s0 k) (gts.lookup k))
theorem GDone.start {d0 s0 : Key → Option T} {left : List Key} {gts : List (Key × T)} (hd : ∀ k, gts.lookup k = d0 k) (hs : ∀ k, k ∉ left → s0 k = none) : GDone d0 s0 left gts := fun k => by
  by_cases h : k ∈ left
  · exact Or.inl ⟨h, hd k⟩
  · refine Or.inr ⟨h, ?_⟩
    rw [hs k h, hd k]
    exact .over _
theorem GDone.here {d0 s0 : Key → Option T} {left : List Key} {gts : List (Key × T)} (h : GDone d0 s0 left gts) {k : Key} (hk : k ∈ left) : gts.lookup k = d0 k := by
  rcases h k with ⟨_, h1⟩ | ⟨h1, _⟩
  · exact h1
  · exact absurd hk h1
theorem GDone.step {d0 s0 : Key → Option T} {left left' : List Key} {gts gts' : List (Key × T)} {k : Key} {c : Option T} (h : GDone d0 s0 left gts) (hp : left.Perm (k :: left')) (hn : left.Nodup) (hl : ∀ k', gts'.lookup k' = if k' = k then c else gts.lookup k') (hc : GVal (d0 k) (s0 k) c) : GDone d0 s0 left' gts' := fun k' => by
  have hn' := hp.nodup_iff.1 hn
  rw [List.nodup_cons] at hn'
  by_cases e : k' = k
  · subst e
    refine Or.inr ⟨hn'.1, ?_⟩
    rw [hl, if_pos rfl]
    exact hc
  · rw [hl, if_neg e]
    rcases h k' with ⟨h1, h2⟩ | ⟨h1, h2⟩
    · exact Or.inl ⟨(List.mem_cons.1 (hp.mem_iff.1 h1)).elim (fun e' => absurd e' e) id, h2⟩
    · exact Or.inr ⟨fun h3 => h1 (hp.mem_iff.2 (List.mem_cons_of_mem _ h3)), h2⟩
theorem GDone.done {d0 s0 : Key → Option T} {gts : List (Key × T)} (h : GDone d0 s0 [] gts) (k : Key) : GVal (d0 k) (s0 k) (gts.lookup k) := by
  rcases h k with ⟨h1, _⟩ | ⟨_, h1⟩
  · cases h1
  · exact h1

/-- What stands under 'global' in the destination above. -/
def SgAt (S : Heap) (n : Nat) (kvD : KV) (De : List (Key × T)) (mg : Heap) : Prop :=
  (kvD.list.lookup kGlobal = none ∧ De.lookup kGlobal = none ∧ mg = []) ∨ ∃ tg vg, kvD.list.lookup kGlobal = some vg ∧ De.lookup kGlobal = some tg ∧ Hg 2 tg ∧ RepX S n .G tg vg mg

theorem hnmg : Nm kGlobal := by simp [Nm, names]

set_option maxHeartbeats 8000000 in
theorem globals_any (S : Heap) (n : Nat) (de De : List (Key × T)) (rd rD : Nat) (kvD : KV) (md mg F : Heap) (pre : Key) (mgb : Bool) (hd : RepX S n .V (.tab de) (.iface 63 (.map (some rd))) md) (hgd : Hg 2 (.tab de)) (hs : SgAt S n kvD De mg) (hD : (rD, kvD.obj) ∈ F) (hpre : pre.length ≤ 500) :
    Tri Try.prog W0 76 [.func (.func 44) #[] #[], .map (some rd), .map (some rD), str pre, .bool mgb] (md ++ (mg ++ F)) fun _ M' => ∃ n' re md' mg' N, RepX (N ++ S) n' .V (.tab re) (.iface 63 (.map (some rd))) md' ∧ KeysOk re ∧ GlobR De de re ∧ SgAt (N ++ S) n' kvD De mg' ∧ M' = md' ++ (mg' ++ (N ++ F)) := by
  obtain ⟨_, kvd, dts, mdk, e, hokd, hpd, hkd, rfl⟩ := hd.succ.table (fun e => by cases e)
  cases e
  have hdl : ∀ k, de.lookup k = dts.lookup k := fun k => (lookup_perm hpd (perm_keys_nodup hokd hpd) k).symm
  have hnmd : ∀ p, p ∈ dts → Nm p.1 := fun p hp => hokd.2 p (hpd.mem_iff.1 hp)
  obtain ⟨mv, mr, hfit, hcase, hback⟩ := hkd.hole kGlobal kvd.nodup
  refine Tri.to (M' := (rd, kvd.obj) :: (mdk ++ (mg ++ F))) ?_ (by rw [List.cons_append]; exact Fits.refl _)
  refine tri_of 134 Try.func76 rfl Try.ntmps76 (Nat.le_of_ble_eq_true rfl) ?_
  refine c_seq ?_
  refine c_region ?_   -- region 0
  refine g_q (qv_assign rfl) rfl ?_
  refine g_q (qv_assign rfl) rfl ?_
  refine g_nil ?_
  refine e_seq ?_
  refine c_cut (fun L' M' => ∃ rg kvg dg gts mgk x, L' = [(0, .func (.func 44) #[] #[]), (1, .map (some rd)), (2, .map (some rD)), (3, str pre), (10, .map (some rg))] ∧ glob de = .tab dg ∧ KeysOk dg ∧ gts.Perm dg ∧ KidsK (fun _ => RepX S n .X) gts (KV.list kvg) mgk ∧ Hg 1 (.tab dg) ∧ (∀ f : Nat × Obj → Nat, (((rg, kvg.obj) :: (mgk ++ mr)).map f).sum ≤ ((x ++ mdk).map f).sum) ∧ M' = x ++ ((rd, kvd.obj) :: (mdk ++ (mg ++ F)))) ?_ ?_
  · rcases hcase with ⟨htn, hvn, rfl⟩ | ⟨t, v, hts, hvs, hrv⟩
    · refine c_seq ?_
      refine c_region ?_   -- region 1
      refine g_q (qv_move rfl) rfl ?_
      refine g_q (QV.to (v' := .tuple #[.nilIface, .bool false]) (qv_lookup2 (m := kvd) (k := kGlobal) rfl rfl Try.runUnderlying63 Try.runUnderlying9 Try.zeroValue20 m0) (by rw [hvn]; rfl)) rfl ?_
      refine g_q (qv_move rfl) rfl ?_
      refine g_q (qv_extract rfl rfl) rfl ?_
      refine g_q (qv_extract rfl rfl) rfl ?_
      refine g_q (qv_assign rfl) rfl ?_
      refine g_q (qv_assign rfl) rfl ?_
      refine g_nil ?_
      refine e_seq ?_
      refine c_seq ?_
      refine c_region ?_   -- region 2
      refine g_q (qv_move rfl) rfl ?_
      refine g_q (qv_not rfl) rfl ?_
      refine g_nil ?_
      refine e_seq ?_
      refine c_true rfl ?_
      refine c_region ?_   -- region 3
      refine g_i iv_makeKV rfl ?_
      rintro _ _ ⟨rg, rfl, rfl⟩
      refine g_q (qv_assign rfl) rfl ?_
      refine g_nil ?_
      exact e_mid (L' := [(0, .func (.func 44) #[] #[]), (1, .map (some rd)), (2, .map (some rD)), (3, str pre), (10, .map (some rg))]) ⟨rfl, rfl, rfl, rfl, rfl, trivial⟩ ⟨rg, KV.empty, [], [], [], [(rg, KV.empty.obj)], rfl, by unfold glob; rw [hdl, htn]; rfl, ⟨List.Pairwise.nil, fun _ h => (by cases h)⟩, List.Perm.refl _, rfl, fun p hp => (by cases hp), fun f => by have := hfit f; simp only [List.nil_append, List.map_cons, List.sum_cons, List.cons_append] at this ⊢; omega, rfl⟩
    · by_cases ht : ∃ dg, t = .tab dg
      · obtain ⟨dg, rfl⟩ := ht
        obtain ⟨rg, kvg, gts, mgk, rfl, h1, h2, h3, rfl⟩ := (show RepX S n .G (.tab dg) v mv from hrv).succ.table (fun e => by cases e)
        refine c_seq ?_
        refine c_region ?_   -- region 1
        refine g_q (qv_move rfl) rfl ?_
        refine g_q (QV.to (v' := .tuple #[.iface 63 (.map (some rg)), .bool true]) (qv_lookup2 (m := kvd) (k := kGlobal) rfl rfl Try.runUnderlying63 Try.runUnderlying9 Try.zeroValue20 m0) (by rw [hvs]; rfl)) rfl ?_
        refine g_q (qv_move rfl) rfl ?_
        refine g_q (qv_extract rfl rfl) rfl ?_
        refine g_q (qv_extract rfl rfl) rfl ?_
        refine g_q (qv_assign rfl) rfl ?_
        refine g_q (qv_assign rfl) rfl ?_
        refine g_nil ?_
        refine e_seq ?_
        refine c_seq ?_
        refine c_region ?_   -- region 2
        refine g_q (qv_move rfl) rfl ?_
        refine g_q (qv_not rfl) rfl ?_
        refine g_nil ?_
        refine e_seq ?_
        refine c_false rfl ?_
        refine c_seq ?_
        refine c_region ?_   -- region 4
        refine g_q (qv_move rfl) rfl ?_
        refine g_q (qv_is rfl Try.runUnderlying63 (fun _ h => by cases h)) rfl ?_
        refine g_q (qv_move rfl) rfl ?_
        refine g_q (qv_extract rfl rfl) rfl ?_
        refine g_q (qv_extract rfl rfl) rfl ?_
        refine g_q (qv_assign rfl) rfl ?_
        refine g_q (qv_assign rfl) rfl ?_
        refine g_nil ?_
        refine e_seq ?_
        refine c_seq ?_
        refine c_region ?_   -- region 5
        refine g_q (qv_move rfl) rfl ?_
        refine g_q (qv_not rfl) rfl ?_
        refine g_nil ?_
        refine e_seq ?_
        refine c_false rfl ?_
        refine c_skip ?_
        exact e_mid (L' := [(0, .func (.func 44) #[] #[]), (1, .map (some rd)), (2, .map (some rD)), (3, str pre), (10, .map (some rg))]) ⟨rfl, rfl, rfl, rfl, rfl, trivial⟩ ⟨rg, kvg, dg, gts, mgk, [], rfl, by unfold glob; rw [hdl, hts]; rfl, h1, h2, h3, hgd.look (by rw [hdl]; exact hts), fun f => by have := hfit f; simpa using this, rfl⟩
      · have hnt : ∀ es, t ≠ .tab es := fun es e => ht ⟨es, e⟩
        have hv : v = .nilIface ∨ ∃ T' u, v = .iface T' u ∧ Nat.beq T' 63 = false ∧ Nat.beq T' 66 = false := by
          rcases (show RepX S n .G t v mv from hrv).look with ⟨es, _, e, _⟩ | ⟨_, h⟩
          · exact absurd e (hnt es)
          · exact h
        refine c_seq ?_
        refine c_region ?_   -- region 1
        refine g_q (qv_move rfl) rfl ?_
        refine g_q (QV.to (v' := .tuple #[v, .bool true]) (qv_lookup2 (m := kvd) (k := kGlobal) rfl rfl Try.runUnderlying63 Try.runUnderlying9 Try.zeroValue20 m0) (by rw [hvs]; rfl)) rfl ?_
        refine g_q (qv_move rfl) rfl ?_
        refine g_q (qv_extract rfl rfl) rfl ?_
        refine g_q (qv_extract rfl rfl) rfl ?_
        refine g_q (qv_assign rfl) rfl ?_
        refine g_q (qv_assign rfl) rfl ?_
        refine g_nil ?_
        refine e_seq ?_
        refine c_seq ?_
        refine c_region ?_   -- region 2
        refine g_q (qv_move rfl) rfl ?_
        refine g_q (qv_not rfl) rfl ?_
        refine g_nil ?_
        refine e_seq ?_
        refine c_false rfl ?_
        refine c_seq ?_
        refine c_region ?_   -- region 4
        refine g_q (qv_move rfl) rfl ?_
        refine g_q (qv_isntX (hv.imp id fun ⟨T', u, h1, h2, _⟩ => ⟨T', u, h1, h2⟩) rfl Try.runUnderlying63 (fun _ h => by cases h) Try.zeroValue63) rfl ?_
        refine g_q (qv_move rfl) rfl ?_
        refine g_q (qv_extract rfl rfl) rfl ?_
        refine g_q (qv_extract rfl rfl) rfl ?_
        refine g_q (qv_assign rfl) rfl ?_
        refine g_q (qv_assign rfl) rfl ?_
        refine g_nil ?_
        refine e_seq ?_
        refine c_seq ?_
        refine c_region ?_   -- region 5
        refine g_q (qv_move rfl) rfl ?_
        refine g_q (qv_not rfl) rfl ?_
        refine g_nil ?_
        refine e_seq ?_
        refine c_true rfl ?_
        refine c_seq ?_
        refine c_region ?_   -- region 6
        refine g_q (qv_move rfl) rfl ?_
        refine g_q (qv_iface Try.runUnderlying9 (fun _ h => by cases h) rfl) rfl ?_
        refine g_i (iv_buildSlice (vs := [(0, .iface 9 (str kGlobal))]) (cs := #[.iface 9 (str kGlobal)]) Try.runUnderlying89 Try.sizeOf20 Try.zeroValue20 ⟨rfl, rfl, trivial⟩ rfl (by kernel_rfl) rfl) rfl ?_
        rintro _ _ ⟨bs, rfl, rfl⟩
        refine g_i (iv_callc (vs := [_, .slice (some ⟨bs, 0, none⟩) 1 1]) (caps := []) Try.call44 rfl ⟨rfl, rfl, trivial⟩ (quiet_any _ _ _)) rfl ?_
        rintro _ _ rfl
        refine g_nil ?_
        refine e_seq ?_
        refine c_ret ?_
        refine e_ret_then ?_
        refine e_to (M' := (rd, kvd.obj) :: (mdk ++ (mg ++ F))) (fun f => by simp) (e_ret0 (.inl rfl) Try.results76 ?_)
        exact ⟨n, de, (rd, kvd.obj) :: mdk, mg, [], hd, hokd, Or.inr ⟨Or.inl fun dg e => by unfold glob at e; rw [hdl, hts] at e; exact hnt dg e, fun _ => rfl⟩, hs, rfl⟩
  rintro _ _ ⟨rg, kvg, dg, gts, mgk, x, rfl, hgl, hokg, hpg, hkg, hg1, hx, rfl⟩
  refine c_cut (fun L' M' => ∃ rs kvs sg sts mks N mg', L' = [(0, .func (.func 44) #[] #[]), (1, .map (some rd)), (2, .map (some rD)), (3, str pre), (10, .map (some rg)), (11, .map (some rs))] ∧ glob De = .tab sg ∧ KeysOk sg ∧ sts.Perm sg ∧ KidsK (fun _ => FX (N ++ S)) sts (KV.list kvs) mks ∧ SgAt (N ++ S) (n + 4) kvD De mg' ∧ Fits ((rs, kvs.obj) :: mks) mg' ∧ M' = (rd, kvd.obj) :: (rg, kvg.obj) :: (rs, kvs.obj) :: (mks ++ (mgk ++ (mr ++ (N ++ F))))) ?_ ?_
  · rcases hs with ⟨hvn, htn, rfl⟩ | ⟨t, v, hvs, hts, hg2, hrv⟩
    · refine c_seq ?_
      refine c_region ?_   -- region 7
      refine g_q (qv_move rfl) rfl ?_
      refine g_q (QV.to (v' := .tuple #[.nilIface, .bool false]) (qv_lookup2 (m := kvD) (k := kGlobal) rfl rfl Try.runUnderlying63 Try.runUnderlying9 Try.zeroValue20 (List.mem_append_right _ (.tail _ (List.mem_append_right _ (List.mem_append_right _ hD))))) (by rw [hvn]; rfl)) rfl ?_
      refine g_q (qv_move rfl) rfl ?_
      refine g_q (qv_extract rfl rfl) rfl ?_
      refine g_q (qv_extract rfl rfl) rfl ?_
      refine g_q (qv_assign rfl) rfl ?_
      refine g_q (qv_assign rfl) rfl ?_
      refine g_nil ?_
      refine e_seq ?_
      refine c_seq ?_
      refine c_region ?_   -- region 8
      refine g_q (qv_move rfl) rfl ?_
      refine g_q (qv_not rfl) rfl ?_
      refine g_nil ?_
      refine e_seq ?_
      refine c_true rfl ?_
      refine c_region ?_   -- region 9
      refine g_i iv_makeKV rfl ?_
      rintro _ _ ⟨rs, rfl, rfl⟩
      refine g_q (qv_assign rfl) rfl ?_
      refine g_nil ?_
      refine e_to (M' := (rd, kvd.obj) :: (rg, kvg.obj) :: (rs, KV.empty.obj) :: ([] ++ (mgk ++ (mr ++ ([] ++ F))))) (fun f => by have h1 := hx f; simp only [List.nil_append, List.map_cons, List.sum_cons, List.map_append, List.sum_append] at h1 ⊢; omega) ?_
      exact e_mid (L' := [(0, .func (.func 44) #[] #[]), (1, .map (some rd)), (2, .map (some rD)), (3, str pre), (10, .map (some rg)), (11, .map (some rs))]) ⟨rfl, rfl, rfl, rfl, rfl, rfl, trivial⟩ ⟨rs, KV.empty, [], [], [], [], [], rfl, by unfold glob; rw [htn]; rfl, ⟨List.Pairwise.nil, fun _ h => (by cases h)⟩, List.Perm.refl _, rfl, Or.inl ⟨hvn, htn, rfl⟩, fun f => by simp, rfl⟩
    · by_cases ht : ∃ sg, t = .tab sg
      · obtain ⟨sg, rfl⟩ := ht
        obtain ⟨rs, kvs, sts, mks, N, rfl, h1, h2, h3, h4⟩ := freeze hrv hg2
        refine c_seq ?_
        refine c_region ?_   -- region 7
        refine g_q (qv_move rfl) rfl ?_
        refine g_q (QV.to (v' := .tuple #[.iface 63 (.map (some rs)), .bool true]) (qv_lookup2 (m := kvD) (k := kGlobal) rfl rfl Try.runUnderlying63 Try.runUnderlying9 Try.zeroValue20 (List.mem_append_right _ (.tail _ (List.mem_append_right _ (List.mem_append_right _ hD))))) (by rw [hvs]; rfl)) rfl ?_
        refine g_q (qv_move rfl) rfl ?_
        refine g_q (qv_extract rfl rfl) rfl ?_
        refine g_q (qv_extract rfl rfl) rfl ?_
        refine g_q (qv_assign rfl) rfl ?_
        refine g_q (qv_assign rfl) rfl ?_
        refine g_nil ?_
        refine e_seq ?_
        refine c_seq ?_
        refine c_region ?_   -- region 8
        refine g_q (qv_move rfl) rfl ?_
        refine g_q (qv_not rfl) rfl ?_
        refine g_nil ?_
        refine e_seq ?_
        refine c_false rfl ?_
        refine c_seq ?_
        refine c_region ?_   -- region 10
        refine g_q (qv_move rfl) rfl ?_
        refine g_q (qv_is rfl Try.runUnderlying63 (fun _ h => by cases h)) rfl ?_
        refine g_q (qv_move rfl) rfl ?_
        refine g_q (qv_extract rfl rfl) rfl ?_
        refine g_q (qv_extract rfl rfl) rfl ?_
        refine g_q (qv_assign rfl) rfl ?_
        refine g_q (qv_assign rfl) rfl ?_
        refine g_nil ?_
        refine e_seq ?_
        refine c_seq ?_
        refine c_region ?_   -- region 11
        refine g_q (qv_move rfl) rfl ?_
        refine g_q (qv_not rfl) rfl ?_
        refine g_nil ?_
        refine e_seq ?_
        refine c_false rfl ?_
        refine c_skip ?_
        refine e_to (M' := (rd, kvd.obj) :: (rg, kvg.obj) :: (rs, kvs.obj) :: (mks ++ (mgk ++ (mr ++ (N ++ F))))) (fun f => by have h1 := hx f; have h2 := h4 f; simp only [List.map_cons, List.sum_cons, List.map_append, List.sum_append, List.cons_append] at h1 h2 ⊢; omega) ?_
        exact e_mid (L' := [(0, .func (.func 44) #[] #[]), (1, .map (some rd)), (2, .map (some rD)), (3, str pre), (10, .map (some rg)), (11, .map (some rs))]) ⟨rfl, rfl, rfl, rfl, rfl, rfl, trivial⟩ ⟨rs, kvs, sg, sts, mks, N, (rs, kvs.obj) :: mks, rfl, by unfold glob; rw [hts]; rfl, h1, h2, h3, Or.inr ⟨.tab sg, _, hvs, hts, hg2, (frozen_toX (n := n + 2) h1 h2 h3)⟩, Fits.refl _, rfl⟩
      · have hnt : ∀ es, t ≠ .tab es := fun es e => ht ⟨es, e⟩
        have hv : v = .nilIface ∨ ∃ T' u, v = .iface T' u ∧ Nat.beq T' 63 = false ∧ Nat.beq T' 66 = false := by
          rcases hrv.look with ⟨es, _, e, _⟩ | ⟨_, h⟩
          · exact absurd e (hnt es)
          · exact h
        refine c_seq ?_
        refine c_region ?_   -- region 7
        refine g_q (qv_move rfl) rfl ?_
        refine g_q (QV.to (v' := .tuple #[v, .bool true]) (qv_lookup2 (m := kvD) (k := kGlobal) rfl rfl Try.runUnderlying63 Try.runUnderlying9 Try.zeroValue20 (List.mem_append_right _ (.tail _ (List.mem_append_right _ (List.mem_append_right _ hD))))) (by rw [hvs]; rfl)) rfl ?_
        refine g_q (qv_move rfl) rfl ?_
        refine g_q (qv_extract rfl rfl) rfl ?_
        refine g_q (qv_extract rfl rfl) rfl ?_
        refine g_q (qv_assign rfl) rfl ?_
        refine g_q (qv_assign rfl) rfl ?_
        refine g_nil ?_
        refine e_seq ?_
        refine c_seq ?_
        refine c_region ?_   -- region 8
        refine g_q (qv_move rfl) rfl ?_
        refine g_q (qv_not rfl) rfl ?_
        refine g_nil ?_
        refine e_seq ?_
        refine c_false rfl ?_
        refine c_seq ?_
        refine c_region ?_   -- region 10
        refine g_q (qv_move rfl) rfl ?_
        refine g_q (qv_isntX (hv.imp id fun ⟨T', u, h1, h2, _⟩ => ⟨T', u, h1, h2⟩) rfl Try.runUnderlying63 (fun _ h => by cases h) Try.zeroValue63) rfl ?_
        refine g_q (qv_move rfl) rfl ?_
        refine g_q (qv_extract rfl rfl) rfl ?_
        refine g_q (qv_extract rfl rfl) rfl ?_
        refine g_q (qv_assign rfl) rfl ?_
        refine g_q (qv_assign rfl) rfl ?_
        refine g_nil ?_
        refine e_seq ?_
        refine c_seq ?_
        refine c_region ?_   -- region 11
        refine g_q (qv_move rfl) rfl ?_
        refine g_q (qv_not rfl) rfl ?_
        refine g_nil ?_
        refine e_seq ?_
        refine c_true rfl ?_
        refine c_seq ?_
        refine c_region ?_   -- region 12
        refine g_q (qv_move rfl) rfl ?_
        refine g_q (qv_iface Try.runUnderlying9 (fun _ h => by cases h) rfl) rfl ?_
        refine g_i (iv_buildSlice (vs := [(0, .iface 9 (str kGlobal))]) (cs := #[.iface 9 (str kGlobal)]) Try.runUnderlying89 Try.sizeOf20 Try.zeroValue20 ⟨rfl, rfl, trivial⟩ rfl (by kernel_rfl) rfl) rfl ?_
        rintro _ _ ⟨bs, rfl, rfl⟩
        refine g_i (iv_callc (vs := [_, .slice (some ⟨bs, 0, none⟩) 1 1]) (caps := []) Try.call44 rfl ⟨rfl, rfl, trivial⟩ (quiet_any _ _ _)) rfl ?_
        rintro _ _ rfl
        refine g_nil ?_
        refine e_seq ?_
        refine c_ret ?_
        refine e_ret_then ?_
        refine e_to (M' := (rd, kvd.obj) :: (mdk ++ (mg ++ F))) (fun f => by simp <;> omega) (e_ret0 (.inl rfl) Try.results76 ?_)
        exact ⟨n, de, (rd, kvd.obj) :: mdk, mg, [], hd, hokd, Or.inr ⟨Or.inr fun sg e => by unfold glob at e; rw [hts] at e; exact hnt sg e, fun _ => rfl⟩, Or.inr ⟨t, v, hvs, hts, hg2, hrv⟩, rfl⟩
  rintro _ _ ⟨rs, kvs, sg, sts, mks, N, mg', rfl, hgs, hoks, hps, hks, hsg, hfs, rfl⟩
  refine c_seq ?_
  refine c_seq ?_
  refine c_region ?_   -- region 13
  refine g_q (qv_move rfl) rfl ?_
  refine g_i (iv_range (m := kvs) rfl Try.runUnderlying63 m2) rfl ?_
  rintro _ _ ⟨it, rfl, rfl⟩
  refine g_nil ?_
  refine e_seq ?_
  refine c_block ?_
  refine c_keep (L' := [(0, .func (.func 44) #[] #[]), (1, .map (some rd)), (2, .map (some rD)), (3, str pre), (10, .map (some rg)), (65, ptr it)]) ⟨rfl, rfl, rfl, rfl, rfl, rfl, trivial⟩ ?_
  refine c_to (M' := (it, iterObj rs kvs #[]) :: (rg, kvg.obj) :: (rd, kvd.obj) :: (rs, kvs.obj) :: (mks ++ (mgk ++ (mr ++ (N ++ F))))) (fun f => by simp <;> omega) ?_
  refine c_loop (ι := Array Nat) (fun seen L M' => ∃ kvg gts mgk, L = [(0, .func (.func 44) #[] #[]), (1, .map (some rd)), (2, .map (some rD)), (3, str pre), (10, .map (some rg)), (65, ptr it)] ∧ KidsK (fun _ => RepX (N ++ S) (n + 2) .X) gts (KV.list kvg) mgk ∧ (∀ p, p ∈ gts → Nm p.1) ∧ GDone (fun k => dg.lookup k) (fun k => sg.lookup k) ((kvs.left seen).map (·.1)) gts ∧ M' = (it, iterObj rs kvs seen) :: (rg, kvg.obj) :: (rd, kvd.obj) :: (rs, kvs.obj) :: (mks ++ (mgk ++ (mr ++ (N ++ F))))) (fun seen => (kvs.left seen).length) #[] ⟨kvg, gts, mgk, rfl, hkg.mono (fun k t v m h => (RepX.grow (fun x hx => List.mem_append_right _ hx) h).le (by omega)), fun p hp => hokg.2 p (hpg.mem_iff.1 hp), GDone.start (fun k => lookup_perm hpg (perm_keys_nodup hokg hpg) k) (fun k hk => ?_), rfl⟩ ?_
  · rw [KV.left_start] at hk
    rw [← lookup_perm hps (perm_keys_nodup hoks hps) k]
    refine lookup_none fun h => hk ?_
    rw [← hks.keys]
    exact h
  clear hkg hx hpg gts
  rintro seen _ _ ⟨kvg, gts, mgk, rfl, hkg, hnm, hdone, rfl⟩
  refine c_seq ?_
  refine c_region ?_   -- region 14
  refine g_i (iv_next (i := 0) rfl rfl (.tail _ (.tail _ (.tail _ m0)))) rfl ?_
  rintro _ _ (⟨hl0, rfl, rfl⟩ | ⟨key, u, seen2, rfl, rfl, hperm2, hcur⟩)
  · refine g_q (qv_extract rfl rfl) rfl ?_
    refine g_nil ?_
    refine e_seq ?_
    refine c_seq ?_
    refine c_false rfl ?_
    refine c_exit ?_
    refine e_exit_then ?_
    refine e_exit_then ?_
    refine e_exit_block ?_
    refine e_seq ?_
    refine c_region ?_   -- region 31
    refine g_q (qv_move rfl) rfl ?_
    refine g_q (qv_move rfl) rfl ?_
    refine g_q (qv_iface Try.runUnderlying63 (fun _ h => by cases h) rfl) rfl ?_
    refine g_i0 (iv_put (i := 2) (m := kvd) (k := kGlobal) rfl rfl rfl Try.runUnderlying63 Try.runUnderlying9 rfl) ?_
    rintro _ _ rfl
    refine g_nil ?_
    rw [hl0] at hdone
    obtain ⟨hg4, hokgg, hlgg⟩ := RepX.mk (r := rg) (md := .G) (n := n + 2) hkg hnm
    obtain ⟨dts2, m2', hk2, hl2, hn2, hf2⟩ := hback (fun k => RepX (N ++ S) (n + 3) (kidMode .V k)) (fun k t v m _ h => (RepX.grow (fun x hx => List.mem_append_right _ hx) h).le (by omega)) _ _ _ (show RepX (N ++ S) (n + 3) (kidMode .V kGlobal) _ _ _ from hg4)
    obtain ⟨hg5, hokr, hlr⟩ := RepX.mk (r := rd) (md := .V) (n := n + 3) (kv := kvd.put kGlobal (.iface 63 (.map (some rg)))) (by rw [KV.list_put]; exact hk2) (fun p hp => (hn2 p hp).elim (fun e => by rw [e]; exact hnmg) (fun ⟨q, hq, e⟩ => by rw [← e]; exact hnmd q hq))
    refine e_to (M' := ((rd, (kvd.put kGlobal (.iface 63 (.map (some rg)))).obj) :: m2') ++ (mg' ++ (N ++ F))) (fun f => by have h1 := hf2 f; have h2 := hfs f; simp only [List.set_cons_succ, List.set_cons_zero, List.map_cons, List.sum_cons, List.map_append, List.sum_append, List.cons_append] at h1 h2 ⊢; omega) (e_ret0 (.inr rfl) Try.results76 ?_)
    exact ⟨n + 4, _, _, mg', N, hg5, hokr, Or.inl ⟨dg, sg, _, hgl, hgs, hokgg, fun k => by rw [hlgg]; exact hdone.done k, fun k => by rw [hlr, hl2, ← hdl]⟩, hsg, rfl⟩
  · have hmu : (kvs.left seen2).length < (kvs.left seen).length := by
      rw [hperm2.length_eq]
      exact Nat.lt_succ_self _
    have hpl := hperm2.map (·.1)
    have hndl := left_nodup kvs seen
    rcases hks.lookup key with ⟨_, h2⟩ | ⟨tu, u2, m1, hst, h2, hfx, hmu1⟩
    · rw [KV.lookup_cur hcur] at h2; cases h2
    have e := KV.lookup_cur hcur
    rw [h2] at e
    cases e
    have hs0 : sg.lookup key = some tu := by rw [← lookup_perm hps (perm_keys_nodup hoks hps) key]; exact hst
    have hnk : Nm key := hoks.2 _ (mem_of_lookup hs0)
    have hlook := hfx.look
    have hd0 : gts.lookup key = dg.lookup key := hdone.here (hpl.mem_iff.2 List.mem_cons_self)
    have hd00 : gts.lookup key = dg.lookup key := hd0
    obtain ⟨mv2, mr2, hfm, hcase2, hback2⟩ := hkg.hole key kvg.nodup
    refine g_q (qv_extract rfl rfl) rfl ?_
    refine g_nil ?_
    refine e_seq ?_
    refine c_seq ?_
    refine c_true rfl ?_
    refine c_skip ?_
    refine e_seq ?_
    refine c_block ?_
    refine c_seq ?_
    refine c_region ?_   -- region 15
    refine g_q (qv_entry (k := key) (v := u) rfl m0 (.tail _ (.tail _ (.tail _ m0))) hcur) rfl ?_
    refine g_q (qv_extract rfl rfl) rfl ?_
    refine g_q (qv_extract rfl rfl) rfl ?_
    refine g_q (qv_assign rfl) rfl ?_
    refine g_q (qv_assign rfl) rfl ?_
    refine g_nil ?_
    refine e_seq ?_
    refine c_seq ?_
    refine c_region ?_   -- region 16
    refine g_q (qv_move rfl) rfl ?_
    rcases hfx with ⟨es, rx, kvx, xts, rfl, rfl, hx1, hx2, hx3, rfl⟩ | ⟨hnt, rfl, hsh⟩
    · have hrx : (rx, kvx.obj) ∈ mks := hmu1 _ m0
      refine g_i (iv_call (vs := [.iface 63 (.map (some rx))]) Try.call55 ⟨rfl, trivial⟩ (istable_gen (.tab es) _ _ (Or.inl ⟨es, rx, rfl, rfl⟩))) rfl ?_
      rintro _ _ ⟨rfl, rfl⟩
      refine g_nil ?_
      refine e_seq ?_
      refine c_true rfl ?_
      refine c_seq ?_
      refine c_region ?_   -- region 17
      refine g_q (qv_move rfl) rfl ?_
      refine g_q (qv_as rfl Try.runUnderlying63 (fun _ h => by cases h)) rfl ?_
      refine g_i (iv_call (vs := [.map (some rx)]) Try.call86 ⟨rfl, trivial⟩ (copyMap_any rx kvx _ (.tail _ (.tail _ (.tail _ (.tail _ (List.mem_append_left _ hrx))))))) rfl ?_
      rintro _ _ ⟨r2, kv2, rfl, hp2, rfl⟩
      refine g_q (qv_assign rfl) rfl ?_
      refine g_nil ?_
      refine e_seq ?_
      obtain ⟨zts, mz, hz1, hz2, hz3⟩ := hx3.perm hp2.symm
      obtain rfl := hz2.nil_eq
      have hvv : RepX (N ++ S) (n + 2) .X (.tab es) (.iface 63 (.map (some r2))) [(r2, kv2.obj)] := RepX.le (n := 1) (by omega) (Or.inl ⟨r2, kv2, zts, [], rfl, hx1, hz1.symm.trans hx2, hz3.mono (fun k t v m h => Or.inr h), rfl⟩)
      rcases hcase2 with ⟨htn, hvn, rfl⟩ | ⟨t, v, hts, hvs, hrv⟩
      · refine c_seq ?_
        refine c_region ?_   -- region 18
        refine g_q (qv_move rfl) rfl ?_
        refine g_q (qv_move rfl) rfl ?_
        refine g_q (QV.to (v' := .tuple #[.nilIface, .bool false]) (qv_lookup2 (m := kvg) (k := key) rfl rfl Try.runUnderlying63 Try.runUnderlying9 Try.zeroValue20 (.tail _ (.tail _ m0))) (by rw [hvn]; rfl)) rfl ?_
        refine g_q (qv_move rfl) rfl ?_
        refine g_q (qv_extract rfl rfl) rfl ?_
        refine g_q (qv_extract rfl rfl) rfl ?_
        refine g_q (qv_assign rfl) rfl ?_
        refine g_q (qv_assign rfl) rfl ?_
        refine g_nil ?_
        refine e_seq ?_
        refine c_seq ?_
        refine c_region ?_   -- region 19
        refine g_q (qv_move rfl) rfl ?_
        refine g_q (qv_not rfl) rfl ?_
        refine g_nil ?_
        refine e_seq ?_
        refine c_true rfl ?_
        refine c_region ?_   -- region 20
        refine g_q (qv_move rfl) rfl ?_
        refine g_q (qv_move rfl) rfl ?_
        refine g_q (qv_move rfl) rfl ?_
        refine g_q (qv_iface Try.runUnderlying63 (fun _ h => by cases h) rfl) rfl ?_
        refine g_i0 (iv_put (i := 2) (m := kvg) rfl rfl rfl Try.runUnderlying63 Try.runUnderlying9 rfl) ?_
        rintro _ _ rfl
        refine g_nil ?_
        refine e_normal_block ?_
        obtain ⟨gts2, m2', hk2, hl2, hn2, hf2⟩ := hback2 _ (fun _ _ _ _ _ h => h) _ _ _ hvv
        refine e_to (M' := (it, iterObj rs kvs seen2) :: (rg, (kvg.put key (.iface 63 (.map (some r2)))).obj) :: (rd, kvd.obj) :: (rs, kvs.obj) :: (mks ++ (m2' ++ (mr ++ (N ++ F))))) (fun f => by have h1 := hf2 f; have h2 := hfm f; simp only [List.set_cons_succ, List.set_cons_zero, List.nil_append, List.map_cons, List.sum_cons, List.map_append, List.sum_append, List.cons_append] at h1 h2 ⊢; omega) ?_
        exact e_again seen2 hmu (L' := [(0, .func (.func 44) #[] #[]), (1, .map (some rd)), (2, .map (some rD)), (3, str pre), (10, .map (some rg)), (65, ptr it)]) ⟨rfl, rfl, rfl, rfl, rfl, rfl, trivial⟩ ⟨kvg.put key (.iface 63 (.map (some r2))), gts2, m2', rfl, (by rw [KV.list_put]; exact hk2), (fun p hp => (hn2 p hp).elim (fun e => by rw [e]; exact hnk) (fun ⟨q, hq, e⟩ => by rw [← e]; exact hnm q hq)), (hdone.step hpl hndl hl2 (by rw [← hd0, htn, hs0]; exact GVal.new es)), rfl⟩
      · have hlow : Hg 0 t := hg1.look (by rw [← hd0]; exact hts)
        by_cases ht : ∃ ex, t = .tab ex
        · obtain ⟨ex, rfl⟩ := ht
          obtain rfl : ex = [] := hlow
          obtain ⟨r3, kv3, k3ts, m3k, rfl, h31, h32, h33, rfl⟩ := hrv.succ.table (fun e => by cases e)
          obtain rfl := h32.eq_nil
          obtain ⟨h34, rfl⟩ := kidsK_nil h33
          refine c_seq ?_
          refine c_region ?_   -- region 18
          refine g_q (qv_move rfl) rfl ?_
          refine g_q (qv_move rfl) rfl ?_
          refine g_q (QV.to (v' := .tuple #[.iface 63 (.map (some r3)), .bool true]) (qv_lookup2 (m := kvg) (k := key) rfl rfl Try.runUnderlying63 Try.runUnderlying9 Try.zeroValue20 (.tail _ (.tail _ m0))) (by rw [hvs]; rfl)) rfl ?_
          refine g_q (qv_move rfl) rfl ?_
          refine g_q (qv_extract rfl rfl) rfl ?_
          refine g_q (qv_extract rfl rfl) rfl ?_
          refine g_q (qv_assign rfl) rfl ?_
          refine g_q (qv_assign rfl) rfl ?_
          refine g_nil ?_
          refine e_seq ?_
          refine c_seq ?_
          refine c_region ?_   -- region 19
          refine g_q (qv_move rfl) rfl ?_
          refine g_q (qv_not rfl) rfl ?_
          refine g_nil ?_
          refine e_seq ?_
          refine c_false rfl ?_
          refine c_seq ?_
          refine c_region ?_   -- region 21
          refine g_q (qv_move rfl) rfl ?_
          refine g_q (qv_is rfl Try.runUnderlying63 (fun _ h => by cases h)) rfl ?_
          refine g_q (qv_move rfl) rfl ?_
          refine g_q (qv_extract rfl rfl) rfl ?_
          refine g_q (qv_extract rfl rfl) rfl ?_
          refine g_q (qv_assign rfl) rfl ?_
          refine g_q (qv_assign rfl) rfl ?_
          refine g_nil ?_
          refine e_seq ?_
          refine c_seq ?_
          refine c_region ?_   -- region 22
          refine g_q (qv_move rfl) rfl ?_
          refine g_q (qv_not rfl) rfl ?_
          refine g_nil ?_
          refine e_seq ?_
          refine c_false rfl ?_
          refine c_seq ?_
          refine c_region ?_   -- region 24
          refine g_q (qv_move rfl) rfl ?_
          refine g_q (qv_move rfl) rfl ?_
          refine g_i (iv_call (vs := [str pre, str key]) Try.call54 ⟨rfl, rfl, trivial⟩ (concat_any pre key _ (by omega) hnk.ok.2.2)) rfl ?_
          rintro _ _ ⟨full, rfl, hfl, rfl⟩
          refine g_q (qv_assign rfl) rfl ?_
          refine g_nil ?_
          refine e_seq ?_
          refine c_seq ?_
          refine c_region ?_   -- region 25
          refine g_q (qv_move rfl) rfl ?_
          refine g_q (qv_move rfl) rfl ?_
          refine g_q (qv_move rfl) rfl ?_
          refine g_q (qv_move rfl) rfl ?_
          refine g_to (M' := [(r2, kv2.obj)] ++ ([(r3, kv3.obj)] ++ ((it, iterObj rs kvs seen2) :: (rg, kvg.obj) :: (rd, kvd.obj) :: (rs, kvs.obj) :: (mks ++ (mr2 ++ (mr ++ (N ++ F))))))) (fun f => by have h2 := hfm f; simp only [List.set_cons_zero, List.nil_append, List.map_cons, List.sum_cons, List.map_append, List.sum_append, List.cons_append] at h2 ⊢; omega) ?_
          refine g_i (iv_call (vs := [.func (.func 44) #[] #[], .map (some r2), .map (some r3), str full, .bool true]) Try.call43 ⟨rfl, rfl, rfl, rfl, rfl, trivial⟩ (coalX_any (N ++ S) 0 (n + 2) .X es [] r2 r3 _ _ full true _ (fun e => by cases e) (Nat.zero_le _) (by omega) hvv (show RepA 0 (.tab []) (.iface 63 (.map (some r3))) [(r3, kv3.obj)] from ⟨r3, kv3, [], [], rfl, h31, List.Perm.refl _, by rw [h34]; exact rfl, rfl⟩) (by have := hnk.ok.2.2; omega))) rfl ?_
          rintro _ _ ⟨rfl, re, m4, hre, hokre, hco, rfl⟩
          refine g_nil ?_
          refine e_seq ?_
          refine c_region ?_   -- region 26
          refine g_q (qv_move rfl) rfl ?_
          refine g_q (qv_move rfl) rfl ?_
          refine g_q (qv_move rfl) rfl ?_
          refine g_q (qv_iface Try.runUnderlying63 (fun _ h => by cases h) rfl) rfl ?_
          refine g_to (M' := (it, iterObj rs kvs seen2) :: (rg, kvg.obj) :: (rd, kvd.obj) :: (rs, kvs.obj) :: (mks ++ ((m4 ++ mr2) ++ (mr ++ (N ++ F))))) (fun f => by simp only [List.map_cons, List.sum_cons, List.map_append, List.sum_append]; omega) ?_
          refine g_i0 (iv_put (i := 1) (m := kvg) rfl rfl rfl Try.runUnderlying63 Try.runUnderlying9 rfl) ?_
          rintro _ _ rfl
          refine g_nil ?_
          refine e_normal_block ?_
          obtain ⟨gts2, m2', hk2, hl2, hn2, hf2⟩ := hback2 _ (fun _ _ _ _ _ h => h) _ _ _ hre
          refine e_to (M' := (it, iterObj rs kvs seen2) :: (rg, (kvg.put key (.iface 63 (.map (some r2)))).obj) :: (rd, kvd.obj) :: (rs, kvs.obj) :: (mks ++ (m2' ++ (mr ++ (N ++ F))))) (fun f => by have h1 := hf2 f; simp only [List.set_cons_succ, List.set_cons_zero, List.map_cons, List.sum_cons, List.map_append, List.sum_append] at h1 ⊢; omega) ?_
          exact e_again seen2 hmu (L' := [(0, .func (.func 44) #[] #[]), (1, .map (some rd)), (2, .map (some rD)), (3, str pre), (10, .map (some rg)), (65, ptr it)]) ⟨rfl, rfl, rfl, rfl, rfl, rfl, trivial⟩ ⟨kvg.put key (.iface 63 (.map (some r2))), gts2, m2', rfl, (by rw [KV.list_put]; exact hk2), (fun p hp => (hn2 p hp).elim (fun e => by rw [e]; exact hnk) (fun ⟨q, hq, e⟩ => by rw [← e]; exact hnm q hq)), (hdone.step hpl hndl hl2 (by rw [← hd0, hts, hs0]; exact GVal.both [] es re hokre hco)), rfl⟩
        · have hnt : ∀ es, t ≠ .tab es := fun es e => ht ⟨es, e⟩
          have hv : v = .nilIface ∨ ∃ T' u, v = .iface T' u ∧ Nat.beq T' 63 = false ∧ Nat.beq T' 66 = false := by
            rcases hrv.look with ⟨es, _, e, _⟩ | ⟨_, h⟩
            · exact absurd e (hnt es)
            · exact h
          refine c_seq ?_
          refine c_region ?_   -- region 18
          refine g_q (qv_move rfl) rfl ?_
          refine g_q (qv_move rfl) rfl ?_
          refine g_q (QV.to (v' := .tuple #[v, .bool true]) (qv_lookup2 (m := kvg) (k := key) rfl rfl Try.runUnderlying63 Try.runUnderlying9 Try.zeroValue20 (.tail _ (.tail _ m0))) (by rw [hvs]; rfl)) rfl ?_
          refine g_q (qv_move rfl) rfl ?_
          refine g_q (qv_extract rfl rfl) rfl ?_
          refine g_q (qv_extract rfl rfl) rfl ?_
          refine g_q (qv_assign rfl) rfl ?_
          refine g_q (qv_assign rfl) rfl ?_
          refine g_nil ?_
          refine e_seq ?_
          refine c_seq ?_
          refine c_region ?_   -- region 19
          refine g_q (qv_move rfl) rfl ?_
          refine g_q (qv_not rfl) rfl ?_
          refine g_nil ?_
          refine e_seq ?_
          refine c_false rfl ?_
          refine c_seq ?_
          refine c_region ?_   -- region 21
          refine g_q (qv_move rfl) rfl ?_
          refine g_q (qv_isntX (hv.imp id fun ⟨T', u, h1, h2, _⟩ => ⟨T', u, h1, h2⟩) rfl Try.runUnderlying63 (fun _ h => by cases h) Try.zeroValue63) rfl ?_
          refine g_q (qv_move rfl) rfl ?_
          refine g_q (qv_extract rfl rfl) rfl ?_
          refine g_q (qv_extract rfl rfl) rfl ?_
          refine g_q (qv_assign rfl) rfl ?_
          refine g_q (qv_assign rfl) rfl ?_
          refine g_nil ?_
          refine e_seq ?_
          refine c_seq ?_
          refine c_region ?_   -- region 22
          refine g_q (qv_move rfl) rfl ?_
          refine g_q (qv_not rfl) rfl ?_
          refine g_nil ?_
          refine e_seq ?_
          refine c_true rfl ?_
          refine c_region ?_   -- region 23
          refine g_q (qv_move rfl) rfl ?_
          refine g_q (qv_move rfl) rfl ?_
          refine g_q (qv_iface Try.runUnderlying9 (fun _ h => by cases h) rfl) rfl ?_
          refine g_i (iv_buildSlice (vs := [(0, .iface 9 (str key))]) (cs := #[.iface 9 (str key)]) Try.runUnderlying89 Try.sizeOf20 Try.zeroValue20 ⟨rfl, rfl, trivial⟩ rfl (by kernel_rfl) rfl) rfl ?_
          rintro _ _ ⟨bs, rfl, rfl⟩
          refine g_i (iv_callc (vs := [_, .slice (some ⟨bs, 0, none⟩) 1 1]) (caps := []) Try.call44 rfl ⟨rfl, rfl, trivial⟩ (quiet_any _ _ _)) rfl ?_
          rintro _ _ rfl
          refine g_nil ?_
          refine e_normal_block ?_
          refine e_to (M' := (it, iterObj rs kvs seen2) :: (rg, kvg.obj) :: (rd, kvd.obj) :: (rs, kvs.obj) :: (mks ++ (mgk ++ (mr ++ (N ++ F))))) (fun f => by simp only [List.set_cons_zero, List.map_cons, List.sum_cons, List.map_append, List.sum_append]; omega) ?_
          exact e_again seen2 hmu (L' := [(0, .func (.func 44) #[] #[]), (1, .map (some rd)), (2, .map (some rD)), (3, str pre), (10, .map (some rg)), (65, ptr it)]) ⟨rfl, rfl, rfl, rfl, rfl, rfl, trivial⟩ ⟨kvg, gts, mgk, rfl, hkg, hnm, (hdone.step hpl hndl (c := some t) (fun k' => same_lookup hts k') (by rw [← hd0, hts, hs0]; exact GVal.clash t es hnt)), rfl⟩
    · refine g_i (iv_call (vs := [u]) Try.call55 ⟨rfl, trivial⟩ (istable_gen tu u _ hlook)) rfl ?_
      rintro _ _ ⟨rfl, rfl⟩
      refine g_nil ?_
      refine e_seq ?_
      have hf55 : isTabT tu = false := by
        cases e : isTabT tu with
        | false => rfl
        | true => obtain ⟨es, e⟩ := isTabT_iff.1 e; exact absurd e (hnt es)
      refine c_false (by rw [← hf55]; rfl) ?_
      rcases hcase2 with ⟨htn, hvn, rfl⟩ | ⟨t, v, hts, hvs, hrv⟩
      · refine c_seq ?_
        refine c_region ?_   -- region 27
        refine g_q (qv_move rfl) rfl ?_
        refine g_q (qv_move rfl) rfl ?_
        refine g_q (QV.to (v' := .tuple #[.nilIface, .bool false]) (qv_lookup2 (m := kvg) (k := key) rfl rfl Try.runUnderlying63 Try.runUnderlying9 Try.zeroValue20 (.tail _ m0)) (by rw [hvn]; rfl)) rfl ?_
        refine g_q (qv_move rfl) rfl ?_
        refine g_q (qv_extract rfl rfl) rfl ?_
        refine g_q (qv_extract rfl rfl) rfl ?_
        refine g_q (qv_assign rfl) rfl ?_
        refine g_q (qv_assign rfl) rfl ?_
        refine g_nil ?_
        refine e_seq ?_
        refine c_seq ?_
        refine c_region ?_   -- region 28
        refine g_q (qv_move rfl) rfl ?_
        refine g_q (qv_move rfl) rfl ?_
        refine g_off rfl rfl rfl rfl ?_
        refine g_off rfl rfl rfl rfl ?_
        refine g_q (qv_pick_f rfl rfl) rfl ?_
        refine g_nil ?_
        refine e_seq ?_
        refine c_false rfl ?_
        refine c_region ?_   -- region 30
        refine g_q (qv_move rfl) rfl ?_
        refine g_q (qv_move rfl) rfl ?_
        refine g_q (qv_move rfl) rfl ?_
        refine g_i0 (iv_put (i := 1) (m := kvg) rfl rfl rfl Try.runUnderlying63 Try.runUnderlying9 rfl) ?_
        rintro _ _ rfl
        refine g_nil ?_
        refine e_normal_block ?_
        obtain ⟨gts2, m2', hk2, hl2, hn2, hf2⟩ := hback2 _ (fun _ _ _ _ _ h => h) _ _ _ (show RepX (N ++ S) (n + 2) .X tu u [] from Or.inr hsh)
        refine e_to (M' := (it, iterObj rs kvs seen2) :: (rg, (kvg.put key u).obj) :: (rd, kvd.obj) :: (rs, kvs.obj) :: (mks ++ (m2' ++ (mr ++ (N ++ F))))) (fun f => by have h1 := hf2 f; have h2 := hfm f; simp only [List.set_cons_succ, List.set_cons_zero, List.nil_append, List.map_cons, List.sum_cons, List.map_append, List.sum_append] at h1 h2 ⊢; omega) ?_
        exact e_again seen2 hmu (L' := [(0, .func (.func 44) #[] #[]), (1, .map (some rd)), (2, .map (some rD)), (3, str pre), (10, .map (some rg)), (65, ptr it)]) ⟨rfl, rfl, rfl, rfl, rfl, rfl, trivial⟩ ⟨kvg.put key u, gts2, m2', rfl, (by rw [KV.list_put]; exact hk2), (fun p hp => (hn2 p hp).elim (fun e => by rw [e]; exact hnk) (fun ⟨q, hq, e⟩ => by rw [← e]; exact hnm q hq)), (hdone.step hpl hndl hl2 (by rw [← hd0, htn, hs0]; exact GVal.set none tu hnt (fun _ e => by cases e))), rfl⟩
      · refine c_seq ?_
        refine c_region ?_   -- region 27
        refine g_q (qv_move rfl) rfl ?_
        refine g_q (qv_move rfl) rfl ?_
        refine g_q (QV.to (v' := .tuple #[v, .bool true]) (qv_lookup2 (m := kvg) (k := key) rfl rfl Try.runUnderlying63 Try.runUnderlying9 Try.zeroValue20 (.tail _ m0)) (by rw [hvs]; rfl)) rfl ?_
        refine g_q (qv_move rfl) rfl ?_
        refine g_q (qv_extract rfl rfl) rfl ?_
        refine g_q (qv_extract rfl rfl) rfl ?_
        refine g_q (qv_assign rfl) rfl ?_
        refine g_q (qv_assign rfl) rfl ?_
        refine g_nil ?_
        refine e_seq ?_
        refine c_seq ?_
        refine c_region ?_   -- region 28
        refine g_q (qv_move rfl) rfl ?_
        refine g_q (qv_move rfl) rfl ?_
        refine g_on rfl rfl ?_
        refine g_q (qv_move rfl) rfl ?_
        refine g_on rfl rfl ?_
        refine g_i (iv_call (vs := [v]) Try.call55 ⟨rfl, trivial⟩ (istable_gen t v _ hrv.look)) rfl ?_
        rintro _ _ ⟨rfl, rfl⟩
        refine g_q (qv_pick_t rfl rfl) rfl ?_
        refine g_nil ?_
        refine e_seq ?_
        by_cases ht : ∃ ex, t = .tab ex
        · have ht55 : isTabT t = true := isTabT_iff.2 ht
          obtain ⟨ex, rfl⟩ := ht
          refine c_true rfl ?_
          refine c_region ?_   -- region 29
          refine g_q (qv_move rfl) rfl ?_
          refine g_q (qv_move rfl) rfl ?_
          refine g_q (qv_iface Try.runUnderlying9 (fun _ h => by cases h) rfl) rfl ?_
          refine g_i (iv_buildSlice (vs := [(0, .iface 9 (str key))]) (cs := #[.iface 9 (str key)]) Try.runUnderlying89 Try.sizeOf20 Try.zeroValue20 ⟨rfl, rfl, trivial⟩ rfl (by kernel_rfl) rfl) rfl ?_
          rintro _ _ ⟨bs, rfl, rfl⟩
          refine g_i (iv_callc (vs := [_, .slice (some ⟨bs, 0, none⟩) 1 1]) (caps := []) Try.call44 rfl ⟨rfl, rfl, trivial⟩ (quiet_any _ _ _)) rfl ?_
          rintro _ _ rfl
          refine g_nil ?_
          refine e_normal_block ?_
          refine e_to (M' := (it, iterObj rs kvs seen2) :: (rg, kvg.obj) :: (rd, kvd.obj) :: (rs, kvs.obj) :: (mks ++ (mgk ++ (mr ++ (N ++ F))))) (fun f => by simp only [List.set_cons_zero, List.map_cons, List.sum_cons, List.map_append, List.sum_append]; omega) ?_
          exact e_again seen2 hmu (L' := [(0, .func (.func 44) #[] #[]), (1, .map (some rd)), (2, .map (some rD)), (3, str pre), (10, .map (some rg)), (65, ptr it)]) ⟨rfl, rfl, rfl, rfl, rfl, rfl, trivial⟩ ⟨kvg, gts, mgk, rfl, hkg, hnm, (hdone.step hpl hndl (c := some (.tab ex)) (fun k' => same_lookup hts k') (by rw [← hd0, hts, hs0]; exact GVal.kept ex tu hnt)), rfl⟩
        · have hf : isTabT t = false := by
            cases e : isTabT t with
            | false => rfl
            | true => exact absurd (isTabT_iff.1 e) ht
          refine c_false (by rw [← hf]; rfl) ?_
          refine c_region ?_   -- region 30
          refine g_q (qv_move rfl) rfl ?_
          refine g_q (qv_move rfl) rfl ?_
          refine g_q (qv_move rfl) rfl ?_
          refine g_i0 (iv_put (i := 1) (m := kvg) rfl rfl rfl Try.runUnderlying63 Try.runUnderlying9 rfl) ?_
          rintro _ _ rfl
          refine g_nil ?_
          refine e_normal_block ?_
          obtain ⟨gts2, m2', hk2, hl2, hn2, hf2⟩ := hback2 _ (fun _ _ _ _ _ h => h) _ _ _ (show RepX (N ++ S) (n + 2) .X tu u [] from Or.inr hsh)
          refine e_to (M' := (it, iterObj rs kvs seen2) :: (rg, (kvg.put key u).obj) :: (rd, kvd.obj) :: (rs, kvs.obj) :: (mks ++ (m2' ++ (mr ++ (N ++ F))))) (fun f => by have h1 := hf2 f; have h2 := hfm f; simp only [List.set_cons_succ, List.set_cons_zero, List.nil_append, List.map_cons, List.sum_cons, List.map_append, List.sum_append] at h1 h2 ⊢; omega) ?_
          exact e_again seen2 hmu (L' := [(0, .func (.func 44) #[] #[]), (1, .map (some rd)), (2, .map (some rD)), (3, str pre), (10, .map (some rg)), (65, ptr it)]) ⟨rfl, rfl, rfl, rfl, rfl, rfl, trivial⟩ ⟨kvg.put key u, gts2, m2', rfl, (by rw [KV.list_put]; exact hk2), (fun p hp => (hn2 p hp).elim (fun e => by rw [e]; exact hnk) (fun ⟨q, hq, e⟩ => by rw [← e]; exact hnm q hq)), (hdone.step hpl hndl hl2 (by rw [← hd0, hts, hs0]; exact GVal.set (some t) tu hnt (fun de e => ht ⟨de, Option.some.inj e⟩))), rfl⟩

end Go.Proofs.Ytnnclcfklbeocaa

/-
  The walks, part 29: spec.globals lays the globals from above over those of a table, as 'GlobR' says.
  Conditions: both lie as RepS says.
-/
import Derived.Test.YtnnclcfklbeocaaR9
namespace Go.Proofs.Ytnnclcfklbeocaa
open Go.RowKit

variable {W0 : World}

/-- What stands under 'global' in the table above: read only. -/
def SgS (n : Nat) (kvD : KV) (De : List (Key × T)) (F : Heap) : Prop := (kvD.list.lookup kGlobal = none ∧ De.lookup kGlobal = none) ∨ ∃ tg b mg, kvD.list.lookup kGlobal = some (ptr b) ∧ De.lookup kGlobal = some tg ∧ RepS n tg (ptr b) mg ∧ ∀ x, x ∈ mg → x ∈ F

set_option maxHeartbeats 8000000 in
theorem sglobals_any (n : Nat) (de De : List (Key × T)) (bd bv rv : Nat) (kvv : KV) (md F : Heap) (hd : RepS n (.tab de) (ptr bd) md) (hbv : (bv, tcell rv) ∈ F) (hrv : (rv, kvv.obj) ∈ F) (hsg : SgS n kvv De F) :
    Tri Try.prog W0 33 [ptr bd, ptr bv] (md ++ F) fun _ M' => ∃ n' re md', RepS n' (.tab re) (ptr bd) md' ∧ KeysOk re ∧ GlobR De de re ∧ M' = md' ++ F := by
  obtain ⟨b, rd, kvd, dts, mdk, e, hokd, hpd, hkd, rfl⟩ := hd.tab
  cases e
  have hdl : ∀ k, de.lookup k = dts.lookup k := fun k => (lookup_perm hpd (perm_keys_nodup hokd hpd) k).symm
  have hnmd : ∀ p, p ∈ dts → Nm p.1 := fun p hp => hokd.2 p (hpd.mem_iff.1 hp)
  obtain ⟨mv, mr, hfit, hcase, hback⟩ := spec_hole kGlobal hkd kvd.nodup
  refine Tri.to (M' := (bd, tcell rd) :: (rd, kvd.obj) :: (mdk ++ F)) ?_ (by rw [List.cons_append, List.cons_append]; exact Fits.refl _)
  refine tri_of 122 Try.func33 rfl Try.ntmps33 (Nat.le_of_ble_eq_true rfl) ?_
  refine c_cut (fun L' M' => ∃ x y, L' = [(0, ptr bd), (1, ptr bv), (4, x), (5, .bool y)] ∧ ((y = false ∧ x = .pointer none ∧ dts.lookup kGlobal = none ∧ mr = mdk) ∨ ∃ bg t, y = true ∧ x = ptr bg ∧ kvd.list.lookup kGlobal = some (ptr bg) ∧ dts.lookup kGlobal = some t ∧ RepS n t (ptr bg) mv) ∧ M' = (bd, tcell rd) :: (rd, kvd.obj) :: (mdk ++ F)) ?_ ?_
  · rcases hcase with ⟨htn, hvn, rfl, rfl⟩ | ⟨t, bg, hts, hvs, hrv1⟩
    · refine c_region ?_
      refine g_q (qv_move rfl) rfl ?_
      refine g_q (qv_nil rfl) rfl ?_
      refine g_q (qv_field rfl Try.runUnderlying40 rfl Try.sizeOf38 rfl) rfl ?_
      refine g_q (qv_load (v := .map (some rd)) rfl Try.isAgg38 m0 rfl) rfl ?_
      refine g_q (QV.to (v' := .tuple #[.pointer none, .bool false]) (qv_lookup2 (m := kvd) (k := kGlobal) rfl rfl Try.runUnderlying38 Try.runUnderlying9 Try.zeroValue24 m1) (by rw [hvn]; rfl)) rfl ?_
      refine g_q (qv_move rfl) rfl ?_
      refine g_q (qv_extract rfl rfl) rfl ?_
      refine g_q (qv_extract rfl rfl) rfl ?_
      refine g_q (qv_assign rfl) rfl ?_
      refine g_q (qv_assign rfl) rfl ?_
      refine g_nil ?_
      exact e_mid (L' := [(0, ptr bd), (1, ptr bv), (4, .pointer none), (5, .bool false)]) ⟨rfl, rfl, rfl, rfl, trivial⟩ ⟨_, _, rfl, Or.inl ⟨rfl, rfl, htn, rfl⟩, rfl⟩
    · refine c_region ?_
      refine g_q (qv_move rfl) rfl ?_
      refine g_q (qv_nil rfl) rfl ?_
      refine g_q (qv_field rfl Try.runUnderlying40 rfl Try.sizeOf38 rfl) rfl ?_
      refine g_q (qv_load (v := .map (some rd)) rfl Try.isAgg38 m0 rfl) rfl ?_
      refine g_q (QV.to (v' := .tuple #[ptr bg, .bool true]) (qv_lookup2 (m := kvd) (k := kGlobal) rfl rfl Try.runUnderlying38 Try.runUnderlying9 Try.zeroValue24 m1) (by rw [hvs]; rfl)) rfl ?_
      refine g_q (qv_move rfl) rfl ?_
      refine g_q (qv_extract rfl rfl) rfl ?_
      refine g_q (qv_extract rfl rfl) rfl ?_
      refine g_q (qv_assign rfl) rfl ?_
      refine g_q (qv_assign rfl) rfl ?_
      refine g_nil ?_
      exact e_mid (L' := [(0, ptr bd), (1, ptr bv), (4, ptr bg), (5, .bool true)]) ⟨rfl, rfl, rfl, rfl, trivial⟩ ⟨_, _, rfl, Or.inr ⟨bg, t, rfl, rfl, hvs, hts, hrv1⟩, rfl⟩
  · rintro _ _ ⟨x, y, rfl, hxy, rfl⟩
    refine c_cut (fun L' M' => ∃ bg tg mg, L' = [(0, ptr bd), (1, ptr bv), (4, ptr bg)] ∧ glob de = tg ∧ RepS n tg (ptr bg) mg ∧ (∃ ts' m', KidsK (fun _ => RepS n) ts' (KV.list kvd) m' ∧ (∀ k, ts'.lookup k = dts.lookup k) ∧ (∀ p, p ∈ ts' → ∃ q, q ∈ dts ∧ q.1 = p.1) ∧ Fits (mg ++ mr) m') ∧ M' = mg ++ ((bd, tcell rd) :: (rd, kvd.obj) :: (mr ++ F))) ?_ ?_
    · rcases hxy with ⟨rfl, rfl, htn, rfl⟩ | ⟨bg, t, rfl, rfl, hvs, hts, hrv1⟩
      · refine c_seq ?_
        refine c_region ?_
        refine g_q (qv_move rfl) rfl ?_
        refine g_q (qv_not rfl) rfl ?_
        refine g_nil ?_
        refine e_seq ?_
        refine c_true rfl ?_
        refine c_region ?_
        refine g_i (iv_call (vs := []) Try.call16 trivial (new_any n _)) rfl ?_
        rintro _ _ ⟨mg, rfl, hrg⟩
        refine g_q (qv_assign rfl) rfl ?_
        refine g_nil ?_
        obtain ⟨bg, _, _, _, _, _, _, rfl, _⟩ := hrg.kind
        refine e_to (M' := mg ++ ((bd, tcell rd) :: (rd, kvd.obj) :: (mr ++ F))) (fun f => by simp only [List.map_cons, List.sum_cons, List.map_append, List.sum_append, List.cons_append]; omega) ?_
        exact e_mid (L' := [(0, ptr bd), (1, ptr bv), (4, ptr bg)]) ⟨rfl, rfl, rfl, trivial⟩ ⟨bg, _, mg, rfl, by unfold glob; rw [hdl, htn]; rfl, hrg, ⟨dts, mr, hkd, fun _ => rfl, fun p hp => ⟨p, hp, rfl⟩, fun f => by simp only [List.map_append, List.sum_append]; omega⟩, rfl⟩
      · have hback0 : ∃ ts' m', KidsK (fun _ => RepS n) ts' (KV.list kvd) m' ∧ (∀ k, ts'.lookup k = dts.lookup k) ∧ (∀ p, p ∈ ts' → ∃ q, q ∈ dts ∧ q.1 = p.1) ∧ Fits (mv ++ mr) m' := by
          obtain ⟨ts', m', g1, g2, g3, g4⟩ := hback.same kvd.nodup (Nat.le_refl n) hvs hts hrv1
          exact ⟨ts', m', g1, fun k => by rw [g2]; exact (same_lookup hts k).symm, g3, g4⟩
        refine c_seq ?_
        refine c_region ?_
        refine g_q (qv_move rfl) rfl ?_
        refine g_q (qv_not rfl) rfl ?_
        refine g_nil ?_
        refine e_seq ?_
        refine c_false rfl ?_
        refine c_skip ?_
        refine e_to (M' := mv ++ ((bd, tcell rd) :: (rd, kvd.obj) :: (mr ++ F))) (fun f => by have h1 := hfit f; simp only [List.map_cons, List.sum_cons, List.map_append, List.sum_append] at h1 ⊢; omega) ?_
        exact e_mid (L' := [(0, ptr bd), (1, ptr bv), (4, ptr bg)]) ⟨rfl, rfl, rfl, trivial⟩ ⟨bg, t, mv, rfl, by unfold glob; rw [hdl, hts]; rfl, hrv1, hback0, rfl⟩
    · rintro _ _ ⟨bg, tg, mg, rfl, hgl, hrg, hback0, rfl⟩
      refine c_cut (fun L' M' => ∃ x y, L' = [(0, ptr bd), (4, ptr bg), (5, .bool y), (6, x)] ∧ ((y = false ∧ x = .pointer none ∧ De.lookup kGlobal = none) ∨ ∃ bs ts ms, y = true ∧ x = ptr bs ∧ De.lookup kGlobal = some ts ∧ RepS n ts (ptr bs) ms ∧ ∀ x, x ∈ ms → x ∈ F) ∧ M' = mg ++ ((bd, tcell rd) :: (rd, kvd.obj) :: (mr ++ F))) ?_ ?_
      · rcases hsg with ⟨hvn, htn⟩ | ⟨ts, bs, ms, hvs, hts, hrs, hms⟩
        · refine c_region ?_
          refine g_q (qv_move rfl) rfl ?_
          refine g_q (qv_nil rfl) rfl ?_
          refine g_q (qv_field rfl Try.runUnderlying40 rfl Try.sizeOf38 rfl) rfl ?_
          refine g_q (qv_load (v := .map (some rv)) rfl Try.isAgg38 (List.mem_append_right _ (.tail _ (.tail _ (List.mem_append_right _ hbv)))) rfl) rfl ?_
          refine g_q (QV.to (v' := .tuple #[.pointer none, .bool false]) (qv_lookup2 (m := kvv) (k := kGlobal) rfl rfl Try.runUnderlying38 Try.runUnderlying9 Try.zeroValue24 (List.mem_append_right _ (.tail _ (.tail _ (List.mem_append_right _ hrv))))) (by rw [hvn]; rfl)) rfl ?_
          refine g_q (qv_move rfl) rfl ?_
          refine g_q (qv_extract rfl rfl) rfl ?_
          refine g_q (qv_extract rfl rfl) rfl ?_
          refine g_q (qv_assign rfl) rfl ?_
          refine g_q (qv_assign rfl) rfl ?_
          refine g_nil ?_
          exact e_mid (L' := [(0, ptr bd), (4, ptr bg), (5, .bool false), (6, .pointer none)]) ⟨rfl, rfl, rfl, rfl, trivial⟩ ⟨_, _, rfl, Or.inl ⟨rfl, rfl, htn⟩, rfl⟩
        · refine c_region ?_
          refine g_q (qv_move rfl) rfl ?_
          refine g_q (qv_nil rfl) rfl ?_
          refine g_q (qv_field rfl Try.runUnderlying40 rfl Try.sizeOf38 rfl) rfl ?_
          refine g_q (qv_load (v := .map (some rv)) rfl Try.isAgg38 (List.mem_append_right _ (.tail _ (.tail _ (List.mem_append_right _ hbv)))) rfl) rfl ?_
          refine g_q (QV.to (v' := .tuple #[ptr bs, .bool true]) (qv_lookup2 (m := kvv) (k := kGlobal) rfl rfl Try.runUnderlying38 Try.runUnderlying9 Try.zeroValue24 (List.mem_append_right _ (.tail _ (.tail _ (List.mem_append_right _ hrv))))) (by rw [hvs]; rfl)) rfl ?_
          refine g_q (qv_move rfl) rfl ?_
          refine g_q (qv_extract rfl rfl) rfl ?_
          refine g_q (qv_extract rfl rfl) rfl ?_
          refine g_q (qv_assign rfl) rfl ?_
          refine g_q (qv_assign rfl) rfl ?_
          refine g_nil ?_
          exact e_mid (L' := [(0, ptr bd), (4, ptr bg), (5, .bool true), (6, ptr bs)]) ⟨rfl, rfl, rfl, rfl, trivial⟩ ⟨_, _, rfl, Or.inr ⟨bs, ts, ms, rfl, rfl, hts, hrs, hms⟩, rfl⟩
      · rintro _ _ ⟨x, y, rfl, hxy, rfl⟩
        refine c_cut (fun L' M' => ∃ bs ts ms N, L' = [(0, ptr bd), (4, ptr bg), (6, ptr bs)] ∧ glob De = ts ∧ RepS n ts (ptr bs) ms ∧ (∀ x, x ∈ ms → x ∈ F ++ N) ∧ M' = mg ++ ((bd, tcell rd) :: (rd, kvd.obj) :: (mr ++ (F ++ N)))) ?_ ?_
        · rcases hxy with ⟨rfl, rfl, htn⟩ | ⟨bs, ts, ms, rfl, rfl, hts, hrs, hms⟩
          · refine c_seq ?_
            refine c_region ?_
            refine g_q (qv_move rfl) rfl ?_
            refine g_q (qv_not rfl) rfl ?_
            refine g_nil ?_
            refine e_seq ?_
            refine c_true rfl ?_
            refine c_region ?_
            refine g_i (iv_call (vs := []) Try.call16 trivial (new_any n _)) rfl ?_
            rintro _ _ ⟨N, rfl, hrs⟩
            refine g_q (qv_assign rfl) rfl ?_
            refine g_nil ?_
            obtain ⟨bs, _, _, _, _, _, _, rfl, _⟩ := hrs.kind
            refine e_to (M' := mg ++ ((bd, tcell rd) :: (rd, kvd.obj) :: (mr ++ (F ++ N)))) (fun f => by simp only [List.map_cons, List.sum_cons, List.map_append, List.sum_append]; omega) ?_
            exact e_mid (L' := [(0, ptr bd), (4, ptr bg), (6, ptr bs)]) ⟨rfl, rfl, rfl, trivial⟩ ⟨bs, _, N, N, rfl, by unfold glob; rw [htn]; rfl, hrs, fun x hx => List.mem_append_right _ hx, rfl⟩
          · refine c_seq ?_
            refine c_region ?_
            refine g_q (qv_move rfl) rfl ?_
            refine g_q (qv_not rfl) rfl ?_
            refine g_nil ?_
            refine e_seq ?_
            refine c_false rfl ?_
            refine c_skip ?_
            refine e_to (M' := mg ++ ((bd, tcell rd) :: (rd, kvd.obj) :: (mr ++ (F ++ [])))) (fun f => by simp only [List.map_cons, List.sum_cons, List.map_append, List.sum_append, List.map_nil, List.sum_nil]; omega) ?_
            exact e_mid (L' := [(0, ptr bd), (4, ptr bg), (6, ptr bs)]) ⟨rfl, rfl, rfl, trivial⟩ ⟨bs, ts, ms, [], rfl, by unfold glob; rw [hts]; rfl, hrs, fun x hx => List.mem_append_left _ (hms x hx), rfl⟩
        · rintro _ _ ⟨bs, ts, ms, N, rfl, hgs, hrs, hms, rfl⟩
          refine c_seq ?_
          refine c_seq ?_
          by_cases htg : ∃ dg, tg = .tab dg
          · obtain ⟨dg, rfl⟩ := htg
            obtain ⟨bg2, rg, kvg, gts, mgk, e, hokg, hpg, hkg, rfl⟩ := hrg.tab
            cases e
            by_cases hts : ∃ sg, ts = .tab sg
            · obtain ⟨sg, rfl⟩ := hts
              obtain ⟨bs2, rs, kvs, sts, mks, e, hoks, hps, hks, rfl⟩ := hrs.tab
              cases e
              have hbs := hms _ m0
              have hrsm := hms _ m1
              have hmks : ∀ x, x ∈ mks → x ∈ F ++ N := fun x hx => hms x (.tail _ (.tail _ hx))
              refine c_region ?_
              refine g_q (qv_move rfl) rfl ?_
              refine g_q (qv_nil rfl) rfl ?_
              refine g_q (qv_field rfl Try.runUnderlying40 rfl Try.sizeOf3 rfl) rfl ?_
              refine g_q (qv_load (v := .int .i64 6) rfl Try.isAgg3 m0 rfl) rfl ?_
              refine g_q (QV.to (v' := .bool false) (qv_nei rfl rfl) rfl) rfl ?_
              refine g_q (qv_move rfl) rfl ?_
              refine g_on rfl rfl ?_
              refine g_q (qv_move rfl) rfl ?_
              refine g_on rfl rfl ?_
              refine g_q (qv_nil rfl) rfl ?_
              refine g_on rfl rfl ?_
              refine g_q (qv_field rfl Try.runUnderlying40 rfl Try.sizeOf3 rfl) rfl ?_
              refine g_on rfl rfl ?_
              refine g_q (qv_load (v := .int .i64 6) rfl Try.isAgg3 (.tail _ (.tail _ (List.mem_append_right _ (.tail _ (.tail _ (List.mem_append_right _ hbs)))))) rfl) rfl ?_
              refine g_on rfl rfl ?_
              refine g_q (QV.to (v' := .bool false) (qv_nei rfl rfl) rfl) rfl ?_
              refine g_q (qv_pick_f rfl rfl) rfl ?_
              refine g_nil ?_
              refine e_seq ?_
              refine c_false rfl ?_
              refine c_skip ?_
              refine e_seq ?_
              refine c_seq ?_
              refine c_seq ?_
              refine c_region ?_
              refine g_q (qv_move rfl) rfl ?_
              refine g_q (qv_nil rfl) rfl ?_
              refine g_q (qv_field rfl Try.runUnderlying40 rfl Try.sizeOf38 rfl) rfl ?_
              refine g_q (qv_load (v := .map (some rs)) rfl Try.isAgg38 (.tail _ (.tail _ (List.mem_append_right _ (.tail _ (.tail _ (List.mem_append_right _ hbs)))))) rfl) rfl ?_
              refine g_i (iv_range (m := kvs) rfl Try.runUnderlying38 (.tail _ (.tail _ (List.mem_append_right _ (.tail _ (.tail _ (List.mem_append_right _ hrsm))))))) rfl ?_
              rintro _ _ ⟨it, rfl, rfl⟩
              refine g_nil ?_
              refine e_seq ?_
              refine c_block ?_
              refine c_keep (L' := [(0, ptr bd), (4, ptr bg), (49, ptr it)]) ⟨rfl, rfl, rfl, trivial⟩ ?_
              refine c_loop (ι := Array Nat) (fun seen L M' => ∃ kvg gts mgk, L = [(0, ptr bd), (4, ptr bg), (49, ptr it)] ∧ KidsK (fun _ => RepS n) gts (KV.list kvg) mgk ∧ (∀ p, p ∈ gts → Nm p.1) ∧ GDone (fun k => dg.lookup k) (fun k => sg.lookup k) ((kvs.left seen).map (·.1)) gts ∧ M' = (it, iterObj rs kvs seen) :: (bg, tcell rg) :: (rg, kvg.obj) :: (mgk ++ ((bd, tcell rd) :: (rd, kvd.obj) :: (mr ++ (F ++ N))))) (fun seen => (kvs.left seen).length) #[] ⟨kvg, gts, mgk, rfl, hkg, fun p hp => hokg.2 p (hpg.mem_iff.1 hp), GDone.start (fun k => lookup_perm hpg (perm_keys_nodup hokg hpg) k) (fun k hk => ?_), rfl⟩ ?_
              · rw [KV.left_start] at hk
                rw [← lookup_perm hps (perm_keys_nodup hoks hps) k]
                refine lookup_none fun h => hk ?_
                rw [← hks.keys]
                exact h
              clear hkg hpg hrg hback0 gts
              rintro seen _ _ ⟨kvg, gts, mgk, rfl, hkg, hnm, hdone, rfl⟩
              refine c_seq ?_
              refine c_region ?_
              refine g_i (iv_next (i := 0) rfl rfl (.tail _ (.tail _ (.tail _ (List.mem_append_right _ (.tail _ (.tail _ (List.mem_append_right _ hrsm)))))))) rfl ?_
              rintro _ _ (⟨hl0, rfl, rfl⟩ | ⟨key, u, seen2, rfl, rfl, hperm2, hcur⟩)
              · refine g_q (qv_extract rfl rfl) rfl ?_
                refine g_nil ?_
                refine e_seq ?_
                refine c_seq ?_
                refine c_false rfl ?_
                refine c_exit ?_
                refine e_exit_then ?_
                refine e_exit_then ?_
                refine e_exit_block ?_
                refine e_seq ?_
                rw [hl0] at hdone
                refine c_to (M' := (bd, tcell rd) :: (rd, kvd.obj) :: (((bg, tcell rg) :: (rg, kvg.obj) :: mgk) ++ (mr ++ F))) (fun f => by simp only [List.map_cons, List.sum_cons, List.map_append, List.sum_append, List.cons_append]; omega) ?_
                refine c_region ?_
                refine g_q (qv_move rfl) rfl ?_
                refine g_q (qv_nil rfl) rfl ?_
                refine g_q (qv_field rfl Try.runUnderlying40 rfl Try.sizeOf38 rfl) rfl ?_
                refine g_q (qv_load (v := .map (some rd)) rfl Try.isAgg38 m0 rfl) rfl ?_
                refine g_q (qv_move rfl) rfl ?_
                refine g_i0 (iv_put (i := 1) (m := kvd) (k := kGlobal) rfl rfl rfl Try.runUnderlying38 Try.runUnderlying9 rfl) ?_
                rintro _ _ rfl
                refine g_nil ?_
                obtain ⟨hg4, hokgg, hlgg⟩ := RepS.mkK (b := bg) (r := rg) hkg hnm
                obtain ⟨dts2, m2', hk2, hl2, hn2, hf2⟩ := hback (n + 1) (Nat.le_succ n) _ _ _ hg4
                obtain ⟨hg5, hokr, hlr⟩ := RepS.mkK (b := bd) (r := rd) (kv := kvd.put kGlobal (ptr bg)) (by rw [KV.list_put]; exact hk2) (fun p hp => (hn2 p hp).elim (fun e => by rw [e]; exact hnmg) (fun ⟨q, hq, e⟩ => by rw [← e]; exact hnmd q hq))
                refine e_to (M' := ((bd, tcell rd) :: (rd, (kvd.put kGlobal (ptr bg)).obj) :: m2') ++ F) (fun f => by have h1 := hf2 f; simp only [List.set_cons_succ, List.set_cons_zero, List.map_cons, List.sum_cons, List.map_append, List.sum_append, List.cons_append] at h1 ⊢; omega) (e_ret0 (.inr rfl) Try.results33 ?_)
                exact ⟨_, _, _, hg5, hokr, Or.inl ⟨dg, sg, _, hgl, hgs, hokgg, fun k => by rw [hlgg]; exact hdone.done k, fun k => by rw [hlr, hl2, ← hdl]⟩, rfl⟩
              · have hmu : (kvs.left seen2).length < (kvs.left seen).length := by
                  rw [hperm2.length_eq]
                  exact Nat.lt_succ_self _
                have hpl := hperm2.map (·.1)
                have hndl := left_nodup kvs seen
                rcases hks.lookup key with ⟨_, h2⟩ | ⟨tu, u2, mu, hst, h2, hru, hmu1⟩
                · rw [KV.lookup_cur hcur] at h2; cases h2
                have e := KV.lookup_cur hcur
                rw [h2] at e
                cases e
                have hs0 : sg.lookup key = some tu := by rw [← lookup_perm hps (perm_keys_nodup hoks hps) key]; exact hst
                have hnk : Nm key := hoks.2 _ (mem_of_lookup hs0)
                obtain ⟨bu, ou, mmu, rfl, rfl, hou⟩ := hru.notab
                have hmu2 : ∀ x, x ∈ (bu, Obj.cells ou 40 (0, 0)) :: mmu → x ∈ F ++ N := fun x hx => hmks x (hmu1 x hx)
                have hd0 : gts.lookup key = dg.lookup key := hdone.here (hpl.mem_iff.2 List.mem_cons_self)
                obtain ⟨mv2, mr2, hfm, hcase2, hback2⟩ := spec_hole key hkg kvg.nodup
                refine g_q (qv_extract rfl rfl) rfl ?_
                refine g_nil ?_
                refine e_seq ?_
                refine c_seq ?_
                refine c_true rfl ?_
                refine c_skip ?_
                refine e_seq ?_
                refine c_block ?_
                refine c_seq ?_
                refine c_region ?_
                refine g_q (qv_entry (k := key) (v := ptr bu) rfl m0 (.tail _ (.tail _ (.tail _ (List.mem_append_right _ (.tail _ (.tail _ (List.mem_append_right _ hrsm))))))) hcur) rfl ?_
                refine g_q (qv_extract rfl rfl) rfl ?_
                refine g_q (qv_extract rfl rfl) rfl ?_
                refine g_q (qv_assign rfl) rfl ?_
                refine g_q (qv_assign rfl) rfl ?_
                refine g_nil ?_
                refine e_seq ?_
                by_cases htu : ∃ es, tu = .tab es
                · obtain ⟨es, rfl⟩ := htu
                  have hku : kindT (.tab es) = 6 := rfl
                  rcases hcase2 with ⟨htn, hvn, rfl, rfl⟩ | ⟨t, bw, hts, hvs, hrw⟩
                  · refine c_seq ?_
                    refine c_region ?_
                    refine g_q (qv_move rfl) rfl ?_
                    refine g_q (qv_nil rfl) rfl ?_
                    refine g_q (qv_field rfl Try.runUnderlying40 rfl Try.sizeOf38 rfl) rfl ?_
                    refine g_q (qv_load (v := .map (some rg)) rfl Try.isAgg38 m1 rfl) rfl ?_
                    refine g_q (qv_move rfl) rfl ?_
                    refine g_q (QV.to (v' := .tuple #[.pointer none, .bool false]) (qv_lookup2 (m := kvg) (k := key) rfl rfl Try.runUnderlying38 Try.runUnderlying9 Try.zeroValue24 m2) (by rw [hvn]; rfl)) rfl ?_
                    refine g_q (qv_move rfl) rfl ?_
                    refine g_q (qv_extract rfl rfl) rfl ?_
                    refine g_q (qv_extract rfl rfl) rfl ?_
                    refine g_q (qv_assign rfl) rfl ?_
                    refine g_q (qv_assign rfl) rfl ?_
                    refine g_nil ?_
                    refine e_seq ?_
                    refine c_block ?_
                    refine c_seq ?_
                    refine c_region ?_
                    refine g_q (qv_move rfl) rfl ?_
                    refine g_q (qv_nil rfl) rfl ?_
                    refine g_q (qv_field rfl Try.runUnderlying40 rfl Try.sizeOf3 rfl) rfl ?_
                    refine g_q (qv_load (v := .int .i64 (kindT (.tab es))) rfl Try.isAgg3 (.tail _ (.tail _ (.tail _ (List.mem_append_right _ (.tail _ (.tail _ (List.mem_append_right _ (hmu2 _ m0)))))))) hou) rfl ?_
                    refine g_q (QV.to (v' := .bool true) (qv_eqi rfl rfl) (by rw [decide_eq_true hku])) rfl ?_
                    refine g_q (qv_move rfl) rfl ?_
                    refine g_on rfl rfl ?_
                    refine g_q (qv_move rfl) rfl ?_
                    refine g_on rfl rfl ?_
                    refine g_q (qv_not rfl) rfl ?_
                    refine g_q (qv_pick_t rfl rfl) rfl ?_
                    refine g_q (qv_assign rfl) rfl ?_
                    refine g_nil ?_
                    refine e_seq ?_
                    refine c_true rfl ?_
                    refine c_draw [(bg, tcell rg)] (fun i => !(i == 7)) Try.mixed ?_
                    refine d_takeW 0 rfl (by kernel_rfl) (by kernel_rfl) (by kernel_rfl) rfl (fun _ => qv_move rfl) ?_
                    refine d_takeW 1 rfl (by kernel_rfl) (by kernel_rfl) (by kernel_rfl) rfl (fun _ => qv_nil rfl) ?_
                    refine d_takeW 2 rfl (by kernel_rfl) (by kernel_rfl) (by kernel_rfl) rfl (fun _ => qv_field rfl Try.runUnderlying40 rfl Try.sizeOf38 rfl) ?_
                    refine d_take 3 rfl (by kernel_rfl) (by kernel_rfl) (by kernel_rfl) (by kernel_rfl) rfl (qv_load (v := .map (some rg)) rfl Try.isAgg38 m0 rfl) (fun x hx => by rw [List.mem_singleton.1 hx]; exact m1) ?_
                    refine d_takeW 4 rfl (by kernel_rfl) (by kernel_rfl) (by kernel_rfl) rfl (fun _ => qv_move rfl) ?_
                    refine d_takeW 5 rfl (by kernel_rfl) (by kernel_rfl) (by kernel_rfl) rfl (fun _ => qv_move rfl) ?_
                    refine d_run 6 rfl (by kernel_rfl) rfl (iv_call (vs := [ptr bu]) Try.call21 ⟨rfl, trivial⟩ (copy_any n (.tab es) (ptr bu) _ _ hru (fun x hx => (.tail _ (.tail _ (.tail _ (List.mem_append_right _ (.tail _ (.tail _ (List.mem_append_right _ (hmu2 x hx))))))))))) (by rintro _ _ ⟨m', _, rfl⟩ _ x hx; rw [List.mem_singleton.1 hx]; exact m1) ?_
                    rintro d1 _ ⟨m1', hd1, rfl⟩
                    refine d_run0 7 rfl (by kernel_rfl) (iv_put (i := 2) (m := kvg) rfl rfl rfl Try.runUnderlying38 Try.runUnderlying9 rfl) (fun _ _ _ h => by cases h) ?_
                    rintro _ _ rfl
                    refine d_done (by kernel_rfl) ?_
                    refine e_normal_block ?_
                    refine e_normal_block ?_
                    obtain ⟨gts2, m2', hk2, hl2, hn2, hf2⟩ := hback2 n (Nat.le_refl n) _ _ _ hd1
                    refine e_to (M' := (it, iterObj rs kvs seen2) :: (bg, tcell rg) :: (rg, (kvg.put key d1).obj) :: (m2' ++ ((bd, tcell rd) :: (rd, kvd.obj) :: (mr ++ (F ++ N))))) (fun f => by have h1 := hf2 f; have h2 := hfm f; simp only [List.set_cons_succ, List.set_cons_zero, List.nil_append, List.map_cons, List.sum_cons, List.map_append, List.sum_append, List.cons_append] at h1 h2 ⊢; omega) ?_
                    exact e_again seen2 hmu (L' := [(0, ptr bd), (4, ptr bg), (49, ptr it)]) ⟨rfl, rfl, rfl, trivial⟩ ⟨kvg.put key d1, gts2, m2', rfl, (by rw [KV.list_put]; exact hk2), (fun p hp => (hn2 p hp).elim (fun e => by rw [e]; exact hnk) (fun ⟨q, hq, e⟩ => by rw [← e]; exact hnm q hq)), (hdone.step hpl hndl hl2 (by rw [← hd0, htn, hs0]; exact GVal.new es)), rfl⟩
                  · obtain ⟨bw2, ow, mmw, e, rfl, how⟩ := hrw.notab
                    cases e
                    have hmw : ∀ x, x ∈ (bw, Obj.cells ow 40 (0, 0)) :: mmw → x ∈ mgk := fun x hx => hfm.mem (List.mem_append_left _ hx)
                    refine c_seq ?_
                    refine c_region ?_
                    refine g_q (qv_move rfl) rfl ?_
                    refine g_q (qv_nil rfl) rfl ?_
                    refine g_q (qv_field rfl Try.runUnderlying40 rfl Try.sizeOf38 rfl) rfl ?_
                    refine g_q (qv_load (v := .map (some rg)) rfl Try.isAgg38 m1 rfl) rfl ?_
                    refine g_q (qv_move rfl) rfl ?_
                    refine g_q (QV.to (v' := .tuple #[ptr bw, .bool true]) (qv_lookup2 (m := kvg) (k := key) rfl rfl Try.runUnderlying38 Try.runUnderlying9 Try.zeroValue24 m2) (by rw [hvs]; rfl)) rfl ?_
                    refine g_q (qv_move rfl) rfl ?_
                    refine g_q (qv_extract rfl rfl) rfl ?_
                    refine g_q (qv_extract rfl rfl) rfl ?_
                    refine g_q (qv_assign rfl) rfl ?_
                    refine g_q (qv_assign rfl) rfl ?_
                    refine g_nil ?_
                    refine e_seq ?_
                    refine c_block ?_
                    refine c_seq ?_
                    refine c_region ?_
                    refine g_q (qv_move rfl) rfl ?_
                    refine g_q (qv_nil rfl) rfl ?_
                    refine g_q (qv_field rfl Try.runUnderlying40 rfl Try.sizeOf3 rfl) rfl ?_
                    refine g_q (qv_load (v := .int .i64 (kindT (.tab es))) rfl Try.isAgg3 (.tail _ (.tail _ (.tail _ (List.mem_append_right _ (.tail _ (.tail _ (List.mem_append_right _ (hmu2 _ m0)))))))) hou) rfl ?_
                    refine g_q (QV.to (v' := .bool true) (qv_eqi rfl rfl) (by rw [decide_eq_true hku])) rfl ?_
                    refine g_q (qv_move rfl) rfl ?_
                    refine g_on rfl rfl ?_
                    refine g_q (qv_move rfl) rfl ?_
                    refine g_on rfl rfl ?_
                    refine g_q (qv_not rfl) rfl ?_
                    refine g_q (qv_pick_t rfl rfl) rfl ?_
                    refine g_q (qv_assign rfl) rfl ?_
                    refine g_nil ?_
                    refine e_seq ?_
                    refine c_false rfl ?_
                    refine c_seq ?_
                    refine c_region ?_
                    refine g_q (qv_move rfl) rfl ?_
                    refine g_q (qv_nil rfl) rfl ?_
                    refine g_q (qv_field rfl Try.runUnderlying40 rfl Try.sizeOf3 rfl) rfl ?_
                    refine g_q (qv_load (v := .int .i64 (kindT (.tab es))) rfl Try.isAgg3 (.tail _ (.tail _ (.tail _ (List.mem_append_right _ (.tail _ (.tail _ (List.mem_append_right _ (hmu2 _ m0)))))))) hou) rfl ?_
                    refine g_q (QV.to (v' := .bool true) (qv_eqi rfl rfl) (by rw [decide_eq_true hku])) rfl ?_
                    refine g_q (qv_assign rfl) rfl ?_
                    refine g_nil ?_
                    refine e_seq ?_
                    refine c_true rfl ?_
                    by_cases htw : ∃ ew, t = .tab ew
                    · obtain ⟨ew, rfl⟩ := htw
                      have hkw : kindT (.tab ew) = 6 := rfl
                      refine c_seq ?_
                      refine c_region ?_
                      refine g_q (qv_move rfl) rfl ?_
                      refine g_q (qv_nil rfl) rfl ?_
                      refine g_q (qv_field rfl Try.runUnderlying40 rfl Try.sizeOf3 rfl) rfl ?_
                      refine g_q (qv_load (v := .int .i64 (kindT (.tab ew))) rfl Try.isAgg3 (.tail _ (.tail _ (.tail _ (List.mem_append_left _ (hmw _ m0))))) how) rfl ?_
                      refine g_q (QV.to (v' := .bool true) (qv_eqi rfl rfl) (by rw [decide_eq_true hkw])) rfl ?_
                      refine g_nil ?_
                      refine e_seq ?_
                      refine c_true rfl ?_
                      refine c_draw [(bg, tcell rg)] (fun i => !(i == 8)) Try.mixed ?_
                      refine d_takeW 0 rfl (by kernel_rfl) (by kernel_rfl) (by kernel_rfl) rfl (fun _ => qv_move rfl) ?_
                      refine d_takeW 1 rfl (by kernel_rfl) (by kernel_rfl) (by kernel_rfl) rfl (fun _ => qv_nil rfl) ?_
                      refine d_takeW 2 rfl (by kernel_rfl) (by kernel_rfl) (by kernel_rfl) rfl (fun _ => qv_field rfl Try.runUnderlying40 rfl Try.sizeOf38 rfl) ?_
                      refine d_take 3 rfl (by kernel_rfl) (by kernel_rfl) (by kernel_rfl) (by kernel_rfl) rfl (qv_load (v := .map (some rg)) rfl Try.isAgg38 m0 rfl) (fun x hx => by rw [List.mem_singleton.1 hx]; exact m1) ?_
                      refine d_takeW 4 rfl (by kernel_rfl) (by kernel_rfl) (by kernel_rfl) rfl (fun _ => qv_move rfl) ?_
                      refine d_takeW 5 rfl (by kernel_rfl) (by kernel_rfl) (by kernel_rfl) rfl (fun _ => qv_move rfl) ?_
                      refine d_takeW 6 rfl (by kernel_rfl) (by kernel_rfl) (by kernel_rfl) rfl (fun _ => qv_move rfl) ?_
                      refine d_run 7 rfl (by kernel_rfl) rfl (iv_call (vs := [ptr bu, ptr bw, .bool true]) Try.call18 ⟨rfl, rfl, rfl, trivial⟩ (coalesced_any n es ew (ptr bu) (ptr bw) _ _ true _ hru hrw (fun x hx => (.tail _ (.tail _ (.tail _ (List.mem_append_right _ (.tail _ (.tail _ (List.mem_append_right _ (hmu2 x hx))))))))) (fun x hx => .tail _ (.tail _ (.tail _ (List.mem_append_left _ (hmw x hx))))))) (by rintro _ _ ⟨_, m', _, _, rfl⟩ _ x hx; rw [List.mem_singleton.1 hx]; exact m1) ?_
                      rintro d1 _ ⟨re2, m1', hd1, hco2, rfl⟩
                      refine d_run0 8 rfl (by kernel_rfl) (iv_put (i := 2) (m := kvg) rfl rfl rfl Try.runUnderlying38 Try.runUnderlying9 rfl) (fun _ _ _ h => by cases h) ?_
                      rintro _ _ rfl
                      refine d_done (by kernel_rfl) ?_
                      refine e_normal_block ?_
                      refine e_normal_block ?_
                      obtain ⟨gts2, m2', hk2, hl2, hn2, hf2⟩ := hback2 n (Nat.le_refl n) _ _ _ hd1
                      refine e_to (M' := (it, iterObj rs kvs seen2) :: (bg, tcell rg) :: (rg, (kvg.put key d1).obj) :: (m2' ++ ((bd, tcell rd) :: (rd, kvd.obj) :: (mr ++ (F ++ N))))) (fun f => by have h1 := hf2 f; have h2 := hfm f; simp only [List.set_cons_succ, List.set_cons_zero, List.map_cons, List.sum_cons, List.map_append, List.sum_append, List.cons_append] at h1 h2 ⊢; omega) ?_
                      exact e_again seen2 hmu (L' := [(0, ptr bd), (4, ptr bg), (49, ptr it)]) ⟨rfl, rfl, rfl, trivial⟩ ⟨kvg.put key d1, gts2, m2', rfl, (by rw [KV.list_put]; exact hk2), (fun p hp => (hn2 p hp).elim (fun e => by rw [e]; exact hnk) (fun ⟨q, hq, e⟩ => by rw [← e]; exact hnm q hq)), (hdone.step hpl hndl hl2 (by rw [← hd0, hts, hs0]; exact GVal.both ew es re2 hd1.ok hco2)), rfl⟩
                    · have hntw : ∀ es, t ≠ .tab es := fun es e => htw ⟨es, e⟩
                      have hkw : kindT t ≠ 6 := kind_ne hntw
                      refine c_seq ?_
                      refine c_region ?_
                      refine g_q (qv_move rfl) rfl ?_
                      refine g_q (qv_nil rfl) rfl ?_
                      refine g_q (qv_field rfl Try.runUnderlying40 rfl Try.sizeOf3 rfl) rfl ?_
                      refine g_q (qv_load (v := .int .i64 (kindT t)) rfl Try.isAgg3 (.tail _ (.tail _ (.tail _ (List.mem_append_left _ (hmw _ m0))))) how) rfl ?_
                      refine g_q (QV.to (v' := .bool false) (qv_eqi rfl rfl) (by rw [decide_eq_false hkw])) rfl ?_
                      refine g_nil ?_
                      refine e_seq ?_
                      refine c_false rfl ?_
                      refine c_skip ?_
                      refine e_normal_block ?_
                      refine e_normal_block ?_
                      refine e_to (M' := (it, iterObj rs kvs seen2) :: (bg, tcell rg) :: (rg, kvg.obj) :: (mgk ++ ((bd, tcell rd) :: (rd, kvd.obj) :: (mr ++ (F ++ N))))) (fun f => by simp only [List.set_cons_zero, List.map_cons, List.sum_cons, List.map_append, List.sum_append]; omega) ?_
                      exact e_again seen2 hmu (L' := [(0, ptr bd), (4, ptr bg), (49, ptr it)]) ⟨rfl, rfl, rfl, trivial⟩ ⟨kvg, gts, mgk, rfl, hkg, hnm, (hdone.step hpl hndl (c := some t) (fun k' => same_lookup hts k') (by rw [← hd0, hts, hs0]; exact GVal.clash t es hntw)), rfl⟩
                · have hnt : ∀ es, tu ≠ .tab es := fun es e => htu ⟨es, e⟩
                  have hku : kindT tu ≠ 6 := kind_ne hnt
                  rcases hcase2 with ⟨htn, hvn, rfl, rfl⟩ | ⟨t, bw, hts, hvs, hrw⟩
                  · refine c_seq ?_
                    refine c_region ?_
                    refine g_q (qv_move rfl) rfl ?_
                    refine g_q (qv_nil rfl) rfl ?_
                    refine g_q (qv_field rfl Try.runUnderlying40 rfl Try.sizeOf38 rfl) rfl ?_
                    refine g_q (qv_load (v := .map (some rg)) rfl Try.isAgg38 m1 rfl) rfl ?_
                    refine g_q (qv_move rfl) rfl ?_
                    refine g_q (QV.to (v' := .tuple #[.pointer none, .bool false]) (qv_lookup2 (m := kvg) (k := key) rfl rfl Try.runUnderlying38 Try.runUnderlying9 Try.zeroValue24 m2) (by rw [hvn]; rfl)) rfl ?_
                    refine g_q (qv_move rfl) rfl ?_
                    refine g_q (qv_extract rfl rfl) rfl ?_
                    refine g_q (qv_extract rfl rfl) rfl ?_
                    refine g_q (qv_assign rfl) rfl ?_
                    refine g_q (qv_assign rfl) rfl ?_
                    refine g_nil ?_
                    refine e_seq ?_
                    refine c_block ?_
                    refine c_seq ?_
                    refine c_region ?_
                    refine g_q (qv_move rfl) rfl ?_
                    refine g_q (qv_nil rfl) rfl ?_
                    refine g_q (qv_field rfl Try.runUnderlying40 rfl Try.sizeOf3 rfl) rfl ?_
                    refine g_q (qv_load (v := .int .i64 (kindT tu)) rfl Try.isAgg3 (.tail _ (.tail _ (.tail _ (List.mem_append_right _ (.tail _ (.tail _ (List.mem_append_right _ (hmu2 _ m0)))))))) hou) rfl ?_
                    refine g_q (QV.to (v' := .bool false) (qv_eqi rfl rfl) (by rw [decide_eq_false hku])) rfl ?_
                    refine g_q (qv_move rfl) rfl ?_
                    refine g_off rfl rfl rfl rfl ?_
                    refine g_off rfl rfl rfl rfl ?_
                    refine g_q (qv_pick_f rfl rfl) rfl ?_
                    refine g_q (qv_assign rfl) rfl ?_
                    refine g_nil ?_
                    refine e_seq ?_
                    refine c_false rfl ?_
                    refine c_seq ?_
                    refine c_region ?_
                    refine g_q (qv_move rfl) rfl ?_
                    refine g_q (qv_nil rfl) rfl ?_
                    refine g_q (qv_field rfl Try.runUnderlying40 rfl Try.sizeOf3 rfl) rfl ?_
                    refine g_q (qv_load (v := .int .i64 (kindT tu)) rfl Try.isAgg3 (.tail _ (.tail _ (.tail _ (List.mem_append_right _ (.tail _ (.tail _ (List.mem_append_right _ (hmu2 _ m0)))))))) hou) rfl ?_
                    refine g_q (QV.to (v' := .bool false) (qv_eqi rfl rfl) (by rw [decide_eq_false hku])) rfl ?_
                    refine g_q (qv_assign rfl) rfl ?_
                    refine g_nil ?_
                    refine e_seq ?_
                    refine c_false rfl ?_
                    refine c_seq ?_
                    refine c_region ?_
                    refine g_q (qv_move rfl) rfl ?_
                    refine g_q (qv_not rfl) rfl ?_
                    refine g_q (qv_move rfl) rfl ?_
                    refine g_off rfl rfl rfl rfl ?_
                    refine g_off rfl rfl rfl rfl ?_
                    refine g_off rfl rfl rfl rfl ?_
                    refine g_off rfl rfl rfl rfl ?_
                    refine g_off rfl rfl rfl rfl ?_
                    refine g_q (qv_pick_t rfl rfl) rfl ?_
                    refine g_q (qv_assign rfl) rfl ?_
                    refine g_nil ?_
                    refine e_seq ?_
                    refine c_true rfl ?_
                    refine c_draw [(bg, tcell rg)] (fun i => !(i == 7)) Try.mixed ?_
                    refine d_takeW 0 rfl (by kernel_rfl) (by kernel_rfl) (by kernel_rfl) rfl (fun _ => qv_move rfl) ?_
                    refine d_takeW 1 rfl (by kernel_rfl) (by kernel_rfl) (by kernel_rfl) rfl (fun _ => qv_nil rfl) ?_
                    refine d_takeW 2 rfl (by kernel_rfl) (by kernel_rfl) (by kernel_rfl) rfl (fun _ => qv_field rfl Try.runUnderlying40 rfl Try.sizeOf38 rfl) ?_
                    refine d_take 3 rfl (by kernel_rfl) (by kernel_rfl) (by kernel_rfl) (by kernel_rfl) rfl (qv_load (v := .map (some rg)) rfl Try.isAgg38 m0 rfl) (fun x hx => by rw [List.mem_singleton.1 hx]; exact m1) ?_
                    refine d_takeW 4 rfl (by kernel_rfl) (by kernel_rfl) (by kernel_rfl) rfl (fun _ => qv_move rfl) ?_
                    refine d_takeW 5 rfl (by kernel_rfl) (by kernel_rfl) (by kernel_rfl) rfl (fun _ => qv_move rfl) ?_
                    refine d_run 6 rfl (by kernel_rfl) rfl (iv_call (vs := [ptr bu]) Try.call21 ⟨rfl, trivial⟩ (copy_any n tu (ptr bu) _ _ hru (fun x hx => (.tail _ (.tail _ (.tail _ (List.mem_append_right _ (.tail _ (.tail _ (List.mem_append_right _ (hmu2 x hx))))))))))) (by rintro _ _ ⟨m', _, rfl⟩ _ x hx; rw [List.mem_singleton.1 hx]; exact m1) ?_
                    rintro d1 _ ⟨m1', hd1, rfl⟩
                    refine d_run0 7 rfl (by kernel_rfl) (iv_put (i := 2) (m := kvg) rfl rfl rfl Try.runUnderlying38 Try.runUnderlying9 rfl) (fun _ _ _ h => by cases h) ?_
                    rintro _ _ rfl
                    refine d_done (by kernel_rfl) ?_
                    refine e_normal_block ?_
                    refine e_normal_block ?_
                    obtain ⟨gts2, m2', hk2, hl2, hn2, hf2⟩ := hback2 n (Nat.le_refl n) _ _ _ hd1
                    refine e_to (M' := (it, iterObj rs kvs seen2) :: (bg, tcell rg) :: (rg, (kvg.put key d1).obj) :: (m2' ++ ((bd, tcell rd) :: (rd, kvd.obj) :: (mr ++ (F ++ N))))) (fun f => by have h1 := hf2 f; have h2 := hfm f; simp only [List.set_cons_succ, List.set_cons_zero, List.nil_append, List.map_cons, List.sum_cons, List.map_append, List.sum_append, List.cons_append] at h1 h2 ⊢; omega) ?_
                    exact e_again seen2 hmu (L' := [(0, ptr bd), (4, ptr bg), (49, ptr it)]) ⟨rfl, rfl, rfl, trivial⟩ ⟨kvg.put key d1, gts2, m2', rfl, (by rw [KV.list_put]; exact hk2), (fun p hp => (hn2 p hp).elim (fun e => by rw [e]; exact hnk) (fun ⟨q, hq, e⟩ => by rw [← e]; exact hnm q hq)), (hdone.step hpl hndl hl2 (by rw [← hd0, htn, hs0]; exact GVal.set none tu hnt (fun _ e => by cases e))), rfl⟩
                  · obtain ⟨bw2, ow, mmw, e, rfl, how⟩ := hrw.notab
                    cases e
                    have hmw : ∀ x, x ∈ (bw, Obj.cells ow 40 (0, 0)) :: mmw → x ∈ mgk := fun x hx => hfm.mem (List.mem_append_left _ hx)
                    refine c_seq ?_
                    refine c_region ?_
                    refine g_q (qv_move rfl) rfl ?_
                    refine g_q (qv_nil rfl) rfl ?_
                    refine g_q (qv_field rfl Try.runUnderlying40 rfl Try.sizeOf38 rfl) rfl ?_
                    refine g_q (qv_load (v := .map (some rg)) rfl Try.isAgg38 m1 rfl) rfl ?_
                    refine g_q (qv_move rfl) rfl ?_
                    refine g_q (QV.to (v' := .tuple #[ptr bw, .bool true]) (qv_lookup2 (m := kvg) (k := key) rfl rfl Try.runUnderlying38 Try.runUnderlying9 Try.zeroValue24 m2) (by rw [hvs]; rfl)) rfl ?_
                    refine g_q (qv_move rfl) rfl ?_
                    refine g_q (qv_extract rfl rfl) rfl ?_
                    refine g_q (qv_extract rfl rfl) rfl ?_
                    refine g_q (qv_assign rfl) rfl ?_
                    refine g_q (qv_assign rfl) rfl ?_
                    refine g_nil ?_
                    refine e_seq ?_
                    refine c_block ?_
                    refine c_seq ?_
                    refine c_region ?_
                    refine g_q (qv_move rfl) rfl ?_
                    refine g_q (qv_nil rfl) rfl ?_
                    refine g_q (qv_field rfl Try.runUnderlying40 rfl Try.sizeOf3 rfl) rfl ?_
                    refine g_q (qv_load (v := .int .i64 (kindT tu)) rfl Try.isAgg3 (.tail _ (.tail _ (.tail _ (List.mem_append_right _ (.tail _ (.tail _ (List.mem_append_right _ (hmu2 _ m0)))))))) hou) rfl ?_
                    refine g_q (QV.to (v' := .bool false) (qv_eqi rfl rfl) (by rw [decide_eq_false hku])) rfl ?_
                    refine g_q (qv_move rfl) rfl ?_
                    refine g_off rfl rfl rfl rfl ?_
                    refine g_off rfl rfl rfl rfl ?_
                    refine g_q (qv_pick_f rfl rfl) rfl ?_
                    refine g_q (qv_assign rfl) rfl ?_
                    refine g_nil ?_
                    refine e_seq ?_
                    refine c_false rfl ?_
                    refine c_seq ?_
                    refine c_region ?_
                    refine g_q (qv_move rfl) rfl ?_
                    refine g_q (qv_nil rfl) rfl ?_
                    refine g_q (qv_field rfl Try.runUnderlying40 rfl Try.sizeOf3 rfl) rfl ?_
                    refine g_q (qv_load (v := .int .i64 (kindT tu)) rfl Try.isAgg3 (.tail _ (.tail _ (.tail _ (List.mem_append_right _ (.tail _ (.tail _ (List.mem_append_right _ (hmu2 _ m0)))))))) hou) rfl ?_
                    refine g_q (QV.to (v' := .bool false) (qv_eqi rfl rfl) (by rw [decide_eq_false hku])) rfl ?_
                    refine g_q (qv_assign rfl) rfl ?_
                    refine g_nil ?_
                    refine e_seq ?_
                    refine c_false rfl ?_
                    by_cases htw : ∃ ew, t = .tab ew
                    · obtain ⟨ew, rfl⟩ := htw
                      have hkw : kindT (.tab ew) = 6 := rfl
                      refine c_seq ?_
                      refine c_region ?_
                      refine g_q (qv_move rfl) rfl ?_
                      refine g_q (qv_not rfl) rfl ?_
                      refine g_q (qv_move rfl) rfl ?_
                      refine g_on rfl rfl ?_
                      refine g_q (qv_move rfl) rfl ?_
                      refine g_on rfl rfl ?_
                      refine g_q (qv_nil rfl) rfl ?_
                      refine g_on rfl rfl ?_
                      refine g_q (qv_field rfl Try.runUnderlying40 rfl Try.sizeOf3 rfl) rfl ?_
                      refine g_on rfl rfl ?_
                      refine g_q (qv_load (v := .int .i64 (kindT (.tab ew))) rfl Try.isAgg3 (.tail _ (.tail _ (.tail _ (List.mem_append_left _ (hmw _ m0))))) how) rfl ?_
                      refine g_on rfl rfl ?_
                      refine g_q (QV.to (v' := .bool false) (qv_nei rfl rfl) (by rw [decide_eq_true hkw]; rfl)) rfl ?_
                      refine g_q (qv_pick_f rfl rfl) rfl ?_
                      refine g_q (qv_assign rfl) rfl ?_
                      refine g_nil ?_
                      refine e_seq ?_
                      refine c_false rfl ?_
                      refine c_skip ?_
                      refine e_normal_block ?_
                      refine e_normal_block ?_
                      refine e_to (M' := (it, iterObj rs kvs seen2) :: (bg, tcell rg) :: (rg, kvg.obj) :: (mgk ++ ((bd, tcell rd) :: (rd, kvd.obj) :: (mr ++ (F ++ N))))) (fun f => by simp only [List.set_cons_zero, List.map_cons, List.sum_cons, List.map_append, List.sum_append]; omega) ?_
                      exact e_again seen2 hmu (L' := [(0, ptr bd), (4, ptr bg), (49, ptr it)]) ⟨rfl, rfl, rfl, trivial⟩ ⟨kvg, gts, mgk, rfl, hkg, hnm, (hdone.step hpl hndl (c := some (.tab ew)) (fun k' => same_lookup hts k') (by rw [← hd0, hts, hs0]; exact GVal.kept ew tu hnt)), rfl⟩
                    · have hkw : kindT t ≠ 6 := kind_ne (fun es e => htw ⟨es, e⟩)
                      refine c_seq ?_
                      refine c_region ?_
                      refine g_q (qv_move rfl) rfl ?_
                      refine g_q (qv_not rfl) rfl ?_
                      refine g_q (qv_move rfl) rfl ?_
                      refine g_on rfl rfl ?_
                      refine g_q (qv_move rfl) rfl ?_
                      refine g_on rfl rfl ?_
                      refine g_q (qv_nil rfl) rfl ?_
                      refine g_on rfl rfl ?_
                      refine g_q (qv_field rfl Try.runUnderlying40 rfl Try.sizeOf3 rfl) rfl ?_
                      refine g_on rfl rfl ?_
                      refine g_q (qv_load (v := .int .i64 (kindT t)) rfl Try.isAgg3 (.tail _ (.tail _ (.tail _ (List.mem_append_left _ (hmw _ m0))))) how) rfl ?_
                      refine g_on rfl rfl ?_
                      refine g_q (QV.to (v' := .bool true) (qv_nei rfl rfl) (by rw [decide_eq_false hkw]; rfl)) rfl ?_
                      refine g_q (qv_pick_f rfl rfl) rfl ?_
                      refine g_q (qv_assign rfl) rfl ?_
                      refine g_nil ?_
                      refine e_seq ?_
                      refine c_true rfl ?_
                      refine c_draw [(bg, tcell rg)] (fun i => !(i == 7)) Try.mixed ?_
                      refine d_takeW 0 rfl (by kernel_rfl) (by kernel_rfl) (by kernel_rfl) rfl (fun _ => qv_move rfl) ?_
                      refine d_takeW 1 rfl (by kernel_rfl) (by kernel_rfl) (by kernel_rfl) rfl (fun _ => qv_nil rfl) ?_
                      refine d_takeW 2 rfl (by kernel_rfl) (by kernel_rfl) (by kernel_rfl) rfl (fun _ => qv_field rfl Try.runUnderlying40 rfl Try.sizeOf38 rfl) ?_
                      refine d_take 3 rfl (by kernel_rfl) (by kernel_rfl) (by kernel_rfl) (by kernel_rfl) rfl (qv_load (v := .map (some rg)) rfl Try.isAgg38 m0 rfl) (fun x hx => by rw [List.mem_singleton.1 hx]; exact m1) ?_
                      refine d_takeW 4 rfl (by kernel_rfl) (by kernel_rfl) (by kernel_rfl) rfl (fun _ => qv_move rfl) ?_
                      refine d_takeW 5 rfl (by kernel_rfl) (by kernel_rfl) (by kernel_rfl) rfl (fun _ => qv_move rfl) ?_
                      refine d_run 6 rfl (by kernel_rfl) rfl (iv_call (vs := [ptr bu]) Try.call21 ⟨rfl, trivial⟩ (copy_any n tu (ptr bu) _ _ hru (fun x hx => (.tail _ (.tail _ (.tail _ (List.mem_append_right _ (.tail _ (.tail _ (List.mem_append_right _ (hmu2 x hx))))))))))) (by rintro _ _ ⟨m', _, rfl⟩ _ x hx; rw [List.mem_singleton.1 hx]; exact m1) ?_
                      rintro d1 _ ⟨m1', hd1, rfl⟩
                      refine d_run0 7 rfl (by kernel_rfl) (iv_put (i := 2) (m := kvg) rfl rfl rfl Try.runUnderlying38 Try.runUnderlying9 rfl) (fun _ _ _ h => by cases h) ?_
                      rintro _ _ rfl
                      refine d_done (by kernel_rfl) ?_
                      refine e_normal_block ?_
                      refine e_normal_block ?_
                      obtain ⟨gts2, m2', hk2, hl2, hn2, hf2⟩ := hback2 n (Nat.le_refl n) _ _ _ hd1
                      refine e_to (M' := (it, iterObj rs kvs seen2) :: (bg, tcell rg) :: (rg, (kvg.put key d1).obj) :: (m2' ++ ((bd, tcell rd) :: (rd, kvd.obj) :: (mr ++ (F ++ N))))) (fun f => by have h1 := hf2 f; have h2 := hfm f; simp only [List.set_cons_succ, List.set_cons_zero, List.map_cons, List.sum_cons, List.map_append, List.sum_append, List.cons_append] at h1 h2 ⊢; omega) ?_
                      exact e_again seen2 hmu (L' := [(0, ptr bd), (4, ptr bg), (49, ptr it)]) ⟨rfl, rfl, rfl, trivial⟩ ⟨kvg.put key d1, gts2, m2', rfl, (by rw [KV.list_put]; exact hk2), (fun p hp => (hn2 p hp).elim (fun e => by rw [e]; exact hnk) (fun ⟨q, hq, e⟩ => by rw [← e]; exact hnm q hq)), (hdone.step hpl hndl hl2 (by rw [← hd0, hts, hs0]; exact GVal.set (some t) tu hnt (fun de e => htw ⟨de, Option.some.inj e⟩))), rfl⟩
            · obtain ⟨bs2, os, mms, e, rfl, hos⟩ := hrs.notab
              cases e
              have hnt : ∀ es, ts ≠ .tab es := fun es e => hts ⟨es, e⟩
              refine c_region ?_
              refine g_q (qv_move rfl) rfl ?_
              refine g_q (qv_nil rfl) rfl ?_
              refine g_q (qv_field rfl Try.runUnderlying40 rfl Try.sizeOf3 rfl) rfl ?_
              refine g_q (qv_load (v := .int .i64 6) rfl Try.isAgg3 m0 rfl) rfl ?_
              refine g_q (QV.to (v' := .bool false) (qv_nei rfl rfl) rfl) rfl ?_
              refine g_q (qv_move rfl) rfl ?_
              refine g_on rfl rfl ?_
              refine g_q (qv_move rfl) rfl ?_
              refine g_on rfl rfl ?_
              refine g_q (qv_nil rfl) rfl ?_
              refine g_on rfl rfl ?_
              refine g_q (qv_field rfl Try.runUnderlying40 rfl Try.sizeOf3 rfl) rfl ?_
              refine g_on rfl rfl ?_
              refine g_q (qv_load (v := .int .i64 (kindT ts)) rfl Try.isAgg3 (.tail _ (.tail _ (List.mem_append_right _ (.tail _ (.tail _ (List.mem_append_right _ (hms _ m0))))))) hos) rfl ?_
              refine g_on rfl rfl ?_
              refine g_q (QV.to (v' := .bool true) (qv_nei rfl rfl) (by rw [decide_eq_false (kind_ne hnt)]; rfl)) rfl ?_
              refine g_q (qv_pick_f rfl rfl) rfl ?_
              refine g_nil ?_
              refine e_seq ?_
              refine c_true rfl ?_
              refine c_ret ?_
              refine e_ret_then ?_
              obtain ⟨ts0, m0', hk0, hl0, hn0, hf0⟩ := hback0
              obtain ⟨hg0, hok0, hlk0⟩ := RepS.mkK (b := bd) (r := rd) hk0 (fun p hp => by obtain ⟨q, hq, e⟩ := hn0 p hp; rw [← e]; exact hnmd q hq)
              refine e_to (M' := ((bd, tcell rd) :: (rd, kvd.obj) :: m0') ++ F) (fun f => by have h1 := hf0 f; simp only [List.map_cons, List.sum_cons, List.map_append, List.sum_append, List.cons_append] at h1 ⊢; omega) (e_ret0 (.inl rfl) Try.results33 ?_)
              exact ⟨n + 1, _, _, hg0, hok0, Or.inr ⟨Or.inr fun sg e => hnt sg (hgs.symm.trans e), fun k => by rw [hlk0, hl0, hdl]⟩, rfl⟩
          · obtain ⟨bg2, og, mmg, e, rfl, hog⟩ := hrg.notab
            cases e
            have hnt : ∀ es, tg ≠ .tab es := fun es e => htg ⟨es, e⟩
            refine c_region ?_
            refine g_q (qv_move rfl) rfl ?_
            refine g_q (qv_nil rfl) rfl ?_
            refine g_q (qv_field rfl Try.runUnderlying40 rfl Try.sizeOf3 rfl) rfl ?_
            refine g_q (qv_load (v := .int .i64 (kindT tg)) rfl Try.isAgg3 m0 hog) rfl ?_
            refine g_q (QV.to (v' := .bool true) (qv_nei rfl rfl) (by rw [decide_eq_false (kind_ne hnt)]; rfl)) rfl ?_
            refine g_q (qv_move rfl) rfl ?_
            refine g_off rfl rfl rfl rfl ?_
            refine g_off rfl rfl rfl rfl ?_
            refine g_off rfl rfl rfl rfl ?_
            refine g_off rfl rfl rfl rfl ?_
            refine g_off rfl rfl rfl rfl ?_
            refine g_q (qv_pick_t rfl rfl) rfl ?_
            refine g_nil ?_
            refine e_seq ?_
            refine c_true rfl ?_
            refine c_ret ?_
            refine e_ret_then ?_
            obtain ⟨ts0, m0', hk0, hl0, hn0, hf0⟩ := hback0
            obtain ⟨hg0, hok0, hlk0⟩ := RepS.mkK (b := bd) (r := rd) hk0 (fun p hp => by obtain ⟨q, hq, e⟩ := hn0 p hp; rw [← e]; exact hnmd q hq)
            refine e_to (M' := ((bd, tcell rd) :: (rd, kvd.obj) :: m0') ++ F) (fun f => by have h1 := hf0 f; simp only [List.map_cons, List.sum_cons, List.map_append, List.sum_append, List.cons_append] at h1 ⊢; omega) (e_ret0 (.inl rfl) Try.results33 ?_)
            exact ⟨n + 1, _, _, hg0, hok0, Or.inr ⟨Or.inl fun dg e => hnt dg (hgl.symm.trans e), fun k => by rw [hlk0, hl0, hdl]⟩, rfl⟩

end Go.Proofs.Ytnnclcfklbeocaa

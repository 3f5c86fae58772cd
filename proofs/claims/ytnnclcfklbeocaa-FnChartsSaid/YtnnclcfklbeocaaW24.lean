/-
  The walks, part 24: coalesceValues.
  Conditions: the chart lies as RepH says, the destination as RepX.
-/
import Derived.Test.YtnnclcfklbeocaaW23
namespace Go.Proofs.Ytnnclcfklbeocaa
open Go.RowKit

variable {W0 : World}

/-- Of a chart's values, the keys in 'left' are still to come. -/
def VDone (mg : Bool) (ns : List Key) (d0 s0 : Key → Option T) (left : List Key) (gts : List (Key × T)) : Prop := ∀ k, (k ∈ left ∧ gts.lookup k = d0 k) ∨ (k ∉ left ∧ VVal mg (mg || ns.contains k) (d0 k) (s0 k) (gts.lookup k))
theorem VDone.start {mg : Bool} {ns : List Key} {d0 s0 : Key → Option T} {left : List Key} {gts : List (Key × T)} (hd : ∀ k, gts.lookup k = d0 k) (hs : ∀ k, k ∉ left → s0 k = none) : VDone mg ns d0 s0 left gts := fun k => by
  by_cases h : k ∈ left
  · exact Or.inl ⟨h, hd k⟩
  · refine Or.inr ⟨h, ?_⟩
    rw [hs k h, hd k]
    exact .over _
theorem VDone.here {mg : Bool} {ns : List Key} {d0 s0 : Key → Option T} {left : List Key} {gts : List (Key × T)} (h : VDone mg ns d0 s0 left gts) {k : Key} (hk : k ∈ left) : gts.lookup k = d0 k := by
  rcases h k with ⟨_, h1⟩ | ⟨h1, _⟩
  · exact h1
  · exact absurd hk h1
theorem VDone.step {mg : Bool} {ns : List Key} {d0 s0 : Key → Option T} {left left' : List Key} {gts gts' : List (Key × T)} {k : Key} {c : Option T} (h : VDone mg ns d0 s0 left gts) (hp : left.Perm (k :: left')) (hn : left.Nodup) (hl : ∀ k', gts'.lookup k' = if k' = k then c else gts.lookup k') (hc : VVal mg (mg || ns.contains k) (d0 k) (s0 k) c) : VDone mg ns d0 s0 left' gts' := fun k' => by
  have hn' := hp.nodup_iff.1 hn
  rw [List.nodup_cons] at hn'
  by_cases e : k' = k
  · subst e
    refine Or.inr ⟨hn'.1, ?_⟩
    rw [hl, if_pos rfl]
    exact hc
  · rw [hl, if_neg e]
    rcases h k' with ⟨h1, h2⟩ | ⟨h1, h2⟩
    · exact Or.inl ⟨(List.mem_cons.1 (hp.mem_iff.1 h1)).elim (fun e' => absurd e' e) id, h2⟩
    · exact Or.inr ⟨fun h3 => h1 (hp.mem_iff.2 (List.mem_cons_of_mem _ h3)), h2⟩
theorem VDone.done {mg : Bool} {ns : List Key} {d0 s0 : Key → Option T} {gts : List (Key × T)} (h : VDone mg ns d0 s0 [] gts) (k : Key) : VVal mg (mg || ns.contains k) (d0 k) (s0 k) (gts.lookup k) := by
  rcases h k with ⟨h1, _⟩ | ⟨_, h1⟩
  · cases h1
  · exact h1

set_option maxHeartbeats 8000000 in
theorem values_any (S : Heap) (n : Nat) (c : Ch) (b bm r : Nat) (dsl : Value) (cs : List Value) (mv mdd mk : Heap) (de : List (Key × T)) (rd : Nat) (md F : Heap) (pre : Key) (mg : Bool) (hb : (b, Obj.cells #[ptr bm, .map (some r), dsl] 100 (0, 0)) ∈ F) (hbm : (bm, Obj.cells #[str c.name] 97 (0, 0)) ∈ F) (hval : RepA 2 (.tab c.vals) (.iface 63 (.map (some r))) mv) (hmv : ∀ x, x ∈ mv → x ∈ F)
    (hrow : Row 77 1 dsl c.deps.length cs mdd) (hmd : ∀ x, x ∈ mdd → x ∈ F) (hck : CKids 1 (fun d a m => ∃ n, RepH n d a m) c.deps cs mk) (hmk : ∀ x, x ∈ mk → x ∈ F) (hdl : c.deps.length ≤ 1000) (hnl : c.name.length ≤ 6) (hd : RepX S (n + 3) .V (.tab de) (.iface 63 (.map (some rd))) md) (hpre : pre.length ≤ 500) :
    Tri Try.prog W0 58 [.func (.func 44) #[] #[], ptr b, .map (some rd), str pre, .bool mg] (md ++ F) fun _ M' => ∃ re md', RepX S (n + 3) .V (.tab re) (.iface 63 (.map (some rd))) md' ∧ KeysOk re ∧ VV mg (c.deps.map Ch.name) de c.vals re ∧ M' = md' ++ F := by
  obtain ⟨_, kvd, dts, mdk, e, hokd, hpd, hkd, rfl⟩ := hd.table (fun e => by cases e)
  cases e
  refine Tri.to (M' := (rd, kvd.obj) :: (mdk ++ F)) ?_ (by rw [List.cons_append]; exact Fits.refl _)
  refine tri_of 123 Try.func58 rfl Try.ntmps58 (Nat.le_of_ble_eq_true rfl) ?_
  refine c_seq ?_
  refine c_region ?_   -- region 0
  refine g_q (qv_move rfl) rfl ?_
  refine g_q (qv_move rfl) rfl ?_
  refine g_q (qv_nil rfl) rfl ?_
  refine g_q (qv_field rfl Try.runUnderlying100 rfl Try.sizeOf95 rfl) rfl ?_
  refine g_q (qv_load (v := ptr bm) rfl Try.isAgg95 (.tail _ (List.mem_append_right _ hb)) rfl) rfl ?_
  refine g_q (qv_nil rfl) rfl ?_
  refine g_q (qv_field rfl Try.runUnderlying97 rfl Try.sizeOf9 rfl) rfl ?_
  refine g_q (qv_load (v := str c.name) rfl Try.isAgg9 (.tail _ (List.mem_append_right _ hbm)) rfl) rfl ?_
  refine g_i (iv_call (vs := [str pre, str c.name]) Try.call54 ⟨rfl, rfl, trivial⟩ (concat_any pre c.name _ (by omega) hnl)) rfl ?_
  rintro _ _ ⟨full, rfl, hfl, rfl⟩
  refine g_q (qv_assign rfl) rfl ?_
  refine g_nil ?_
  refine e_seq ?_
  refine c_seq ?_
  refine c_region ?_   -- region 1
  refine g_q (qv_move rfl) rfl ?_
  refine g_q (qv_nil rfl) rfl ?_
  refine g_q (qv_field rfl Try.runUnderlying100 rfl Try.sizeOf63 rfl) rfl ?_
  refine g_q (qv_load (v := .map (some r)) rfl Try.isAgg63 (.tail _ (List.mem_append_right _ hb)) rfl) rfl ?_
  refine g_i (iv_call (vs := [.map (some r)]) Try.call57 ⟨rfl, trivial⟩ (zzCopy_any 2 c.vals r mv _ hval (fun x hx => .tail _ (List.mem_append_right _ (hmv x hx))))) rfl ?_
  rintro _ _ ⟨r2, m', rfl, hval2, rfl⟩
  refine g_q (qv_move rfl) rfl ?_
  refine g_q (qv_extract rfl rfl) rfl ?_
  refine g_q (qv_extract rfl rfl) rfl ?_
  refine g_q (qv_assign rfl) rfl ?_
  refine g_q (qv_assign rfl) rfl ?_
  refine g_nil ?_
  refine e_seq ?_
  refine c_seq ?_
  refine c_region ?_   -- region 2
  refine g_q (qv_assign rfl) rfl ?_
  refine g_nil ?_
  refine e_seq ?_
  refine c_seq ?_
  refine c_region ?_   -- region 3
  refine g_q (qv_assign rfl) rfl ?_
  refine g_nil ?_
  refine e_seq ?_
  refine c_seq ?_
  refine c_seq ?_
  refine c_region ?_   -- region 4
  refine g_q (qv_move rfl) rfl ?_
  refine g_q (qv_nen Try.runUnderlying68 rfl (Or.inl rfl)) rfl ?_
  refine g_nil ?_
  refine e_seq ?_
  refine c_false rfl ?_
  refine c_seq ?_
  refine c_region ?_   -- region 7
  refine g_q (qv_move rfl) rfl ?_
  refine g_q (qv_is rfl Try.runUnderlying63 (fun _ h => by cases h)) rfl ?_
  refine g_q (qv_move rfl) rfl ?_
  refine g_q (qv_extract rfl rfl) rfl ?_
  refine g_q (qv_extract rfl rfl) rfl ?_
  refine g_q (qv_assign rfl) rfl ?_
  refine g_q (qv_assign rfl) rfl ?_
  refine g_nil ?_
  refine e_seq ?_
  refine c_seq ?_
  refine c_region ?_   -- region 8
  refine g_q (qv_move rfl) rfl ?_
  refine g_q (qv_not rfl) rfl ?_
  refine g_nil ?_
  refine e_seq ?_
  refine c_false rfl ?_
  refine c_skip ?_
  refine e_seq ?_
  obtain ⟨_, kvs, sts, msk, e, hoks, hps, hks, rfl⟩ := hval2.table
  cases e
  refine c_to (M' := (r2, kvs.obj) :: (rd, kvd.obj) :: (mdk ++ (msk ++ F))) (fun f => by simp <;> omega) ?_
  refine c_seq ?_
  refine c_region ?_   -- region 11
  refine g_q (qv_move rfl) rfl ?_
  refine g_i (iv_range (m := kvs) rfl Try.runUnderlying63 m0) rfl ?_
  rintro _ _ ⟨it, rfl, rfl⟩
  refine g_nil ?_
  refine e_seq ?_
  refine c_block ?_
  refine c_keep (L' := [(0, .func (.func 44) #[] #[]), (1, ptr b), (2, .map (some rd)), (4, .bool mg), (10, str full), (65, ptr it)]) ⟨rfl, rfl, rfl, rfl, rfl, rfl, trivial⟩ ?_
  refine c_loop (ι := Array Nat) (fun seen L M' => ∃ kvd dts mdk lts ml, L = [(0, .func (.func 44) #[] #[]), (1, ptr b), (2, .map (some rd)), (4, .bool mg), (10, str full), (65, ptr it)] ∧ KidsK (fun k => RepX S (n + 2) (kidMode .V k)) dts (KV.list kvd) mdk ∧ (∀ p, p ∈ dts → Nm p.1) ∧ Kids (fun t v m => ∃ n', n' < 2 ∧ RepA n' t v m) lts (kvs.left seen) ml ∧ (∀ p, p ∈ lts → c.vals.lookup p.1 = some p.2) ∧ VDone mg (c.deps.map Ch.name) (fun k => de.lookup k) (fun k => c.vals.lookup k) ((kvs.left seen).map (·.1)) dts ∧ M' = (it, iterObj r2 kvs seen) :: (r2, kvs.obj) :: (rd, kvd.obj) :: (mdk ++ (ml ++ F))) (fun seen => (kvs.left seen).length) #[] ⟨kvd, dts, mdk, sts, msk, rfl, hkd, fun p hp => hokd.2 p (hpd.mem_iff.1 hp), by rw [KV.left_start]; exact hks, fun p hp => lookup_of_mem hoks.nodup (hps.mem_iff.1 hp), VDone.start (fun k => lookup_perm hpd (perm_keys_nodup hokd hpd) k) (fun k hk => ?_), rfl⟩ ?_
  · rw [KV.left_start] at hk
    show c.vals.lookup k = none
    rw [← lookup_perm hps (perm_keys_nodup hoks hps) k]
    refine lookup_none fun h => hk ?_
    rw [← hks.keys]
    exact h
  clear hkd hpd dts
  rintro seen _ _ ⟨kvd, dts, mdk, lts, ml, rfl, hkd, hnm, hkl, hlv, hdone, rfl⟩
  refine c_seq ?_
  refine c_region ?_   -- region 12
  refine g_i (iv_next (i := 0) rfl rfl m1) rfl ?_
  rintro _ _ (⟨hl0, rfl, rfl⟩ | ⟨key, u, seen2, rfl, rfl, hperm2, hcur⟩)
  · refine g_q (qv_extract rfl rfl) rfl ?_
    refine g_nil ?_
    refine e_seq ?_
    refine c_seq ?_
    refine c_false rfl ?_
    refine c_exit ?_
    refine e_exit_then ?_
    refine e_exit_then ?_
    refine e_exit_block ?_
    rw [hl0] at hdone
    obtain ⟨hg5, hokr, hlr⟩ := RepX.mk (r := rd) (md := .V) (n := n + 2) hkd hnm
    refine e_to (M' := ((rd, kvd.obj) :: mdk) ++ F) (fun f => by simp <;> omega) (e_ret0 (.inr rfl) Try.results58 ?_)
    exact ⟨_, _, hg5, hokr, fun k => by rw [hlr]; exact hdone.done k, rfl⟩
  · have hmu : (kvs.left seen2).length < (kvs.left seen).length := by
      rw [hperm2.length_eq]
      exact Nat.lt_succ_self _
    have hpl := hperm2.map (·.1)
    have hndl := left_nodup kvs seen
    obtain ⟨lts', ml', hpl0, hpml, hkl'⟩ := hkl.perm hperm2
    obtain ⟨tu, lts2, mu, ml2, rfl, rfl, ⟨n', hn', hru⟩, hkl2⟩ := hkl'.cons
    have hru : RepA 1 tu u mu := hru.le (by omega)
    replace hpml : ∀ f : Nat × Obj → Nat, ((mu ++ ml2).map f).sum ≤ (ml.map f).sum := Fits.of_perm hpml
    have hs0 : c.vals.lookup key = some tu := hlv (key, tu) (hpl0.mem_iff.2 List.mem_cons_self)
    have hlv2 : ∀ p, p ∈ lts2 → c.vals.lookup p.1 = some p.2 := fun p hp => hlv p (hpl0.mem_iff.2 (List.mem_cons_of_mem _ hp))
    have hnk : Nm key := hoks.2 _ (mem_of_lookup hs0)
    have hlook : Look tu u := hru.lookk
    have hd0 : dts.lookup key = de.lookup key := hdone.here (hpl.mem_iff.2 List.mem_cons_self)
    obtain ⟨mv2, mr2, hfm, hcase2, hback2⟩ := hkd.hole key kvd.nodup
    refine g_q (qv_extract rfl rfl) rfl ?_
    refine g_nil ?_
    refine e_seq ?_
    refine c_seq ?_
    refine c_true rfl ?_
    refine c_skip ?_
    refine e_seq ?_
    refine c_block ?_
    refine c_seq ?_
    refine c_region ?_   -- region 13
    refine g_q (qv_entry (k := key) (v := u) rfl m0 m1 hcur) rfl ?_
    refine g_q (qv_extract rfl rfl) rfl ?_
    refine g_q (qv_extract rfl rfl) rfl ?_
    refine g_q (qv_assign rfl) rfl ?_
    refine g_q (qv_assign rfl) rfl ?_
    refine g_nil ?_
    refine e_seq ?_
    rcases hcase2 with ⟨htn, hvn, rfl⟩ | ⟨t, v, hts, hvs, hrv⟩
    · refine c_seq ?_
      refine c_region ?_   -- region 14
      refine g_q (qv_move rfl) rfl ?_
      refine g_q (qv_move rfl) rfl ?_
      refine g_q (QV.to (v' := .tuple #[.nilIface, .bool false]) (qv_lookup2 (m := kvd) (k := key) rfl rfl Try.runUnderlying63 Try.runUnderlying9 Try.zeroValue20 m2) (by rw [hvn]; rfl)) rfl ?_
      refine g_q (qv_move rfl) rfl ?_
      refine g_q (qv_extract rfl rfl) rfl ?_
      refine g_q (qv_extract rfl rfl) rfl ?_
      refine g_q (qv_assign rfl) rfl ?_
      refine g_q (qv_assign rfl) rfl ?_
      refine g_nil ?_
      refine e_seq ?_
      refine c_seq ?_
      refine c_region ?_   -- region 15
      refine g_q (qv_move rfl) rfl ?_
      refine g_nil ?_
      refine e_seq ?_
      refine c_false rfl ?_
      refine c_region ?_   -- region 26
      refine g_q (qv_move rfl) rfl ?_
      refine g_q (qv_move rfl) rfl ?_
      refine g_q (qv_move rfl) rfl ?_
      refine g_i0 (iv_put (i := 2) (m := kvd) rfl rfl rfl Try.runUnderlying63 Try.runUnderlying9 rfl) ?_
      rintro _ _ rfl
      refine g_nil ?_
      refine e_normal_block ?_
      obtain ⟨dts2, m2', hk2, hl2, hn2, hf2⟩ := hback2 _ (fun _ _ _ _ _ h => h) tu u mu ((hru.toX S (kidMode .V key)).le (by omega))
      refine e_to (M' := (it, iterObj r2 kvs seen2) :: (r2, kvs.obj) :: (rd, (kvd.put key u).obj) :: (m2' ++ (ml2 ++ F))) (fun f => by have h1 := hf2 f; have h2 := hfm f; have h3 := hpml f; simp only [List.set_cons_succ, List.set_cons_zero, List.nil_append, List.map_cons, List.sum_cons, List.map_append, List.sum_append] at h1 h2 h3 ⊢ <;> omega) ?_
      exact e_again seen2 hmu (L' := [(0, .func (.func 44) #[] #[]), (1, ptr b), (2, .map (some rd)), (4, .bool mg), (10, str full), (65, ptr it)]) ⟨rfl, rfl, rfl, rfl, rfl, rfl, trivial⟩ ⟨kvd.put key u, dts2, m2', lts2, ml2, rfl, (by rw [KV.list_put]; exact hk2), (fun p hp => (hn2 p hp).elim (fun e => by rw [e]; exact hnk) (fun ⟨q, hq, e⟩ => by rw [← e]; exact hnm q hq)), hkl2, hlv2, (hdone.step hpl hndl hl2 (by rw [← hd0, htn, hs0]; exact VVal.base tu)), rfl⟩
    · refine c_seq ?_
      refine c_region ?_   -- region 14
      refine g_q (qv_move rfl) rfl ?_
      refine g_q (qv_move rfl) rfl ?_
      refine g_q (QV.to (v' := .tuple #[v, .bool true]) (qv_lookup2 (m := kvd) (k := key) rfl rfl Try.runUnderlying63 Try.runUnderlying9 Try.zeroValue20 m2) (by rw [hvs]; rfl)) rfl ?_
      refine g_q (qv_move rfl) rfl ?_
      refine g_q (qv_extract rfl rfl) rfl ?_
      refine g_q (qv_extract rfl rfl) rfl ?_
      refine g_q (qv_assign rfl) rfl ?_
      refine g_q (qv_assign rfl) rfl ?_
      refine g_nil ?_
      refine e_seq ?_
      refine c_seq ?_
      refine c_region ?_   -- region 15
      refine g_q (qv_move rfl) rfl ?_
      refine g_nil ?_
      refine e_seq ?_
      refine c_true rfl ?_
      refine c_seq ?_
      refine c_region ?_   -- region 16
      refine g_q (qv_move rfl) rfl ?_
      rcases hrv.nil with hnull | ⟨hne, hif⟩
      · obtain ⟨rfl, rfl⟩ := hnull
        refine g_q (qv_eqn Try.runUnderlying20 rfl (Or.inl rfl)) rfl ?_
        refine g_q (qv_move rfl) rfl ?_
        refine g_on rfl rfl ?_
        refine g_q (qv_move rfl) rfl ?_
        refine g_on rfl rfl ?_
        refine g_q (qv_not rfl) rfl ?_
        refine g_q (qv_pick_t rfl rfl) rfl ?_
        cases mg with
        | true =>
          refine g_nil ?_
          refine e_seq ?_
          refine c_false rfl ?_
          refine c_seq ?_
          refine c_region ?_   -- region 18
          refine g_q (qv_move rfl) rfl ?_
          refine g_q (qv_isnt_nil rfl Try.runUnderlying63 (fun _ h => by cases h) Try.zeroValue63) rfl ?_
          refine g_q (qv_move rfl) rfl ?_
          refine g_q (qv_extract rfl rfl) rfl ?_
          refine g_q (qv_extract rfl rfl) rfl ?_
          refine g_q (qv_assign rfl) rfl ?_
          refine g_q (qv_assign rfl) rfl ?_
          refine g_nil ?_
          refine e_seq ?_
          refine c_seq ?_
          refine c_region ?_   -- region 19
          refine g_q (qv_move rfl) rfl ?_
          refine g_nil ?_
          refine e_seq ?_
          refine c_false rfl ?_
          refine c_skip ?_
          refine e_normal_block ?_
          refine e_to (M' := (it, iterObj r2 kvs seen2) :: (r2, kvs.obj) :: (rd, kvd.obj) :: (mdk ++ (ml2 ++ F))) (fun f => by have h1 := hpml f; simp only [List.set_cons_zero, List.map_cons, List.sum_cons, List.map_append, List.sum_append] at h1 ⊢ <;> omega) ?_
          exact e_again seen2 hmu (L' := [(0, .func (.func 44) #[] #[]), (1, ptr b), (2, .map (some rd)), (4, .bool true), (10, str full), (65, ptr it)]) ⟨rfl, rfl, rfl, rfl, rfl, rfl, trivial⟩ ⟨kvd, dts, mdk, lts2, ml2, rfl, hkd, hnm, hkl2, hlv2, (hdone.step hpl hndl (c := some .null) (fun k' => same_lookup hts k') (by rw [← hd0, hts, hs0]; exact VVal.keep _ _ (fun _ => rfl) (fun de se e => by cases e))), rfl⟩
        | false =>
          refine g_nil ?_
          refine e_seq ?_
          refine c_true rfl ?_
          refine c_region ?_   -- region 17
          refine g_q (qv_move rfl) rfl ?_
          refine g_q (qv_move rfl) rfl ?_
          refine g_i0 (iv_del (i := 2) (m := kvd) rfl rfl Try.runUnderlying63 Try.runUnderlying9 rfl) ?_
          rintro _ _ rfl
          refine g_nil ?_
          refine e_normal_block ?_
          obtain ⟨m2', hk2, hf2⟩ := hkd.less key
          have hf2 := hf2
          refine e_to (M' := (it, iterObj r2 kvs seen2) :: (r2, kvs.obj) :: (rd, (kvd.del key).obj) :: (m2' ++ (ml2 ++ F))) (fun f => by have h1 := hf2 f; have h2 := hpml f; simp only [List.set_cons_succ, List.set_cons_zero, List.map_cons, List.sum_cons, List.map_append, List.sum_append] at h1 h2 ⊢ <;> omega) ?_
          exact e_again seen2 hmu (L' := [(0, .func (.func 44) #[] #[]), (1, ptr b), (2, .map (some rd)), (4, .bool false), (10, str full), (65, ptr it)]) ⟨rfl, rfl, rfl, rfl, rfl, rfl, trivial⟩ ⟨kvd.del key, dts.filter fun p => !(p.1 == key), m2', lts2, ml2, rfl, (by rw [KV.list_del]; exact hk2), (fun p hp => hnm p (List.mem_filter.1 hp).1), hkl2, hlv2, (hdone.step hpl hndl (fun k' => lookup_filter key dts k') (by rw [← hd0, hts, hs0]; exact VVal.del _ rfl)), rfl⟩
      · obtain ⟨T1, u1, rfl⟩ := hif
        refine g_q (qv_eqn Try.runUnderlying20 rfl (Or.inr ⟨_, _, rfl⟩)) rfl ?_
        refine g_q (qv_move rfl) rfl ?_
        refine g_off rfl rfl rfl rfl ?_
        refine g_off rfl rfl rfl rfl ?_
        refine g_q (qv_pick_f rfl rfl) rfl ?_
        by_cases ht : ∃ d2, t = .tab d2
        · obtain ⟨d2, rfl⟩ := ht
          obtain ⟨r3, e⟩ := tab_of hrv.look
          cases e
          refine g_nil ?_
          refine e_seq ?_
          refine c_false rfl ?_
          refine c_seq ?_
          refine c_region ?_   -- region 18
          refine g_q (qv_move rfl) rfl ?_
          refine g_q (qv_is rfl Try.runUnderlying63 (fun _ h => by cases h)) rfl ?_
          refine g_q (qv_move rfl) rfl ?_
          refine g_q (qv_extract rfl rfl) rfl ?_
          refine g_q (qv_extract rfl rfl) rfl ?_
          refine g_q (qv_assign rfl) rfl ?_
          refine g_q (qv_assign rfl) rfl ?_
          refine g_nil ?_
          refine e_seq ?_
          refine c_seq ?_
          refine c_region ?_   -- region 19
          refine g_q (qv_move rfl) rfl ?_
          refine g_nil ?_
          refine e_seq ?_
          refine c_true rfl ?_
          refine c_seq ?_
          refine c_region ?_   -- region 20
          refine g_q (qv_move rfl) rfl ?_
          by_cases hu : ∃ s2, tu = .tab s2
          · obtain ⟨s2, rfl⟩ := hu
            obtain ⟨r4, e⟩ := tab_of hlook
            cases e
            refine g_q (qv_is rfl Try.runUnderlying63 (fun _ h => by cases h)) rfl ?_
            refine g_q (qv_move rfl) rfl ?_
            refine g_q (qv_extract rfl rfl) rfl ?_
            refine g_q (qv_extract rfl rfl) rfl ?_
            refine g_q (qv_assign rfl) rfl ?_
            refine g_q (qv_assign rfl) rfl ?_
            refine g_nil ?_
            refine e_seq ?_
            refine c_seq ?_
            refine c_region ?_   -- region 21
            refine g_q (qv_move rfl) rfl ?_
            refine g_q (qv_not rfl) rfl ?_
            refine g_nil ?_
            refine e_seq ?_
            refine c_false rfl ?_
            refine c_seq ?_
            refine c_region ?_   -- region 24
            refine g_q (qv_move rfl) rfl ?_
            refine g_q (qv_move rfl) rfl ?_
            refine g_q (qv_move rfl) rfl ?_
            refine g_i (iv_call (vs := [ptr b, str key, .bool mg]) Try.call73 ⟨rfl, rfl, rfl, trivial⟩ (childMerge_any (.tail _ (.tail _ (.tail _ (List.mem_append_right _ (List.mem_append_right _ hb))))) hrow (fun x hx => .tail _ (.tail _ (.tail _ (List.mem_append_right _ (List.mem_append_right _ (hmd x hx)))))) hck (fun x hx => .tail _ (.tail _ (.tail _ (List.mem_append_right _ (List.mem_append_right _ (hmk x hx)))))) key mg hdl)) rfl ?_
            rintro _ _ ⟨rfl, rfl⟩
            refine g_q (qv_assign rfl) rfl ?_
            refine g_nil ?_
            refine e_seq ?_
            refine c_region ?_   -- region 25
            refine g_q (qv_move rfl) rfl ?_
            refine g_q (qv_move rfl) rfl ?_
            refine g_q (qv_move rfl) rfl ?_
            refine g_q (qv_move rfl) rfl ?_
            refine g_q (qv_move rfl) rfl ?_
            refine g_i (iv_call (vs := [str full, str key]) Try.call54 ⟨rfl, rfl, trivial⟩ (concat_any full key _ (by omega) hnk.ok.2.2)) rfl ?_
            rintro _ _ ⟨full2, rfl, hfl2, rfl⟩
            refine g_q (qv_move rfl) rfl ?_
            refine g_to (M' := mv2 ++ (mu ++ ((it, iterObj r2 kvs seen2) :: (r2, kvs.obj) :: (rd, kvd.obj) :: (mr2 ++ (ml2 ++ F))))) (fun f => by have h1 := hfm f; have h2 := hpml f; simp only [List.map_cons, List.sum_cons, List.map_append, List.sum_append] at h1 h2 ⊢; omega) ?_
            have hmode : kidMode .V key ≠ .Y ∧ 1 ≤ lim (kidMode .V key) := by
              by_cases e : key = kGlobal
              · simp only [kidMode, if_pos e, lim]; exact ⟨fun e => (by cases e), Nat.le_refl _⟩
              · simp only [kidMode, if_neg e, lim]; exact ⟨fun e => (by cases e), by omega⟩
            refine g_i (iv_call (vs := [.func (.func 44) #[] #[], .map (some r3), .map (some r4), str full2, .bool (mg || (c.deps.map Ch.name).contains key)]) Try.call43 ⟨rfl, rfl, rfl, rfl, rfl, trivial⟩ (coalX_any S 1 (n + 2) (kidMode .V key) d2 s2 r3 r4 mv2 mu full2 _ _ hmode.1 hmode.2 (by omega) hrv hru (by have := hnk.ok.2.2; omega))) rfl ?_
            rintro _ _ ⟨rfl, re, m4, hre, hokre, hco, rfl⟩
            refine g_nil ?_
            refine e_normal_block ?_
            obtain ⟨dts2, m2', hk2, hl2, hn2, hf2⟩ := hback2 _ (fun _ _ _ _ _ h => h) (.tab re) (.iface 63 (.map (some r3))) m4 hre
            rw [putL_same kvd.nodup hvs] at hk2
            refine e_to (M' := (it, iterObj r2 kvs seen2) :: (r2, kvs.obj) :: (rd, kvd.obj) :: (m2' ++ (ml2 ++ F))) (fun f => by have h1 := hf2 f; simp only [List.map_cons, List.sum_cons, List.map_append, List.sum_append] at h1 ⊢ <;> omega) ?_
            exact e_again seen2 hmu (L' := [(0, .func (.func 44) #[] #[]), (1, ptr b), (2, .map (some rd)), (4, .bool mg), (10, str full), (65, ptr it)]) ⟨rfl, rfl, rfl, rfl, rfl, rfl, trivial⟩ ⟨kvd, dts2, m2', lts2, ml2, rfl, hk2, (fun p hp => (hn2 p hp).elim (fun e => by rw [e]; exact hnk) (fun ⟨q, hq, e⟩ => by rw [← e]; exact hnm q hq)), hkl2, hlv2, (hdone.step hpl hndl hl2 (by rw [← hd0, hts, hs0]; exact VVal.both d2 s2 re hokre hco)), rfl⟩
          · have hv : u = .nilIface ∨ ∃ T' u', u = .iface T' u' ∧ Nat.beq T' 63 = false ∧ Nat.beq T' 66 = false := by
              rcases hlook with ⟨es, _, e, _⟩ | ⟨_, h⟩
              · exact absurd ⟨es, e⟩ hu
              · exact h
            refine g_q (qv_isntX (hv.imp id fun ⟨T', u, h1, h2, _⟩ => ⟨T', u, h1, h2⟩) rfl Try.runUnderlying63 (fun _ h => by cases h) Try.zeroValue63) rfl ?_
            refine g_q (qv_move rfl) rfl ?_
            refine g_q (qv_extract rfl rfl) rfl ?_
            refine g_q (qv_extract rfl rfl) rfl ?_
            refine g_q (qv_assign rfl) rfl ?_
            refine g_q (qv_assign rfl) rfl ?_
            refine g_nil ?_
            refine e_seq ?_
            refine c_seq ?_
            refine c_region ?_   -- region 21
            refine g_q (qv_move rfl) rfl ?_
            refine g_q (qv_not rfl) rfl ?_
            refine g_nil ?_
            refine e_seq ?_
            refine c_true rfl ?_
            refine c_seq ?_
            refine c_region ?_   -- region 22
            refine g_q (qv_move rfl) rfl ?_
            rcases hv with rfl | ⟨T2, u2, rfl, _⟩
            · refine g_q (qv_nen Try.runUnderlying20 rfl (Or.inl rfl)) rfl ?_
              refine g_nil ?_
              refine e_seq ?_
              refine c_false rfl ?_
              refine c_skip ?_
              refine e_normal_block ?_
              refine e_to (M' := (it, iterObj r2 kvs seen2) :: (r2, kvs.obj) :: (rd, kvd.obj) :: (mdk ++ (ml2 ++ F))) (fun f => by have h1 := hpml f; simp only [List.set_cons_zero, List.map_cons, List.sum_cons, List.map_append, List.sum_append] at h1 ⊢ <;> omega) ?_
              exact e_again seen2 hmu (L' := [(0, .func (.func 44) #[] #[]), (1, ptr b), (2, .map (some rd)), (4, .bool mg), (10, str full), (65, ptr it)]) ⟨rfl, rfl, rfl, rfl, rfl, rfl, trivial⟩ ⟨kvd, dts, mdk, lts2, ml2, rfl, hkd, hnm, hkl2, hlv2, (hdone.step hpl hndl (c := some (.tab d2)) (fun k' => same_lookup hts k') (by rw [← hd0, hts, hs0]; exact VVal.keep _ _ (fun e => by cases e) (fun de se e e2 => hu ⟨se, e2⟩))), rfl⟩
            · refine g_q (qv_nen Try.runUnderlying20 rfl (Or.inr ⟨_, _, rfl⟩)) rfl ?_
              refine g_nil ?_
              refine e_seq ?_
              refine c_true rfl ?_
              refine c_region ?_   -- region 23
              refine g_q (qv_move rfl) rfl ?_
              refine g_q (qv_move rfl) rfl ?_
              refine g_q (qv_iface Try.runUnderlying9 (fun _ h => by cases h) rfl) rfl ?_
              refine g_q (qv_move rfl) rfl ?_
              refine g_q (qv_iface Try.runUnderlying9 (fun _ h => by cases h) rfl) rfl ?_
              refine g_i (iv_buildSlice (vs := [(0, .iface 9 (str full)), (1, .iface 9 (str key))]) (cs := #[.iface 9 (str full), .iface 9 (str key)]) Try.runUnderlying89 Try.sizeOf20 Try.zeroValue20 ⟨rfl, rfl, rfl, rfl, trivial⟩ rfl (by kernel_rfl) rfl) rfl ?_
              rintro _ _ ⟨bs, rfl, rfl⟩
              refine g_i (iv_callc (vs := [_, .slice (some ⟨bs, 0, none⟩) 2 2]) (caps := []) Try.call44 rfl ⟨rfl, rfl, trivial⟩ (quiet_any _ _ _)) rfl ?_
              rintro _ _ rfl
              refine g_nil ?_
              refine e_normal_block ?_
              refine e_to (M' := (it, iterObj r2 kvs seen2) :: (r2, kvs.obj) :: (rd, kvd.obj) :: (mdk ++ (ml2 ++ F))) (fun f => by have h1 := hpml f; simp only [List.set_cons_zero, List.map_cons, List.sum_cons, List.map_append, List.sum_append] at h1 ⊢ <;> omega) ?_
              exact e_again seen2 hmu (L' := [(0, .func (.func 44) #[] #[]), (1, ptr b), (2, .map (some rd)), (4, .bool mg), (10, str full), (65, ptr it)]) ⟨rfl, rfl, rfl, rfl, rfl, rfl, trivial⟩ ⟨kvd, dts, mdk, lts2, ml2, rfl, hkd, hnm, hkl2, hlv2, (hdone.step hpl hndl (c := some (.tab d2)) (fun k' => same_lookup hts k') (by rw [← hd0, hts, hs0]; exact VVal.keep _ _ (fun e => by cases e) (fun de se e e2 => hu ⟨se, e2⟩))), rfl⟩
        · refine g_nil ?_
          refine e_seq ?_
          refine c_false rfl ?_
          refine c_seq ?_
          refine c_region ?_   -- region 18
          refine g_q (qv_move rfl) rfl ?_
          have hv : Value.iface T1 u1 = .nilIface ∨ ∃ T' u, Value.iface T1 u1 = .iface T' u ∧ Nat.beq T' 63 = false ∧ Nat.beq T' 66 = false := by
            rcases hrv.look with ⟨es, _, e, _⟩ | ⟨_, h⟩
            · exact absurd ⟨es, e⟩ ht
            · exact h
          refine g_q (qv_isntX (hv.imp id fun ⟨T', u, h1, h2, _⟩ => ⟨T', u, h1, h2⟩) rfl Try.runUnderlying63 (fun _ h => by cases h) Try.zeroValue63) rfl ?_
          refine g_q (qv_move rfl) rfl ?_
          refine g_q (qv_extract rfl rfl) rfl ?_
          refine g_q (qv_extract rfl rfl) rfl ?_
          refine g_q (qv_assign rfl) rfl ?_
          refine g_q (qv_assign rfl) rfl ?_
          refine g_nil ?_
          refine e_seq ?_
          refine c_seq ?_
          refine c_region ?_   -- region 19
          refine g_q (qv_move rfl) rfl ?_
          refine g_nil ?_
          refine e_seq ?_
          refine c_false rfl ?_
          refine c_skip ?_
          refine e_normal_block ?_
          refine e_to (M' := (it, iterObj r2 kvs seen2) :: (r2, kvs.obj) :: (rd, kvd.obj) :: (mdk ++ (ml2 ++ F))) (fun f => by have h1 := hpml f; simp only [List.set_cons_zero, List.map_cons, List.sum_cons, List.map_append, List.sum_append] at h1 ⊢ <;> omega) ?_
          exact e_again seen2 hmu (L' := [(0, .func (.func 44) #[] #[]), (1, ptr b), (2, .map (some rd)), (4, .bool mg), (10, str full), (65, ptr it)]) ⟨rfl, rfl, rfl, rfl, rfl, rfl, trivial⟩ ⟨kvd, dts, mdk, lts2, ml2, rfl, hkd, hnm, hkl2, hlv2, (hdone.step hpl hndl (c := some t) (fun k' => same_lookup hts k') (by rw [← hd0, hts, hs0]; exact VVal.keep _ _ (fun e => absurd e hne) (fun de se e => absurd ⟨de, e⟩ ht))), rfl⟩

end Go.Proofs.Ytnnclcfklbeocaa

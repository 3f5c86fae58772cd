/-
  The walks, part 19: coalesceTablesFullKey, whatever the relations are by which the children lie.
  Conditions: they are those that the theorem names.
-/
import Derived.Test.YtnnclcfklbeocaaR2
namespace Go.Proofs.Ytnnclcfklbeocaa
open Go.RowKit

variable {W0 : World}

/-- What a value shows: a table, or not. -/
def Look (t : T) (v : Value) : Prop := (∃ es r, t = .tab es ∧ v = .iface 63 (.map (some r))) ∨ ((∀ es, t ≠ .tab es) ∧ (v = .nilIface ∨ ∃ T' u, v = .iface T' u ∧ Nat.beq T' 63 = false ∧ Nat.beq T' 66 = false))
theorem tab_of {es : List (Key × T)} {v : Value} (h : Look (.tab es) v) : ∃ r, v = .iface 63 (.map (some r)) := by
  rcases h with ⟨_, r, _, h⟩ | ⟨h, _⟩
  · exact ⟨r, h⟩
  · exact absurd rfl (h es)
theorem istable_gen (t : T) (a : Value) (M : Heap) (h : Look t a) : Tri Try.prog W0 55 [a] M fun v M' => v = .bool (isTabT t) ∧ M' = M := by
  rcases h with ⟨es, r, rfl, rfl⟩ | ⟨hnt, hv⟩
  · skip
    refine tri_of 11 Try.func55 rfl Try.ntmps55 (Nat.le_of_ble_eq_true rfl) ?_
    refine c_seq ?_
    refine c_region ?_   -- region 0
    refine g_q (qv_assign rfl) rfl ?_
    refine g_nil ?_
    refine e_seq ?_
    refine c_seq ?_
    refine c_region ?_   -- region 1
    refine g_q (qv_move rfl) rfl ?_
    refine g_q (qv_is rfl Try.runUnderlying63 (fun _ h => by cases h)) rfl ?_
    refine g_q (qv_move rfl) rfl ?_
    refine g_q (qv_extract rfl rfl) rfl ?_
    refine g_q (qv_extract rfl rfl) rfl ?_
    refine g_q (qv_assign rfl) rfl ?_
    refine g_q (qv_assign rfl) rfl ?_
    refine g_nil ?_
    refine e_seq ?_
    refine c_seq ?_
    refine c_region ?_   -- region 2
    refine g_q (qv_move rfl) rfl ?_
    refine g_q (qv_assign rfl) rfl ?_
    refine g_nil ?_
    refine e_seq ?_
    refine c_ret ?_
    refine ?_
    exact e_ret1 (.inl rfl) Try.results55 rfl ⟨rfl, rfl⟩
  · have hf : isTabT t = false := by
      cases e : isTabT t with
      | false => rfl
      | true => obtain ⟨es, e⟩ := isTabT_iff.1 e; exact absurd e (hnt es)
    refine tri_of 11 Try.func55 rfl Try.ntmps55 (Nat.le_of_ble_eq_true rfl) ?_
    refine c_seq ?_
    refine c_region ?_   -- region 0
    refine g_q (qv_assign rfl) rfl ?_
    refine g_nil ?_
    refine e_seq ?_
    refine c_seq ?_
    refine c_region ?_   -- region 1
    refine g_q (qv_move rfl) rfl ?_
    refine g_q (qv_isntX (hv.imp id fun ⟨T', u, h1, h2, _⟩ => ⟨T', u, h1, h2⟩) rfl Try.runUnderlying63 (fun _ h => by cases h) Try.zeroValue63) rfl ?_
    refine g_q (qv_move rfl) rfl ?_
    refine g_q (qv_extract rfl rfl) rfl ?_
    refine g_q (qv_extract rfl rfl) rfl ?_
    refine g_q (qv_assign rfl) rfl ?_
    refine g_q (qv_assign rfl) rfl ?_
    refine g_nil ?_
    refine e_seq ?_
    refine c_seq ?_
    refine c_region ?_   -- region 2
    refine g_q (qv_move rfl) rfl ?_
    refine g_q (qv_assign rfl) rfl ?_
    refine g_nil ?_
    refine e_seq ?_
    refine c_ret ?_
    refine ?_
    exact e_ret1 (.inl rfl) Try.results55 rfl ⟨by rw [hf], rfl⟩
set_option maxHeartbeats 8000000 in
theorem coal_gen (Rd : Key → T → Value → Heap → Prop) (Rs : T → Value → Heap → Prop) (bnd : Nat) (hbnd : bnd ≤ 2000)
    (hdnil : ∀ {k t v m}, Rd k t v m → (t = .null ∧ v = .nilIface) ∨ (t ≠ .null ∧ ∃ T' u, v = .iface T' u)) (hsnil : ∀ {t v m}, Rs t v m → (t = .null ∧ v = .nilIface) ∨ (t ≠ .null ∧ ∃ T' u, v = .iface T' u))
    (hdlook : ∀ {k t v m}, Rd k t v m → Look t v) (hslook : ∀ {t v m}, Rs t v m → Look t v) (hsnull : Rs .null .nilIface []) (hup : ∀ {k t v m}, Rs t v m → Rd k t v m)
    (hrec : ∀ (k : Key) (de se : List (Key × T)) (rd rs : Nat) (md ms : Heap) (pre : Key) (mg : Bool) (F : Heap), Rd k (.tab de) (.iface 63 (.map (some rd))) md → Rs (.tab se) (.iface 63 (.map (some rs))) ms → pre.length ≤ bnd →
      Tri Try.prog W0 43 [.func (.func 44) #[] #[], .map (some rd), .map (some rs), str pre, .bool mg] (md ++ (ms ++ F)) fun v M' => v = .map (some rd) ∧ ∃ re m', Rd k (.tab re) (.iface 63 (.map (some rd))) m' ∧ KeysOk re ∧ Coal mg de se re ∧ M' = m' ++ F)
    (d0 s0 : Key → Option T) (rd rs : Nat) (kvd0 kvs0 : KV) (dts0 sts0 : List (Key × T)) (mdk msk : Heap) (pre : Key) (mg : Bool) (F : Heap) (hkd0 : KidsK Rd dts0 kvd0.list mdk) (hks0 : Kids Rs sts0 kvs0.list msk) (hnmd0 : ∀ p, p ∈ dts0 → Nm p.1) (hnms0 : ∀ p, p ∈ sts0 → Nm p.1)
    (hd0l : ∀ k, dts0.lookup k = d0 k) (hs0l : ∀ k, sts0.lookup k = s0 k) (hpre : pre.length + 7 ≤ bnd) :
    Tri Try.prog W0 43 [.func (.func 44) #[] #[], .map (some rd), .map (some rs), str pre, .bool mg] ((rd, kvd0.obj) :: (rs, kvs0.obj) :: (mdk ++ (msk ++ F))) fun v M' => v = .map (some rd) ∧ ∃ (kvd : KV) (dts : List (Key × T)) (md : Heap), KidsK Rd dts kvd.list md ∧ (∀ p, p ∈ dts → Nm p.1) ∧ (∀ k, CoalV mg (d0 k) (s0 k) (dts.lookup k)) ∧ M' = ((rd, kvd.obj) :: md) ++ F := by
  have hd0in : ∀ k, (d0 k).isSome = true → k ∈ kvd0.list.map (·.1) := fun k h => by
    rw [← hd0l] at h
    obtain ⟨t, ht⟩ := Option.isSome_iff_exists.1 h
    rw [← hkd0.keys]
    exact List.mem_map.2 ⟨_, mem_of_lookup ht, rfl⟩
  have hs0in : ∀ k, (s0 k).isSome = true → k ∈ kvs0.list.map (·.1) := fun k h => by
    rw [← hs0l] at h
    obtain ⟨t, ht⟩ := Option.isSome_iff_exists.1 h
    rw [← hks0.keys]
    exact List.mem_map.2 ⟨_, mem_of_lookup ht, rfl⟩
  have hnmd0' : ∀ {k : Key} {v : Value}, (k, v) ∈ kvd0.list → Nm k := fun {k v} h => by
    have h1 : k ∈ kvd0.list.map (·.1) := List.mem_map.2 ⟨_, h, rfl⟩
    rw [← hkd0.keys] at h1
    obtain ⟨p, hp, rfl⟩ := List.mem_map.1 h1
    exact hnmd0 p hp
  refine tri_of 118 Try.func43 rfl Try.ntmps43 (Nat.le_of_ble_eq_true rfl) ?_
  refine c_seq ?_
  refine c_region ?_   -- region 0
  refine g_q (qv_assign rfl) rfl ?_
  refine g_nil ?_
  refine e_seq ?_
  refine c_seq ?_
  refine c_seq ?_
  refine c_region ?_   -- region 1
  refine g_q (qv_move rfl) rfl ?_
  refine g_q (qv_eqm Try.runUnderlying63 rfl) rfl ?_
  refine g_nil ?_
  refine e_seq ?_
  refine c_false rfl ?_   -- t22
  refine c_skip ?_
  refine e_seq ?_
  refine c_seq ?_
  refine c_seq ?_
  refine c_region ?_   -- region 3
  refine g_q (qv_move rfl) rfl ?_
  refine g_q (qv_eqm Try.runUnderlying63 rfl) rfl ?_
  refine g_nil ?_
  refine e_seq ?_
  refine c_false rfl ?_   -- t25
  refine c_skip ?_
  refine e_seq ?_
  refine c_seq ?_
  refine c_region ?_   -- region 5
  refine g_i iv_makeKV rfl ?_
  rintro _ _ ⟨rn, rfl, rfl⟩
  refine g_q (qv_assign rfl) rfl ?_
  refine g_nil ?_
  refine e_seq ?_
  refine c_seq ?_
  refine c_seq ?_
  refine c_region ?_   -- region 6
  refine g_q (qv_move rfl) rfl ?_
  refine g_i (iv_range (m := kvs0) rfl Try.runUnderlying63 m2) rfl ?_
  rintro _ _ ⟨it1, rfl, rfl⟩
  refine g_nil ?_
  refine e_seq ?_
  refine c_block ?_
  refine c_keep (L' := [(0, .func (.func 44) #[] #[]), (1, .map (some rd)), (2, .map (some rs)), (3, str pre), (4, .bool mg), (11, .map (some rn)), (29, ptr it1)]) ⟨rfl, rfl, rfl, rfl, rfl, rfl, rfl, trivial⟩ ?_
  refine c_loop (ι := Array Nat) (fun seen L M' => ∃ nn, L = [(0, .func (.func 44) #[] #[]), (1, .map (some rd)), (2, .map (some rs)), (3, str pre), (4, .bool mg), (11, .map (some rn)), (29, ptr it1)] ∧ Noted s0 ((kvs0.left seen).map (·.1)) nn ∧ M' = (it1, iterObj rs kvs0 seen) :: (rn, nn.obj) :: (rd, kvd0.obj) :: (rs, kvs0.obj) :: (mdk ++ (msk ++ F))) (fun seen => (kvs0.left seen).length) #[] ⟨KV.empty, rfl, Noted.start hs0in, rfl⟩ ?_
  rintro seen _ _ ⟨nn, rfl, hnoted, rfl⟩
  refine c_seq ?_
  refine c_region ?_   -- region 7
  refine g_i (iv_next (i := 0) rfl rfl m3) rfl ?_
  rintro _ _ (⟨hl0, rfl, rfl⟩ | ⟨key, u, seen2, rfl, rfl, hperm2, hcur⟩)
  · refine g_q (qv_extract rfl rfl) rfl ?_
    refine g_nil ?_
    refine e_seq ?_
    refine c_seq ?_
    refine c_false rfl ?_
    refine c_exit ?_
    refine e_exit_then ?_
    refine e_exit_then ?_
    refine e_exit_block ?_
    refine e_seq ?_
    rw [hl0] at hnoted
    refine c_seq ?_
    refine c_seq ?_
    refine c_region ?_   -- region 11
    refine g_q (qv_move rfl) rfl ?_
    refine g_i (iv_range (m := kvd0) rfl Try.runUnderlying63 m2) rfl ?_
    rintro _ _ ⟨it2, rfl, rfl⟩
    refine g_nil ?_
    refine e_seq ?_
    refine c_block ?_
    refine c_keep (L' := [(0, .func (.func 44) #[] #[]), (1, .map (some rd)), (2, .map (some rs)), (3, str pre), (4, .bool mg), (11, .map (some rn)), (40, ptr it2)]) ⟨rfl, rfl, rfl, rfl, rfl, rfl, rfl, trivial⟩ ?_
    refine c_to (M' := (it2, iterObj rd kvd0 #[]) :: (rs, kvs0.obj) :: (rd, kvd0.obj) :: (rn, nn.obj) :: (mdk ++ (msk ++ F))) (fun f => by simp <;> omega) ?_
    refine c_loop (ι := Array Nat) (fun seen L M' => ∃ kvs sts ms, L = [(0, .func (.func 44) #[] #[]), (1, .map (some rd)), (2, .map (some rs)), (3, str pre), (4, .bool mg), (11, .map (some rn)), (40, ptr it2)] ∧ Kids Rs sts (KV.list kvs) ms ∧ (∀ p, p ∈ sts → Nm p.1) ∧ Nulled d0 s0 ((kvd0.left seen).map (·.1)) sts ∧ M' = (it2, iterObj rd kvd0 seen) :: (rs, kvs.obj) :: (rd, kvd0.obj) :: (rn, nn.obj) :: (mdk ++ (ms ++ F))) (fun seen => (kvd0.left seen).length) #[] ⟨kvs0, sts0, msk, rfl, hks0, hnms0, Nulled.start hs0l hd0in, rfl⟩ ?_
    rintro seen _ _ ⟨kvs, sts, ms, rfl, hks, hnmst, hnulled, rfl⟩
    refine c_seq ?_
    refine c_region ?_   -- region 12
    refine g_i (iv_next (i := 0) rfl rfl m2) rfl ?_
    rintro _ _ (⟨hl0, rfl, rfl⟩ | ⟨key, u, seen2, rfl, rfl, hperm2, hcur⟩)
    · refine g_q (qv_extract rfl rfl) rfl ?_
      refine g_nil ?_
      refine e_seq ?_
      refine c_seq ?_
      refine c_false rfl ?_
      refine c_exit ?_
      refine e_exit_then ?_
      refine e_exit_then ?_
      refine e_exit_block ?_
      refine e_seq ?_
      rw [hl0] at hnulled
      have hnms : ∀ {k : Key} {v : Value}, (k, v) ∈ kvs.list → Nm k := fun {k v} h => by
        have h1 : k ∈ kvs.list.map (·.1) := List.mem_map.2 ⟨_, h, rfl⟩
        rw [← hks.keys] at h1
        obtain ⟨p, hp, rfl⟩ := List.mem_map.1 h1
        exact hnmst p hp
      refine c_seq ?_
      refine c_seq ?_
      refine c_region ?_   -- region 16
      refine g_q (qv_move rfl) rfl ?_
      refine g_i (iv_range (m := kvs) rfl Try.runUnderlying63 m1) rfl ?_
      rintro _ _ ⟨it3, rfl, rfl⟩
      refine g_nil ?_
      refine e_seq ?_
      refine c_block ?_
      refine c_to (M' := (it3, iterObj rs kvs #[]) :: (rs, kvs.obj) :: (rd, kvd0.obj) :: (rn, nn.obj) :: (mdk ++ (ms ++ F))) (Fits.cons Fits.tail) ?_
      refine c_keep (L' := [(0, .func (.func 44) #[] #[]), (1, .map (some rd)), (3, str pre), (4, .bool mg), (11, .map (some rn)), (51, ptr it3)]) ⟨rfl, rfl, rfl, rfl, rfl, rfl, trivial⟩ ?_
      refine c_loop (ι := Array Nat) (fun seen L M' => ∃ kvd dts md lts ml, L = [(0, .func (.func 44) #[] #[]), (1, .map (some rd)), (3, str pre), (4, .bool mg), (11, .map (some rn)), (51, ptr it3)] ∧ KidsK Rd dts (KV.list kvd) md ∧ Kids Rs lts (kvs.left seen) ml ∧ (∀ p, p ∈ dts → Nm p.1) ∧ Laid mg d0 s0 dts lts ∧ M' = (it3, iterObj rs kvs seen) :: (rs, kvs.obj) :: (rd, kvd.obj) :: (rn, nn.obj) :: (md ++ (ml ++ F))) (fun seen => (kvs.left seen).length) #[] ⟨kvd0, dts0, mdk, sts, ms, rfl, hkd0, by rw [KV.left_start]; exact hks, hnmd0, Laid.start hd0l hnulled, rfl⟩ ?_
      rintro seen _ _ ⟨kvd, dts, md, lts, ml, rfl, hkd, hkl, hnmd, hlaid, rfl⟩
      refine c_seq ?_
      refine c_region ?_   -- region 17
      refine g_i (iv_next (i := 0) rfl rfl m1) rfl ?_
      rintro _ _ (⟨hl0, rfl, rfl⟩ | ⟨key, u, seen2, rfl, rfl, hperm2, hcur⟩)
      · refine g_q (qv_extract rfl rfl) rfl ?_
        refine g_nil ?_
        refine e_seq ?_
        refine c_seq ?_
        refine c_false rfl ?_
        refine c_exit ?_
        refine e_exit_then ?_
        refine e_exit_then ?_
        refine e_exit_block ?_
        refine e_seq ?_
        rw [hl0] at hkl
        obtain ⟨rfl, rfl⟩ := hkl.none
        have hcd := hlaid.done
        refine c_seq ?_
        refine c_region ?_   -- region 31
        refine g_q (qv_move rfl) rfl ?_
        refine g_q (qv_assign rfl) rfl ?_
        refine g_nil ?_
        refine e_seq ?_
        refine c_ret ?_
        exact e_to (M' := ((rd, kvd.obj) :: md) ++ F) (fun f => by simp <;> omega) (e_ret1 (.inl rfl) Try.results43 rfl ⟨rfl, kvd, dts, md, hkd, hnmd, hcd, rfl⟩)
      · have hmu : (kvs.left seen2).length < (kvs.left seen).length := by
          rw [hperm2.length_eq]
          exact Nat.lt_succ_self _
        have hpk : ((kvs.left seen).map (·.1)).Perm (key :: (kvs.left seen2).map (·.1)) := hperm2.map (·.1)
        obtain ⟨lts', ml', hpl0, hpml, hkl'⟩ := hkl.perm hperm2
        obtain ⟨t, lts2, mu, ml2, rfl, rfl, hru, hkl2⟩ := hkl'.cons
        have hpl := hpl0
        have hndl : (lts.map (·.1)).Nodup := by rw [hkl.keys]; exact left_nodup kvs seen
        obtain ⟨hs1, hdk⟩ := hlaid.here hpl hndl
        have hnm : Nm key := hnms (KV.cur_mem hcur)
        have hkey6 : key.length ≤ 6 := hnm.ok.2.2
        obtain ⟨nk, hnnv, hnkT⟩ := hnoted.at key
        have hiu : u = .nilIface ∨ ∃ T1 u1, u = .iface T1 u1 := (hsnil hru).elim (fun h => Or.inl h.2) (fun h => Or.inr h.2)
        refine g_to (M' := (it3, iterObj rs kvs seen2) :: (rs, kvs.obj) :: (rd, kvd.obj) :: (rn, nn.obj) :: (md ++ ((mu ++ ml2) ++ F))) (Fits.cons (Fits.cons (Fits.cons (Fits.cons (Fits.app (Fits.refl _) (Fits.app (Fits.of_perm hpml) (Fits.refl _))))))) ?_
        rcases hkd.lookup key with ⟨hdn, hvd⟩ | ⟨_, dv, _, _, hvd, _⟩
        · rw [hdn] at hdk
          have hcoal : CoalV mg (d0 key) (s0 key) (some t) := by rw [← hdk] at hs1 ⊢; rw [show s0 key = some t from by simpa [isNullO] using hs1.symm]; exact .base t
          refine g_q (qv_extract rfl rfl) rfl ?_
          refine g_nil ?_
          refine e_seq ?_
          refine c_seq ?_
          refine c_true rfl ?_
          refine c_skip ?_
          refine e_seq ?_
          refine c_block ?_
          refine c_seq ?_
          refine c_region ?_   -- region 18
          refine g_q (qv_entry (k := key) (v := u) rfl m0 m1 hcur) rfl ?_
          refine g_q (qv_extract rfl rfl) rfl ?_
          refine g_q (qv_extract rfl rfl) rfl ?_
          refine g_q (qv_assign rfl) rfl ?_
          refine g_q (qv_assign rfl) rfl ?_
          refine g_nil ?_
          refine e_seq ?_
          refine c_seq ?_
          refine c_region ?_   -- region 19
          refine g_q (qv_move rfl) rfl ?_
          refine g_q (qv_move rfl) rfl ?_
          refine g_i (iv_call (vs := [str pre, str key]) Try.call54 ⟨rfl, rfl, trivial⟩ (concat_any pre key _ (by omega) hkey6)) rfl ?_
          rintro _ _ ⟨full, rfl, hfull, rfl⟩
          refine g_q (qv_assign rfl) rfl ?_
          refine g_nil ?_
          refine e_seq ?_
          refine c_seq ?_
          refine c_region ?_   -- region 20
          refine g_q (qv_move rfl) rfl ?_
          refine g_q (qv_move rfl) rfl ?_
          refine g_q (QV.to (v' := .tuple #[.nilIface, .bool false]) (qv_lookup2 (m := kvd) (k := key) rfl rfl Try.runUnderlying63 Try.runUnderlying9 Try.zeroValue20 m2) (by rw [hvd]; rfl)) rfl ?_
          refine g_q (qv_move rfl) rfl ?_
          refine g_q (qv_extract rfl rfl) rfl ?_
          refine g_q (qv_extract rfl rfl) rfl ?_
          refine g_q (qv_assign rfl) rfl ?_
          refine g_q (qv_assign rfl) rfl ?_
          refine g_nil ?_
          refine e_seq ?_
          refine c_seq ?_
          refine c_region ?_   -- region 21
          refine g_q (qv_move rfl) rfl ?_
          refine g_q (qv_move rfl) rfl ?_
          refine g_off rfl rfl rfl rfl ?_
          refine g_off rfl rfl rfl rfl ?_
          refine g_q (qv_pick_f rfl rfl) rfl ?_
          refine g_q (qv_move rfl) rfl ?_
          refine g_off rfl rfl rfl rfl ?_
          refine g_off rfl rfl rfl rfl ?_
          refine g_q (qv_pick_f rfl rfl) rfl ?_
          refine g_q (qv_move rfl) rfl ?_
          refine g_off rfl rfl rfl rfl ?_
          refine g_off rfl rfl rfl rfl ?_
          refine g_off rfl rfl rfl rfl ?_
          refine g_q (qv_pick_f rfl rfl) rfl ?_
          refine g_nil ?_
          refine e_seq ?_
          refine c_false rfl ?_
          refine c_seq ?_
          refine c_region ?_   -- region 23
          refine g_q (qv_move rfl) rfl ?_
          refine g_q (qv_not rfl) rfl ?_
          refine g_nil ?_
          refine e_seq ?_
          refine c_true rfl ?_
          refine c_region ?_   -- region 24
          refine g_q (qv_move rfl) rfl ?_
          refine g_q (qv_move rfl) rfl ?_
          refine g_q (qv_move rfl) rfl ?_
          refine g_i0 (iv_put (i := 2) (m := kvd) rfl rfl rfl Try.runUnderlying63 Try.runUnderlying9 rfl) ?_
          rintro _ _ rfl
          refine g_nil ?_
          refine e_normal_block ?_
          have hput : (kvd.put key u).list = kvd.list ++ [(key, u)] := by rw [KV.list_put, putL, hvd]; rfl
          refine e_to (M' := (it3, iterObj rs kvs seen2) :: (rs, kvs.obj) :: (rd, (kvd.put key u).obj) :: (rn, nn.obj) :: ((md ++ mu) ++ (ml2 ++ F))) (fun f => by simp <;> omega) ?_
          exact e_again seen2 hmu (L' := [(0, .func (.func 44) #[] #[]), (1, .map (some rd)), (3, str pre), (4, .bool mg), (11, .map (some rn)), (51, ptr it3)]) ⟨rfl, rfl, rfl, rfl, rfl, rfl, trivial⟩ ⟨kvd.put key u, dts ++ [(key, t)], md ++ mu, lts2, ml2, rfl, (by rw [hput]; exact hkd.append (KidsK.single (hup hru))), hkl2, (fun p hp => (List.mem_append.1 hp).elim (hnmd p) (fun h => by rw [List.mem_singleton.1 h]; exact hnm)), (hlaid.step hpl hndl (c := some t) (fun k' => lookup_snoc hdn t k') hcoal), rfl⟩
        · obtain ⟨dts1, d, dts2, md1, mv, md2, hdeq, hd1, hmdeq, hrd, hback⟩ := hkd.out hvd
          have hdk2 : dts.lookup key = some d := by rw [hdeq]; exact lookup_mid_self hd1 d
          have hd0 : d0 key = some d := by rw [← hdk, hdk2]
          rw [hd0] at hs1
          refine g_q (qv_extract rfl rfl) rfl ?_
          refine g_nil ?_
          refine e_seq ?_
          refine c_seq ?_
          refine c_true rfl ?_
          refine c_skip ?_
          refine e_seq ?_
          refine c_block ?_
          refine c_seq ?_
          refine c_region ?_   -- region 18
          refine g_q (qv_entry (k := key) (v := u) rfl m0 m1 hcur) rfl ?_
          refine g_q (qv_extract rfl rfl) rfl ?_
          refine g_q (qv_extract rfl rfl) rfl ?_
          refine g_q (qv_assign rfl) rfl ?_
          refine g_q (qv_assign rfl) rfl ?_
          refine g_nil ?_
          refine e_seq ?_
          refine c_seq ?_
          refine c_region ?_   -- region 19
          refine g_q (qv_move rfl) rfl ?_
          refine g_q (qv_move rfl) rfl ?_
          refine g_i (iv_call (vs := [str pre, str key]) Try.call54 ⟨rfl, rfl, trivial⟩ (concat_any pre key _ (by omega) hkey6)) rfl ?_
          rintro _ _ ⟨full, rfl, hfull, rfl⟩
          refine g_q (qv_assign rfl) rfl ?_
          refine g_nil ?_
          refine e_seq ?_
          refine c_seq ?_
          refine c_region ?_   -- region 20
          refine g_q (qv_move rfl) rfl ?_
          refine g_q (qv_move rfl) rfl ?_
          refine g_q (QV.to (v' := .tuple #[dv, .bool true]) (qv_lookup2 (m := kvd) (k := key) rfl rfl Try.runUnderlying63 Try.runUnderlying9 Try.zeroValue20 m2) (by rw [hvd]; rfl)) rfl ?_
          refine g_q (qv_move rfl) rfl ?_
          refine g_q (qv_extract rfl rfl) rfl ?_
          refine g_q (qv_extract rfl rfl) rfl ?_
          refine g_q (qv_assign rfl) rfl ?_
          refine g_q (qv_assign rfl) rfl ?_
          refine g_nil ?_
          refine e_seq ?_
          refine c_cut (fun L' M' => ∃ β : Bool, (β = true ↔ (mg = false ∧ d = .null ∧ nk = true)) ∧ L' = [(0, .func (.func 44) #[] #[]), (1, .map (some rd)), (3, str pre), (4, .bool mg), (11, .map (some rn)), (16, str key), (17, u), (18, str full), (19, dv), (20, .bool true), (51, ptr it3), (79, .bool β)] ∧ M' = (it3, iterObj rs kvs seen2) :: (rs, kvs.obj) :: (rd, kvd.obj) :: (rn, nn.obj) :: (md ++ ((mu ++ ml2) ++ F))) ?_ ?_
          · refine c_region ?_   -- region 21
            cases mg with
            | true =>
              refine g_q (qv_move rfl) rfl ?_
              refine g_q (qv_move rfl) rfl ?_
              refine g_on rfl rfl ?_
              refine g_q (qv_move rfl) rfl ?_
              refine g_on rfl rfl ?_
              refine g_q (qv_not rfl) rfl ?_
              refine g_q (qv_pick_t rfl rfl) rfl ?_
              refine g_q (qv_move rfl) rfl ?_
              refine g_off rfl rfl rfl rfl ?_
              refine g_off rfl rfl rfl rfl ?_
              refine g_q (qv_pick_f rfl rfl) rfl ?_
              refine g_q (qv_move rfl) rfl ?_
              refine g_off rfl rfl rfl rfl ?_
              refine g_off rfl rfl rfl rfl ?_
              refine g_off rfl rfl rfl rfl ?_
              refine g_q (qv_pick_f rfl rfl) rfl ?_
              refine g_nil ?_
              exact e_mid (L' := [(0, .func (.func 44) #[] #[]), (1, .map (some rd)), (3, str pre), (4, .bool true), (11, .map (some rn)), (16, str key), (17, u), (18, str full), (19, dv), (20, .bool true), (51, ptr it3), (79, .bool false)]) ⟨rfl, rfl, rfl, rfl, rfl, rfl, rfl, rfl, rfl, rfl, rfl, rfl, trivial⟩ ⟨false, ⟨fun h => (by cases h), fun h => by cases h.1⟩, rfl, rfl⟩
            | false =>
              rcases hdnil hrd with ⟨rfl, rfl⟩ | ⟨hdnn, T1, u1, rfl⟩
              · refine g_q (qv_move rfl) rfl ?_
                refine g_q (qv_move rfl) rfl ?_
                refine g_on rfl rfl ?_
                refine g_q (qv_move rfl) rfl ?_
                refine g_on rfl rfl ?_
                refine g_q (qv_not rfl) rfl ?_
                refine g_q (qv_pick_t rfl rfl) rfl ?_
                refine g_q (qv_move rfl) rfl ?_
                refine g_on rfl rfl ?_
                refine g_q (qv_move rfl) rfl ?_
                refine g_on rfl rfl ?_
                refine g_q (qv_eqn Try.runUnderlying20 rfl (Or.inl rfl)) rfl ?_
                refine g_q (qv_pick_t rfl rfl) rfl ?_
                refine g_q (qv_move rfl) rfl ?_
                refine g_on rfl rfl ?_
                refine g_q (qv_move rfl) rfl ?_
                refine g_on rfl rfl ?_
                refine g_q (qv_move rfl) rfl ?_
                refine g_on rfl rfl ?_
                refine g_q (QV.to (qv_lookup1 (m := nn) (k := key) rfl rfl Try.runUnderlying112 Try.runUnderlying9 Try.zeroValue4 m3) hnnv) rfl ?_
                refine g_q (qv_pick_t rfl rfl) rfl ?_
                refine g_nil ?_
                exact e_mid (L' := [(0, .func (.func 44) #[] #[]), (1, .map (some rd)), (3, str pre), (4, .bool false), (11, .map (some rn)), (16, str key), (17, u), (18, str full), (19, .nilIface), (20, .bool true), (51, ptr it3), (79, .bool nk)]) ⟨rfl, rfl, rfl, rfl, rfl, rfl, rfl, rfl, rfl, rfl, rfl, rfl, trivial⟩ ⟨nk, ⟨fun h => ⟨rfl, rfl, h⟩, fun h => h.2.2⟩, rfl, rfl⟩
              · refine g_q (qv_move rfl) rfl ?_
                refine g_q (qv_move rfl) rfl ?_
                refine g_on rfl rfl ?_
                refine g_q (qv_move rfl) rfl ?_
                refine g_on rfl rfl ?_
                refine g_q (qv_not rfl) rfl ?_
                refine g_q (qv_pick_t rfl rfl) rfl ?_
                refine g_q (qv_move rfl) rfl ?_
                refine g_on rfl rfl ?_
                refine g_q (qv_move rfl) rfl ?_
                refine g_on rfl rfl ?_
                refine g_q (qv_eqn Try.runUnderlying20 rfl (Or.inr ⟨_, _, rfl⟩)) rfl ?_
                refine g_q (qv_pick_t rfl rfl) rfl ?_
                refine g_q (qv_move rfl) rfl ?_
                refine g_off rfl rfl rfl rfl ?_
                refine g_off rfl rfl rfl rfl ?_
                refine g_off rfl rfl rfl rfl ?_
                refine g_q (qv_pick_f rfl rfl) rfl ?_
                refine g_nil ?_
                exact e_mid (L' := [(0, .func (.func 44) #[] #[]), (1, .map (some rd)), (3, str pre), (4, .bool false), (11, .map (some rn)), (16, str key), (17, u), (18, str full), (19, .iface T1 u1), (20, .bool true), (51, ptr it3), (79, .bool false)]) ⟨rfl, rfl, rfl, rfl, rfl, rfl, rfl, rfl, rfl, rfl, rfl, rfl, trivial⟩ ⟨false, ⟨fun h => (by cases h), fun h => absurd h.2.1 hdnn⟩, rfl, rfl⟩
          · rintro _ _ ⟨β, hβ, rfl, rfl⟩
            refine c_cond rfl (fun hc => ?_) (fun hc => ?_)
            · obtain ⟨rfl, rfl, hnk1⟩ := hβ.1 hc
              obtain ⟨md', hkd', hfd⟩ := hkd.less key
              obtain ⟨s9, hs9, hne9⟩ := hnkT.1 hnk1
              refine c_region ?_   -- region 22
              refine g_q (qv_move rfl) rfl ?_
              refine g_q (qv_move rfl) rfl ?_
              refine g_i0 (iv_del (i := 2) (m := kvd) rfl rfl Try.runUnderlying63 Try.runUnderlying9 rfl) ?_
              rintro _ _ rfl
              refine g_nil ?_
              refine e_normal_block ?_
              refine e_to (M' := (it3, iterObj rs kvs seen2) :: (rs, kvs.obj) :: (rd, (kvd.del key).obj) :: (rn, nn.obj) :: (md' ++ (ml2 ++ F))) (Fits.cons (Fits.cons (Fits.cons (Fits.cons (Fits.app hfd (Fits.app (Fits.drop_left) (Fits.refl _))))))) ?_
              exact e_again seen2 hmu (L' := [(0, .func (.func 44) #[] #[]), (1, .map (some rd)), (3, str pre), (4, .bool false), (11, .map (some rn)), (51, ptr it3)]) ⟨rfl, rfl, rfl, rfl, rfl, rfl, trivial⟩ ⟨kvd.del key, _, md', lts2, ml2, rfl, (by rw [KV.list_del]; exact hkd'), hkl2, (fun p hp => hnmd p (List.mem_filter.1 hp).1), (hlaid.step hpl hndl (c := none) (fun k' => lookup_filter key dts k') (by rw [hd0, hs9]; exact .del s9 rfl hne9)), rfl⟩
            · have hno : ¬ (mg = false ∧ d = .null ∧ nk = true) := fun h => by rw [hβ.2 h] at hc; cases hc
              refine c_seq ?_
              refine c_region ?_   -- region 23
              refine g_q (qv_move rfl) rfl ?_
              refine g_q (qv_not rfl) rfl ?_
              refine g_nil ?_
              refine e_seq ?_
              refine c_false rfl ?_
              refine c_seq ?_
              refine c_region ?_   -- region 25
              refine g_q (qv_move rfl) rfl ?_
              refine g_i (iv_call (vs := [u]) Try.call55 ⟨rfl, trivial⟩ (istable_gen t u _ (hslook hru))) rfl ?_
              rintro _ _ ⟨rfl, rfl⟩
              refine g_nil ?_
              refine e_seq ?_
              refine c_cond rfl (fun hct => ?_) (fun hct => ?_)
              · obtain ⟨se2, rfl⟩ := isTabT_iff.1 hct
                obtain ⟨r2, rfl⟩ := tab_of (hslook hru)
                refine c_seq ?_
                refine c_region ?_   -- region 26
                refine g_q (qv_move rfl) rfl ?_
                refine g_i (iv_call (vs := [dv]) Try.call55 ⟨rfl, trivial⟩ (istable_gen d dv _ (hdlook hrd))) rfl ?_
                rintro _ _ ⟨rfl, rfl⟩
                refine g_nil ?_
                refine e_seq ?_
                refine c_cond rfl (fun hcd => ?_) (fun hcd => ?_)
                · obtain ⟨de2, rfl⟩ := isTabT_iff.1 hcd
                  obtain ⟨r1, rfl⟩ := tab_of (hdlook hrd)
                  have hs0 : s0 key = some (.tab se2) := by simpa [isNullO] using hs1.symm
                  refine c_to (M' := mv ++ (mu ++ ((it3, iterObj rs kvs seen2) :: (rs, kvs.obj) :: (rd, kvd.obj) :: (rn, nn.obj) :: (md1 ++ (md2 ++ (ml2 ++ F)))))) (fun f => by simp [hmdeq] <;> omega) ?_
                  refine c_drawM (fun _ => false) Try.mixed ?_
                  refine d_takeW 0 rfl (by kernel_rfl) (by kernel_rfl) (by kernel_rfl) rfl (fun _ => qv_move rfl) ?_
                  refine d_takeW 1 rfl (by kernel_rfl) (by kernel_rfl) (by kernel_rfl) rfl (fun _ => qv_move rfl) ?_
                  refine d_takeW 2 rfl (by kernel_rfl) (by kernel_rfl) (by kernel_rfl) rfl (fun _ => qv_as rfl Try.runUnderlying63 (fun _ h => by cases h)) ?_
                  refine d_takeW 3 rfl (by kernel_rfl) (by kernel_rfl) (by kernel_rfl) rfl (fun _ => qv_move rfl) ?_
                  refine d_takeW 4 rfl (by kernel_rfl) (by kernel_rfl) (by kernel_rfl) rfl (fun _ => qv_as rfl Try.runUnderlying63 (fun _ h => by cases h)) ?_
                  refine d_takeW 5 rfl (by kernel_rfl) (by kernel_rfl) (by kernel_rfl) rfl (fun _ => qv_move rfl) ?_
                  refine d_takeW 6 rfl (by kernel_rfl) (by kernel_rfl) (by kernel_rfl) rfl (fun _ => qv_move rfl) ?_
                  refine d_run 7 rfl (by kernel_rfl) rfl (iv_call (vs := [.func (.func 44) #[] #[], .map (some r1), .map (some r2), str full, .bool mg]) Try.call43 ⟨rfl, rfl, rfl, rfl, rfl, trivial⟩ (hrec key de2 se2 r1 r2 mv mu full mg _ hrd hru (by omega))) (fun _ _ _ h => by cases h) ?_
                  rintro _ _ ⟨rfl, re2, mv2, hre2, hok2, hco2, rfl⟩
                  refine d_done (by kernel_rfl) ?_
                  refine e_normal_block ?_
                  refine e_to (M' := (it3, iterObj rs kvs seen2) :: (rs, kvs.obj) :: (rd, kvd.obj) :: (rn, nn.obj) :: ((md1 ++ (mv2 ++ md2)) ++ (ml2 ++ F))) (fun f => by simp <;> omega) ?_
                  exact e_again seen2 hmu (L' := [(0, .func (.func 44) #[] #[]), (1, .map (some rd)), (3, str pre), (4, .bool mg), (11, .map (some rn)), (51, ptr it3)]) ⟨rfl, rfl, rfl, rfl, rfl, rfl, trivial⟩ ⟨kvd, dts1 ++ (key, .tab re2) :: dts2, md1 ++ (mv2 ++ md2), lts2, ml2, rfl, (hback _ _ hre2), hkl2, (nm_mid (hdeq ▸ hnmd)), (hlaid.step hpl hndl (c := some (.tab re2)) (fun k' => by rw [hdeq]; exact lookup_mid hd1 _ _ k') (by rw [hd0, hs0]; exact .both _ _ _ hok2 hco2)), rfl⟩
                · have hnb : ∀ de se, d = .tab de → T.tab se2 ≠ .tab se := fun de se e => by rw [e] at hcd; exact absurd hcd (by simp [isTabT])
                  refine c_region ?_   -- region 28
                  refine g_q (qv_move rfl) rfl ?_
                  refine g_q (qv_move rfl) rfl ?_
                  refine g_q (qv_iface Try.runUnderlying9 (fun _ h => by cases h) rfl) rfl ?_
                  refine g_q (qv_move rfl) rfl ?_
                  refine g_i (iv_buildSlice (vs := [(0, .iface 9 (str full)), (1, .iface 63 (.map (some r2)))]) (cs := #[.iface 9 (str full), .iface 63 (.map (some r2))]) Try.runUnderlying89 Try.sizeOf20 Try.zeroValue20 ⟨rfl, rfl, rfl, rfl, trivial⟩ rfl (by kernel_rfl) rfl) rfl ?_
                  rintro _ _ ⟨bs, rfl, rfl⟩
                  refine g_i (iv_callc (vs := [_, .slice (some ⟨bs, 0, none⟩) 2 2]) (caps := []) Try.call44 rfl ⟨rfl, rfl, trivial⟩ (quiet_any _ _ _)) rfl ?_
                  rintro _ _ rfl
                  refine g_nil ?_
                  refine e_normal_block ?_
                  refine e_to (M' := (it3, iterObj rs kvs seen2) :: (rs, kvs.obj) :: (rd, kvd.obj) :: (rn, nn.obj) :: (md ++ (ml2 ++ F))) (fun f => by simp <;> omega) ?_
                  exact e_again seen2 hmu (L' := [(0, .func (.func 44) #[] #[]), (1, .map (some rd)), (3, str pre), (4, .bool mg), (11, .map (some rn)), (51, ptr it3)]) ⟨rfl, rfl, rfl, rfl, rfl, rfl, trivial⟩ ⟨kvd, dts, md, lts2, ml2, rfl, hkd, hkl2, hnmd, (hlaid.step hpl hndl (c := some d) (fun k' => same_lookup hdk2 k') (by rw [hd0]; exact keep_fact hno hnkT.2 hs1 hnb)), rfl⟩
              · have hnb : ∀ de se, d = .tab de → t ≠ .tab se := fun de se _ e => by rw [e] at hct; exact absurd hct (by simp [isTabT])
                refine c_seq ?_
                refine c_region ?_   -- region 29
                refine g_q (qv_move rfl) rfl ?_
                refine g_i (iv_call (vs := [dv]) Try.call55 ⟨rfl, trivial⟩ (istable_gen d dv _ (hdlook hrd))) rfl ?_
                rintro _ _ ⟨rfl, rfl⟩
                refine g_q (qv_move rfl) rfl ?_
                cases hcd : isTabT d with
                | true =>
                  rcases hiu with rfl | ⟨T1, u1, rfl⟩
                  · refine g_on rfl rfl ?_
                    refine g_q (qv_move rfl) rfl ?_
                    refine g_on rfl rfl ?_
                    refine g_q (qv_nen Try.runUnderlying20 rfl (Or.inl rfl)) rfl ?_
                    refine g_q (qv_pick_t rfl rfl) rfl ?_
                    refine g_nil ?_
                    refine e_seq ?_
                    refine c_false rfl ?_
                    refine c_skip ?_
                    refine e_normal_block ?_
                    refine e_to (M' := (it3, iterObj rs kvs seen2) :: (rs, kvs.obj) :: (rd, kvd.obj) :: (rn, nn.obj) :: (md ++ (ml2 ++ F))) (fun f => by simp <;> omega) ?_
                    exact e_again seen2 hmu (L' := [(0, .func (.func 44) #[] #[]), (1, .map (some rd)), (3, str pre), (4, .bool mg), (11, .map (some rn)), (51, ptr it3)]) ⟨rfl, rfl, rfl, rfl, rfl, rfl, trivial⟩ ⟨kvd, dts, md, lts2, ml2, rfl, hkd, hkl2, hnmd, (hlaid.step hpl hndl (c := some d) (fun k' => same_lookup hdk2 k') (by rw [hd0]; exact keep_fact hno hnkT.2 hs1 hnb)), rfl⟩
                  · refine g_on rfl rfl ?_
                    refine g_q (qv_move rfl) rfl ?_
                    refine g_on rfl rfl ?_
                    refine g_q (qv_nen Try.runUnderlying20 rfl (Or.inr ⟨_, _, rfl⟩)) rfl ?_
                    refine g_q (qv_pick_t rfl rfl) rfl ?_
                    refine g_nil ?_
                    refine e_seq ?_
                    refine c_true rfl ?_
                    refine c_region ?_   -- region 30
                    refine g_q (qv_move rfl) rfl ?_
                    refine g_q (qv_move rfl) rfl ?_
                    refine g_q (qv_iface Try.runUnderlying9 (fun _ h => by cases h) rfl) rfl ?_
                    refine g_q (qv_move rfl) rfl ?_
                    refine g_i (iv_buildSlice (vs := [(0, .iface 9 (str full)), (1, .iface T1 u1)]) (cs := #[.iface 9 (str full), .iface T1 u1]) Try.runUnderlying89 Try.sizeOf20 Try.zeroValue20 ⟨rfl, rfl, rfl, rfl, trivial⟩ rfl (by kernel_rfl) rfl) rfl ?_
                    rintro _ _ ⟨bs, rfl, rfl⟩
                    refine g_i (iv_callc (vs := [_, .slice (some ⟨bs, 0, none⟩) 2 2]) (caps := []) Try.call44 rfl ⟨rfl, rfl, trivial⟩ (quiet_any _ _ _)) rfl ?_
                    rintro _ _ rfl
                    refine g_nil ?_
                    refine e_normal_block ?_
                    refine e_to (M' := (it3, iterObj rs kvs seen2) :: (rs, kvs.obj) :: (rd, kvd.obj) :: (rn, nn.obj) :: (md ++ (ml2 ++ F))) (fun f => by simp <;> omega) ?_
                    exact e_again seen2 hmu (L' := [(0, .func (.func 44) #[] #[]), (1, .map (some rd)), (3, str pre), (4, .bool mg), (11, .map (some rn)), (51, ptr it3)]) ⟨rfl, rfl, rfl, rfl, rfl, rfl, trivial⟩ ⟨kvd, dts, md, lts2, ml2, rfl, hkd, hkl2, hnmd, (hlaid.step hpl hndl (c := some d) (fun k' => same_lookup hdk2 k') (by rw [hd0]; exact keep_fact hno hnkT.2 hs1 hnb)), rfl⟩
                | false =>
                  refine g_off rfl rfl rfl rfl ?_
                  refine g_off rfl rfl rfl rfl ?_
                  refine g_q (qv_pick_f rfl rfl) rfl ?_
                  refine g_nil ?_
                  refine e_seq ?_
                  refine c_false rfl ?_
                  refine c_skip ?_
                  refine e_normal_block ?_
                  refine e_to (M' := (it3, iterObj rs kvs seen2) :: (rs, kvs.obj) :: (rd, kvd.obj) :: (rn, nn.obj) :: (md ++ (ml2 ++ F))) (fun f => by simp <;> omega) ?_
                  exact e_again seen2 hmu (L' := [(0, .func (.func 44) #[] #[]), (1, .map (some rd)), (3, str pre), (4, .bool mg), (11, .map (some rn)), (51, ptr it3)]) ⟨rfl, rfl, rfl, rfl, rfl, rfl, trivial⟩ ⟨kvd, dts, md, lts2, ml2, rfl, hkd, hkl2, hnmd, (hlaid.step hpl hndl (c := some d) (fun k' => same_lookup hdk2 k') (by rw [hd0]; exact keep_fact hno hnkT.2 hs1 hnb)), rfl⟩
    · have hmu : (kvd0.left seen2).length < (kvd0.left seen).length := by
        rw [hperm2.length_eq]
        exact Nat.lt_succ_self _
      have hpk : ((kvd0.left seen).map (·.1)).Perm (key :: (kvd0.left seen2).map (·.1)) := hperm2.map (·.1)
      obtain ⟨d, md1, hdl, hrd⟩ : ∃ d m1, d0 key = some d ∧ Rd key d u m1 := by
        rcases hkd0.lookup key with ⟨_, h2⟩ | ⟨t1, v1, m1, h1, h2, h3, _⟩
        · rw [KV.lookup_cur hcur] at h2; cases h2
        · rw [KV.lookup_cur hcur] at h2; cases h2; exact ⟨t1, m1, by rw [← hd0l, h1], h3⟩
      have hnm : Nm key := hnmd0' (KV.cur_mem hcur)
      refine g_q (qv_extract rfl rfl) rfl ?_
      refine g_nil ?_
      refine e_seq ?_
      refine c_seq ?_
      refine c_true rfl ?_
      refine c_skip ?_
      refine e_seq ?_
      refine c_block ?_
      refine c_seq ?_
      refine c_region ?_   -- region 13
      refine g_q (qv_entry (k := key) (v := u) rfl m0 m2 hcur) rfl ?_
      refine g_q (qv_extract rfl rfl) rfl ?_
      refine g_q (qv_extract rfl rfl) rfl ?_
      refine g_q (qv_assign rfl) rfl ?_
      refine g_q (qv_assign rfl) rfl ?_
      refine g_nil ?_
      refine e_seq ?_
      refine c_seq ?_
      refine c_region ?_   -- region 14
      refine g_q (qv_move rfl) rfl ?_
      rcases hdnil hrd with ⟨rfl, rfl⟩ | ⟨hdnn, T1, u1, rfl⟩
      · refine g_q (qv_eqn Try.runUnderlying20 rfl (Or.inl rfl)) rfl ?_
        refine g_nil ?_
        refine e_seq ?_
        refine c_true rfl ?_
        refine c_region ?_   -- region 15
        refine g_q (qv_move rfl) rfl ?_
        refine g_q (qv_move rfl) rfl ?_
        refine g_i0 (iv_put (i := 1) (m := kvs) rfl rfl rfl Try.runUnderlying63 Try.runUnderlying9 rfl) ?_
        rintro _ _ rfl
        refine g_nil ?_
        refine e_normal_block ?_
        obtain ⟨ms', hks', hfs⟩ := Kids.put (R := Rs) (k := key) (t := .null) (v := .nilIface) (m1 := []) hsnull kvs.nodup hks
        rw [List.append_nil] at hfs
        refine e_to (M' := (it2, iterObj rd kvd0 seen2) :: (rs, (kvs.put key .nilIface).obj) :: (rd, kvd0.obj) :: (rn, nn.obj) :: (mdk ++ (ms' ++ F))) (Fits.cons (Fits.cons (Fits.cons (Fits.cons (Fits.app (Fits.refl _) (Fits.app hfs (Fits.refl _))))))) ?_
        exact e_again seen2 hmu (L' := [(0, .func (.func 44) #[] #[]), (1, .map (some rd)), (2, .map (some rs)), (3, str pre), (4, .bool mg), (11, .map (some rn)), (40, ptr it2)]) ⟨rfl, rfl, rfl, rfl, rfl, rfl, rfl, trivial⟩ ⟨kvs.put key .nilIface, _, ms', rfl, (by rw [KV.list_put]; exact hks'), (fun p hp => (putT_keys _ _ _ p hp).elim (fun h => by rw [h]; exact hnm) (fun ⟨p', h1, h2⟩ => by rw [← h2]; exact hnmst p' h1)), (hnulled.set hpk (left_nodup kvd0 seen) (by rw [hdl]; rfl)), rfl⟩
      · refine g_q (qv_eqn Try.runUnderlying20 rfl (Or.inr ⟨_, _, rfl⟩)) rfl ?_
        refine g_nil ?_
        refine e_seq ?_
        refine c_false rfl ?_
        refine c_skip ?_
        refine e_normal_block ?_
        exact e_again seen2 hmu (L' := [(0, .func (.func 44) #[] #[]), (1, .map (some rd)), (2, .map (some rs)), (3, str pre), (4, .bool mg), (11, .map (some rn)), (40, ptr it2)]) ⟨rfl, rfl, rfl, rfl, rfl, rfl, rfl, trivial⟩ ⟨kvs, sts, ms, rfl, hks, hnmst, (hnulled.pass hpk (left_nodup kvd0 seen) (by rw [hdl]; cases hb : isNullO (some d) with | false => rfl | true => exact absurd (Option.some.inj (isNullO_iff.1 hb)) hdnn)), rfl⟩
  · have hmu : (kvs0.left seen2).length < (kvs0.left seen).length := by
      rw [hperm2.length_eq]
      exact Nat.lt_succ_self _
    have hpk : ((kvs0.left seen).map (·.1)).Perm (key :: (kvs0.left seen2).map (·.1)) := hperm2.map (·.1)
    obtain ⟨s, ms1, hsl, hrs⟩ : ∃ s m1, s0 key = some s ∧ Rs s u m1 := by
      rcases hks0.lookup key with ⟨_, h2⟩ | ⟨t1, v1, m1, h1, h2, h3, _⟩
      · rw [KV.lookup_cur hcur] at h2; cases h2
      · rw [KV.lookup_cur hcur] at h2; cases h2; exact ⟨t1, m1, by rw [← hs0l, h1], h3⟩
    refine g_q (qv_extract rfl rfl) rfl ?_
    refine g_nil ?_
    refine e_seq ?_
    refine c_seq ?_
    refine c_true rfl ?_
    refine c_skip ?_
    refine e_seq ?_
    refine c_block ?_
    refine c_seq ?_
    refine c_region ?_   -- region 8
    refine g_q (qv_entry (k := key) (v := u) rfl m0 m3 hcur) rfl ?_
    refine g_q (qv_extract rfl rfl) rfl ?_
    refine g_q (qv_extract rfl rfl) rfl ?_
    refine g_q (qv_assign rfl) rfl ?_
    refine g_q (qv_assign rfl) rfl ?_
    refine g_nil ?_
    refine e_seq ?_
    refine c_seq ?_
    refine c_region ?_   -- region 9
    refine g_q (qv_move rfl) rfl ?_
    rcases hsnil hrs with ⟨rfl, rfl⟩ | ⟨hsnn, T1, u1, rfl⟩
    · refine g_q (qv_nen Try.runUnderlying20 rfl (Or.inl rfl)) rfl ?_
      refine g_nil ?_
      refine e_seq ?_
      refine c_false rfl ?_
      refine c_skip ?_
      refine e_normal_block ?_
      exact e_again seen2 hmu (L' := [(0, .func (.func 44) #[] #[]), (1, .map (some rd)), (2, .map (some rs)), (3, str pre), (4, .bool mg), (11, .map (some rn)), (29, ptr it1)]) ⟨rfl, rfl, rfl, rfl, rfl, rfl, rfl, trivial⟩ ⟨nn, rfl, (hnoted.pass hpk (fun ⟨s, h1, h2⟩ => by rw [hsl] at h1; exact h2 (Option.some.inj h1).symm)), rfl⟩
    · refine g_q (qv_nen Try.runUnderlying20 rfl (Or.inr ⟨_, _, rfl⟩)) rfl ?_
      refine g_nil ?_
      refine e_seq ?_
      refine c_true rfl ?_
      refine c_region ?_   -- region 10
      refine g_q (qv_move rfl) rfl ?_
      refine g_q (qv_move rfl) rfl ?_
      refine g_i0 (iv_put (i := 1) (m := nn) rfl rfl rfl Try.runUnderlying112 Try.runUnderlying9 rfl) ?_
      rintro _ _ rfl
      refine g_nil ?_
      refine e_normal_block ?_
      exact e_again seen2 hmu (L' := [(0, .func (.func 44) #[] #[]), (1, .map (some rd)), (2, .map (some rs)), (3, str pre), (4, .bool mg), (11, .map (some rn)), (29, ptr it1)]) ⟨rfl, rfl, rfl, rfl, rfl, rfl, rfl, trivial⟩ ⟨nn.put key (.bool true), rfl, (hnoted.note hpk ⟨s, hsl, hsnn⟩), rfl⟩
end Go.Proofs.Ytnnclcfklbeocaa

/-
  The walks, part 12: coalesceTablesFullKey lays one table over the other, as 'Coal' says; its small helpers.
  Conditions: both tables are the call's own and lie in memory as RepA says.
-/
import Derived.Test.YtnnclcfklbeocaaR1
namespace Go.Proofs.Ytnnclcfklbeocaa
open Go.RowKit

variable {W0 : World}

def isTabT : T → Bool
  | .tab _ => true
  | _ => false
theorem isTabT_iff {t : T} : isTabT t = true ↔ ∃ es, t = .tab es := by
  cases t <;> simp [isTabT]
theorem sub_nil {n : Nat} {t : T} {a : Value} {m : Heap} (h : ∃ n', n' < n ∧ RepA n' t a m) : (t = .null ∧ a = .nilIface ∧ m = []) ∨ (t ≠ .null ∧ ∃ T' u, a = .iface T' u) := by
  obtain ⟨_, _, h⟩ := h
  exact h.nil
theorem RepA.ok {n : Nat} {es : List (Key × T)} {a : Value} {m : Heap} (h : RepA n (.tab es) a m) : KeysOk es := by
  obtain ⟨_, _, _, _, _, hok, _⟩ := h.table
  exact hok
theorem lookup_snoc {l : List (Key × T)} {k : Key} (h : l.lookup k = none) (t : T) (k' : Key) : (l ++ [(k, t)]).lookup k' = if k' = k then some t else l.lookup k' := by
  rw [lookup_append, List.lookup_cons]
  by_cases e : k' = k
  · subst e; simp [h]
  · rw [show (k' == k) = false by simpa using e, if_neg e]
    cases l.lookup k' <;> rfl
theorem same_lookup {l : List (Key × T)} {k : Key} {d : T} (h : l.lookup k = some d) (k' : Key) : l.lookup k' = if k' = k then some d else l.lookup k' := by
  by_cases e : k' = k
  · subst e; rw [if_pos rfl, h]
  · rw [if_neg e]
theorem nm_mid {ts1 ts2 : List (Key × T)} {k : Key} {t t' : T} (h : ∀ p, p ∈ ts1 ++ (k, t) :: ts2 → Nm p.1) : ∀ p, p ∈ ts1 ++ (k, t') :: ts2 → Nm p.1 := fun p hp => by
  rcases List.mem_append.1 hp with h1 | h1
  · exact h p (List.mem_append_left _ h1)
  · rcases List.mem_cons.1 h1 with rfl | h2
    · exact h (k, t) (List.mem_append_right _ List.mem_cons_self)
    · exact h p (List.mem_append_right _ (List.mem_cons_of_mem _ h2))
theorem Fits.drop_left {α : Type} {l l' : List α} : Fits (l ++ l') l' := fun f => by simp
theorem Kids.cons {R : T → Value → Heap → Prop} {ts : List (Key × T)} {k : Key} {v : Value} {vs : List (Key × Value)} {m : Heap} (h : Kids R ts ((k, v) :: vs) m) : ∃ t ts2 m1 m2, ts = (k, t) :: ts2 ∧ m = m1 ++ m2 ∧ R t v m1 ∧ Kids R ts2 vs m2 := by
  cases ts with
  | nil => exact h.elim
  | cons p ts =>
    obtain ⟨k', t⟩ := p
    obtain ⟨rfl, m1, m2, hm, hr, hk⟩ := h
    exact ⟨t, ts, m1, m2, rfl, hm, hr, hk⟩
theorem Kids.none {R : T → Value → Heap → Prop} {ts : List (Key × T)} {m : Heap} (h : Kids R ts [] m) : ts = [] ∧ m = [] := by
  cases ts with
  | nil => exact ⟨rfl, h⟩
  | cons p ts => exact h.elim
theorem Noted.start {s0 : Key → Option T} {kv : KV} (h : ∀ k, (s0 k).isSome = true → k ∈ kv.list.map (·.1)) : Noted s0 ((kv.left #[]).map (·.1)) KV.empty :=
  ⟨fun _ => Or.inl rfl, fun _ h1 => (by cases h1), fun k ⟨s, h1, _⟩ => Or.inl (by rw [KV.left_start]; exact h k (by rw [h1]; rfl))⟩
theorem Noted.at {s0 : Key → Option T} {nn : KV} (h : Noted s0 (([] : List (Key × Value)).map (·.1)) nn) (k : Key) : ∃ nk : Bool, (nn.list.lookup k).getD (.bool false) = .bool nk ∧ (nk = true ↔ NonNull (s0 k)) := by
  rcases h.1 k with h1 | h1
  · refine ⟨false, by rw [h1]; rfl, fun h => (by cases h), fun h2 => ?_⟩
    rcases h.2.2 k h2 with h3 | h3
    · cases h3
    · rw [h1] at h3; cases h3
  · exact ⟨true, by rw [h1]; rfl, fun _ => h.2.1 k h1, fun _ => rfl⟩
theorem Nulled.start {d0 s0 : Key → Option T} {kv : KV} {sts : List (Key × T)} (hs : ∀ k, sts.lookup k = s0 k) (hd : ∀ k, (d0 k).isSome = true → k ∈ kv.list.map (·.1)) : Nulled d0 s0 ((kv.left #[]).map (·.1)) sts := fun k => by
  rw [KV.left_start]
  by_cases h : k ∈ kv.list.map (·.1)
  · exact Or.inl ⟨h, hs k⟩
  · refine Or.inr ⟨h, ?_⟩
    have : isNullO (d0 k) = false := by
      cases e : d0 k with
      | none => rfl
      | some d => exact absurd (hd k (by rw [e]; rfl)) h
    rw [this, hs k]
    rfl

theorem quiet_any (s v : Value) (M : Heap) : Tri Try.prog W0 44 [s, v] M fun _ M' => M' = M := by
  refine tri_of 4 Try.func44 rfl Try.ntmps44 (Nat.le_of_ble_eq_true rfl) ?_
  refine c_skip ?_
  exact e_ret0 (.inr rfl) Try.results44 rfl
theorem concat_any (a b : Key) (M : Heap) (ha : a.length ≤ 2000) (hb : b.length ≤ 6) : Tri Try.prog W0 54 [str a, str b] M fun v M' => ∃ s, v = str s ∧ s.length ≤ a.length + 1 + b.length ∧ M' = M := by
  refine tri_of 12 Try.func54 rfl Try.ntmps54 (Nat.le_of_ble_eq_true rfl) ?_
  refine c_seq ?_
  refine c_region ?_   -- region 0
  refine g_q (qv_assign rfl) rfl ?_
  refine g_nil ?_
  refine e_seq ?_
  refine c_seq ?_
  refine c_seq ?_
  refine c_region ?_   -- region 1
  refine g_q (qv_move rfl) rfl ?_
  refine g_q (qv_eqs (t := []) rfl rfl) rfl ?_
  refine g_nil ?_
  refine e_seq ?_
  refine c_cond rfl (fun hc => ?_) (fun hc => ?_)   -- t6
  · -- true
    refine c_seq ?_
    refine c_region ?_   -- region 2
    refine g_q (qv_move rfl) rfl ?_
    refine g_q (qv_assign rfl) rfl ?_
    refine g_nil ?_
    refine e_seq ?_
    refine c_ret ?_
    refine e_ret_then (?_)
    exact e_ret1 (.inl rfl) Try.results54 rfl ⟨b, rfl, by omega, rfl⟩
  · -- false
    refine c_skip ?_
    refine e_seq ?_
    refine c_seq ?_
    refine c_region ?_   -- region 3
    refine g_q (qv_move rfl) rfl ?_
    refine g_q (qv_adds (t := [46]) rfl rfl (by simp only [List.length_cons, List.length_nil]; omega)) rfl ?_
    refine g_q (qv_move rfl) rfl ?_
    refine g_q (qv_adds rfl rfl (by simp only [List.length_append, List.length_cons, List.length_nil]; omega)) rfl ?_
    refine g_q (qv_assign rfl) rfl ?_
    refine g_nil ?_
    refine e_seq ?_
    refine c_ret ?_
    refine ?_
    exact e_ret1 (.inl rfl) Try.results54 rfl ⟨_, rfl, by simp only [List.length_append, List.length_cons, List.length_nil]; omega, rfl⟩
theorem istable_any (n : Nat) (t : T) (a : Value) (m M : Heap) (h : ∃ n', n' < n ∧ RepA n' t a m) : Tri Try.prog W0 55 [a] M fun v M' => v = .bool (isTabT t) ∧ M' = M := by
  obtain ⟨n', _, h⟩ := h
  rcases h.look with ⟨es, r, _, _, _, rfl, rfl, _⟩ | ⟨hnt, hv⟩
  · skip
    refine tri_of 11 Try.func55 rfl Try.ntmps55 (Nat.le_of_ble_eq_true rfl) ?_
    refine c_seq ?_
    refine c_region ?_   -- region 0
    refine g_q (qv_assign rfl) rfl ?_
    refine g_nil ?_
    refine e_seq ?_
    refine c_seq ?_
    refine c_region ?_   -- region 1
    refine g_q (qv_move rfl) rfl ?_
    refine g_q (qv_is rfl Try.runUnderlying63 (fun _ h => by cases h)) rfl ?_
    refine g_q (qv_move rfl) rfl ?_
    refine g_q (qv_extract rfl rfl) rfl ?_
    refine g_q (qv_extract rfl rfl) rfl ?_
    refine g_q (qv_assign rfl) rfl ?_
    refine g_q (qv_assign rfl) rfl ?_
    refine g_nil ?_
    refine e_seq ?_
    refine c_seq ?_
    refine c_region ?_   -- region 2
    refine g_q (qv_move rfl) rfl ?_
    refine g_q (qv_assign rfl) rfl ?_
    refine g_nil ?_
    refine e_seq ?_
    refine c_ret ?_
    refine ?_
    exact e_ret1 (.inl rfl) Try.results55 rfl ⟨rfl, rfl⟩
  · have hf : isTabT t = false := by
      cases e : isTabT t with
      | false => rfl
      | true => obtain ⟨es, e⟩ := isTabT_iff.1 e; exact absurd e (hnt es)
    refine tri_of 11 Try.func55 rfl Try.ntmps55 (Nat.le_of_ble_eq_true rfl) ?_
    refine c_seq ?_
    refine c_region ?_   -- region 0
    refine g_q (qv_assign rfl) rfl ?_
    refine g_nil ?_
    refine e_seq ?_
    refine c_seq ?_
    refine c_region ?_   -- region 1
    refine g_q (qv_move rfl) rfl ?_
    refine g_q (qv_isntX (hv.imp id fun ⟨T', u, h1, h2, _⟩ => ⟨T', u, h1, h2⟩) rfl Try.runUnderlying63 (fun _ h => by cases h) Try.zeroValue63) rfl ?_
    refine g_q (qv_move rfl) rfl ?_
    refine g_q (qv_extract rfl rfl) rfl ?_
    refine g_q (qv_extract rfl rfl) rfl ?_
    refine g_q (qv_assign rfl) rfl ?_
    refine g_q (qv_assign rfl) rfl ?_
    refine g_nil ?_
    refine e_seq ?_
    refine c_seq ?_
    refine c_region ?_   -- region 2
    refine g_q (qv_move rfl) rfl ?_
    refine g_q (qv_assign rfl) rfl ?_
    refine g_nil ?_
    refine e_seq ?_
    refine c_ret ?_
    refine ?_
    exact e_ret1 (.inl rfl) Try.results55 rfl ⟨by rw [hf], rfl⟩
def CoalSpec (W0 : World) (n : Nat) : Prop := ∀ (de se : List (Key × T)) (rd rs : Nat) (md ms : Heap) (pre : Key) (mg : Bool) (F : Heap), RepA n (.tab de) (.iface 63 (.map (some rd))) md → RepA n (.tab se) (.iface 63 (.map (some rs))) ms → pre.length + 7 * n ≤ 1000 →
  Tri Try.prog W0 43 [.func (.func 44) #[] #[], .map (some rd), .map (some rs), str pre, .bool mg] (md ++ (ms ++ F)) fun v M' => v = .map (some rd) ∧ ∃ re m', RepA n (.tab re) (.iface 63 (.map (some rd))) m' ∧ Coal mg de se re ∧ M' = m' ++ F

set_option maxHeartbeats 8000000 in
theorem coal_step (n : Nat) (ih : ∀ N, N < n → CoalSpec W0 N) : CoalSpec W0 n := by
  intro de se rd rs md0 ms0 pre mg F hd hs hpre
  obtain ⟨_, kvd0, dts0, mdk, e, hokd, hpd, hkd0, rfl⟩ := hd.table
  cases e
  obtain ⟨_, kvs0, sts0, msk, e, hoks, hps, hks0, rfl⟩ := hs.table
  cases e
  obtain ⟨d0, hd0⟩ : ∃ d0 : Key → Option T, d0 = fun k => de.lookup k := ⟨_, rfl⟩
  obtain ⟨s0, hs0⟩ : ∃ s0 : Key → Option T, s0 = fun k => se.lookup k := ⟨_, rfl⟩
  have hd0l : ∀ k, dts0.lookup k = d0 k := fun k => by rw [hd0]; exact lookup_perm hpd (perm_keys_nodup hokd hpd) k
  have hs0l : ∀ k, sts0.lookup k = s0 k := fun k => by rw [hs0]; exact lookup_perm hps (perm_keys_nodup hoks hps) k
  have hin : ∀ {ts : List (Key × T)} {kv : KV} {m : Heap}, Kids (fun t v m => ∃ n', n' < n ∧ RepA n' t v m) ts kv.list m → ∀ k, (ts.lookup k).isSome = true → k ∈ kv.list.map (·.1) := fun {ts kv m} hk k h => by
    obtain ⟨t, ht⟩ := Option.isSome_iff_exists.1 h
    rw [← hk.keys]
    exact List.mem_map.2 ⟨_, mem_of_lookup ht, rfl⟩
  have hd0in : ∀ k, (d0 k).isSome = true → k ∈ kvd0.list.map (·.1) := fun k h => hin hkd0 k (by rw [hd0l]; exact h)
  have hs0in : ∀ k, (s0 k).isSome = true → k ∈ kvs0.list.map (·.1) := fun k h => hin hks0 k (by rw [hs0l]; exact h)
  have hnmd0 : ∀ p, p ∈ dts0 → Nm p.1 := fun p hp => hokd.2 p (hpd.mem_iff.1 hp)
  have hnms0 : ∀ p, p ∈ sts0 → Nm p.1 := fun p hp => hoks.2 p (hps.mem_iff.1 hp)
  have hnmd0' : ∀ {k : Key} {v : Value}, (k, v) ∈ kvd0.list → Nm k := fun {k v} h => by
    have h1 : k ∈ kvd0.list.map (·.1) := List.mem_map.2 ⟨_, h, rfl⟩
    rw [← hkd0.keys] at h1
    obtain ⟨p, hp, rfl⟩ := List.mem_map.1 h1
    exact hnmd0 p hp
  suffices hco : Tri Try.prog W0 43 [.func (.func 44) #[] #[], .map (some rd), .map (some rs), str pre, .bool mg] ((rd, kvd0.obj) :: (rs, kvs0.obj) :: (mdk ++ (msk ++ F))) fun v M' => v = .map (some rd) ∧ ∃ re m', RepA n (.tab re) (.iface 63 (.map (some rd))) m' ∧ (∀ k, CoalV mg (d0 k) (s0 k) (re.lookup k)) ∧ M' = m' ++ F by
    rw [hd0, hs0] at hco
    exact hco.to (fun f => by simp <;> omega)
  clear hd hs hd0 hs0
  refine tri_of 118 Try.func43 rfl Try.ntmps43 (Nat.le_of_ble_eq_true rfl) ?_
  refine c_seq ?_
  refine c_region ?_   -- region 0
  refine g_q (qv_assign rfl) rfl ?_
  refine g_nil ?_
  refine e_seq ?_
  refine c_seq ?_
  refine c_seq ?_
  refine c_region ?_   -- region 1
  refine g_q (qv_move rfl) rfl ?_
  refine g_q (qv_eqm Try.runUnderlying63 rfl) rfl ?_
  refine g_nil ?_
  refine e_seq ?_
  refine c_false rfl ?_   -- t22
  refine c_skip ?_
  refine e_seq ?_
  refine c_seq ?_
  refine c_seq ?_
  refine c_region ?_   -- region 3
  refine g_q (qv_move rfl) rfl ?_
  refine g_q (qv_eqm Try.runUnderlying63 rfl) rfl ?_
  refine g_nil ?_
  refine e_seq ?_
  refine c_false rfl ?_   -- t25
  refine c_skip ?_
  refine e_seq ?_
  refine c_seq ?_
  refine c_region ?_   -- region 5
  refine g_i iv_makeKV rfl ?_
  rintro _ _ ⟨rn, rfl, rfl⟩
  refine g_q (qv_assign rfl) rfl ?_
  refine g_nil ?_
  refine e_seq ?_
  refine c_seq ?_
  refine c_seq ?_
  refine c_region ?_   -- region 6
  refine g_q (qv_move rfl) rfl ?_
  refine g_i (iv_range (m := kvs0) rfl Try.runUnderlying63 m2) rfl ?_
  rintro _ _ ⟨it1, rfl, rfl⟩
  refine g_nil ?_
  refine e_seq ?_
  refine c_block ?_
  refine c_keep (L' := [(0, .func (.func 44) #[] #[]), (1, .map (some rd)), (2, .map (some rs)), (3, str pre), (4, .bool mg), (11, .map (some rn)), (29, ptr it1)]) ⟨rfl, rfl, rfl, rfl, rfl, rfl, rfl, trivial⟩ ?_
  refine c_loop (ι := Array Nat) (fun seen L M' => ∃ nn, L = [(0, .func (.func 44) #[] #[]), (1, .map (some rd)), (2, .map (some rs)), (3, str pre), (4, .bool mg), (11, .map (some rn)), (29, ptr it1)] ∧ Noted s0 ((kvs0.left seen).map (·.1)) nn ∧ M' = (it1, iterObj rs kvs0 seen) :: (rn, nn.obj) :: (rd, kvd0.obj) :: (rs, kvs0.obj) :: (mdk ++ (msk ++ F))) (fun seen => (kvs0.left seen).length) #[] ⟨KV.empty, rfl, Noted.start hs0in, rfl⟩ ?_
  rintro seen _ _ ⟨nn, rfl, hnoted, rfl⟩
  refine c_seq ?_
  refine c_region ?_   -- region 7
  refine g_i (iv_next (i := 0) rfl rfl m3) rfl ?_
  rintro _ _ (⟨hl0, rfl, rfl⟩ | ⟨key, u, seen2, rfl, rfl, hperm2, hcur⟩)
  · refine g_q (qv_extract rfl rfl) rfl ?_
    refine g_nil ?_
    refine e_seq ?_
    refine c_seq ?_
    refine c_false rfl ?_
    refine c_exit ?_
    refine e_exit_then ?_
    refine e_exit_then ?_
    refine e_exit_block ?_
    refine e_seq ?_
    rw [hl0] at hnoted
    refine c_seq ?_
    refine c_seq ?_
    refine c_region ?_   -- region 11
    refine g_q (qv_move rfl) rfl ?_
    refine g_i (iv_range (m := kvd0) rfl Try.runUnderlying63 m2) rfl ?_
    rintro _ _ ⟨it2, rfl, rfl⟩
    refine g_nil ?_
    refine e_seq ?_
    refine c_block ?_
    refine c_keep (L' := [(0, .func (.func 44) #[] #[]), (1, .map (some rd)), (2, .map (some rs)), (3, str pre), (4, .bool mg), (11, .map (some rn)), (40, ptr it2)]) ⟨rfl, rfl, rfl, rfl, rfl, rfl, rfl, trivial⟩ ?_
    refine c_to (M' := (it2, iterObj rd kvd0 #[]) :: (rs, kvs0.obj) :: (rd, kvd0.obj) :: (rn, nn.obj) :: (mdk ++ (msk ++ F))) (fun f => by simp <;> omega) ?_
    refine c_loop (ι := Array Nat) (fun seen L M' => ∃ kvs sts ms, L = [(0, .func (.func 44) #[] #[]), (1, .map (some rd)), (2, .map (some rs)), (3, str pre), (4, .bool mg), (11, .map (some rn)), (40, ptr it2)] ∧ Kids (fun t v m => ∃ n', n' < n ∧ RepA n' t v m) sts (KV.list kvs) ms ∧ (∀ p, p ∈ sts → Nm p.1) ∧ Nulled d0 s0 ((kvd0.left seen).map (·.1)) sts ∧ M' = (it2, iterObj rd kvd0 seen) :: (rs, kvs.obj) :: (rd, kvd0.obj) :: (rn, nn.obj) :: (mdk ++ (ms ++ F))) (fun seen => (kvd0.left seen).length) #[] ⟨kvs0, sts0, msk, rfl, hks0, hnms0, Nulled.start hs0l hd0in, rfl⟩ ?_
    rintro seen _ _ ⟨kvs, sts, ms, rfl, hks, hnmst, hnulled, rfl⟩
    refine c_seq ?_
    refine c_region ?_   -- region 12
    refine g_i (iv_next (i := 0) rfl rfl m2) rfl ?_
    rintro _ _ (⟨hl0, rfl, rfl⟩ | ⟨key, u, seen2, rfl, rfl, hperm2, hcur⟩)
    · refine g_q (qv_extract rfl rfl) rfl ?_
      refine g_nil ?_
      refine e_seq ?_
      refine c_seq ?_
      refine c_false rfl ?_
      refine c_exit ?_
      refine e_exit_then ?_
      refine e_exit_then ?_
      refine e_exit_block ?_
      refine e_seq ?_
      rw [hl0] at hnulled
      have hnms : ∀ {k : Key} {v : Value}, (k, v) ∈ kvs.list → Nm k := fun {k v} h => by
        have h1 : k ∈ kvs.list.map (·.1) := List.mem_map.2 ⟨_, h, rfl⟩
        rw [← hks.keys] at h1
        obtain ⟨p, hp, rfl⟩ := List.mem_map.1 h1
        exact hnmst p hp
      refine c_seq ?_
      refine c_seq ?_
      refine c_region ?_   -- region 16
      refine g_q (qv_move rfl) rfl ?_
      refine g_i (iv_range (m := kvs) rfl Try.runUnderlying63 m1) rfl ?_
      rintro _ _ ⟨it3, rfl, rfl⟩
      refine g_nil ?_
      refine e_seq ?_
      refine c_block ?_
      refine c_to (M' := (it3, iterObj rs kvs #[]) :: (rs, kvs.obj) :: (rd, kvd0.obj) :: (rn, nn.obj) :: (mdk ++ (ms ++ F))) (Fits.cons Fits.tail) ?_
      refine c_keep (L' := [(0, .func (.func 44) #[] #[]), (1, .map (some rd)), (3, str pre), (4, .bool mg), (11, .map (some rn)), (51, ptr it3)]) ⟨rfl, rfl, rfl, rfl, rfl, rfl, trivial⟩ ?_
      refine c_loop (ι := Array Nat) (fun seen L M' => ∃ kvd dts md lts ml, L = [(0, .func (.func 44) #[] #[]), (1, .map (some rd)), (3, str pre), (4, .bool mg), (11, .map (some rn)), (51, ptr it3)] ∧ Kids (fun t v m => ∃ n', n' < n ∧ RepA n' t v m) dts (KV.list kvd) md ∧ Kids (fun t v m => ∃ n', n' < n ∧ RepA n' t v m) lts (kvs.left seen) ml ∧ (∀ p, p ∈ dts → Nm p.1) ∧ Laid mg d0 s0 dts lts ∧ M' = (it3, iterObj rs kvs seen) :: (rs, kvs.obj) :: (rd, kvd.obj) :: (rn, nn.obj) :: (md ++ (ml ++ F))) (fun seen => (kvs.left seen).length) #[] ⟨kvd0, dts0, mdk, sts, ms, rfl, hkd0, by rw [KV.left_start]; exact hks, hnmd0, Laid.start hd0l hnulled, rfl⟩ ?_
      rintro seen _ _ ⟨kvd, dts, md, lts, ml, rfl, hkd, hkl, hnmd, hlaid, rfl⟩
      refine c_seq ?_
      refine c_region ?_   -- region 17
      refine g_i (iv_next (i := 0) rfl rfl m1) rfl ?_
      rintro _ _ (⟨hl0, rfl, rfl⟩ | ⟨key, u, seen2, rfl, rfl, hperm2, hcur⟩)
      · refine g_q (qv_extract rfl rfl) rfl ?_
        refine g_nil ?_
        refine e_seq ?_
        refine c_seq ?_
        refine c_false rfl ?_
        refine c_exit ?_
        refine e_exit_then ?_
        refine e_exit_then ?_
        refine e_exit_block ?_
        refine e_seq ?_
        rw [hl0] at hkl
        obtain ⟨rfl, rfl⟩ := hkl.none
        obtain ⟨hrep, hok, hlk⟩ := RepM.close (n := n) (r := rd) ⟨kvd, md, hkd, hnmd, rfl⟩
        refine c_seq ?_
        refine c_region ?_   -- region 31
        refine g_q (qv_move rfl) rfl ?_
        refine g_q (qv_assign rfl) rfl ?_
        refine g_nil ?_
        refine e_seq ?_
        refine c_ret ?_
        refine e_to (M' := ((rd, kvd.obj) :: md) ++ F) (fun f => by simp <;> omega) (e_ret1 (.inl rfl) Try.results43 rfl ⟨rfl, _, _, hrep, fun k => ?_, rfl⟩)
        rw [hlk k]
        exact hlaid.done k
      · have hmu : (kvs.left seen2).length < (kvs.left seen).length := by
          rw [hperm2.length_eq]
          exact Nat.lt_succ_self _
        have hpk : ((kvs.left seen).map (·.1)).Perm (key :: (kvs.left seen2).map (·.1)) := hperm2.map (·.1)
        obtain ⟨lts', ml', hpl0, hpml, hkl'⟩ := hkl.perm hperm2
        obtain ⟨t, lts2, mu, ml2, rfl, rfl, hru, hkl2⟩ := hkl'.cons
        have hpl := hpl0
        have hndl : (lts.map (·.1)).Nodup := by rw [hkl.keys]; exact left_nodup kvs seen
        obtain ⟨hs1, hdk⟩ := hlaid.here hpl hndl
        have hnm : Nm key := hnms (KV.cur_mem hcur)
        have hkey6 : key.length ≤ 6 := hnm.ok.2.2
        obtain ⟨nk, hnnv, hnkT⟩ := hnoted.at key
        have hiu : u = .nilIface ∨ ∃ T1 u1, u = .iface T1 u1 := (sub_nil hru).elim (fun h => Or.inl h.2.1) (fun h => Or.inr h.2)
        refine g_to (M' := (it3, iterObj rs kvs seen2) :: (rs, kvs.obj) :: (rd, kvd.obj) :: (rn, nn.obj) :: (md ++ ((mu ++ ml2) ++ F))) (Fits.cons (Fits.cons (Fits.cons (Fits.cons (Fits.app (Fits.refl _) (Fits.app (Fits.of_perm hpml) (Fits.refl _))))))) ?_
        rcases hkd.lookup key with ⟨hdn, hvd⟩ | ⟨_, dv, _, _, hvd, _⟩
        · rw [hdn] at hdk
          have hcoal : CoalV mg (d0 key) (s0 key) (some t) := by rw [← hdk] at hs1 ⊢; rw [show s0 key = some t from by simpa [isNullO] using hs1.symm]; exact .base t
          refine g_q (qv_extract rfl rfl) rfl ?_
          refine g_nil ?_
          refine e_seq ?_
          refine c_seq ?_
          refine c_true rfl ?_
          refine c_skip ?_
          refine e_seq ?_
          refine c_block ?_
          refine c_seq ?_
          refine c_region ?_   -- region 18
          refine g_q (qv_entry (k := key) (v := u) rfl m0 m1 hcur) rfl ?_
          refine g_q (qv_extract rfl rfl) rfl ?_
          refine g_q (qv_extract rfl rfl) rfl ?_
          refine g_q (qv_assign rfl) rfl ?_
          refine g_q (qv_assign rfl) rfl ?_
          refine g_nil ?_
          refine e_seq ?_
          refine c_seq ?_
          refine c_region ?_   -- region 19
          refine g_q (qv_move rfl) rfl ?_
          refine g_q (qv_move rfl) rfl ?_
          refine g_i (iv_call (vs := [str pre, str key]) Try.call54 ⟨rfl, rfl, trivial⟩ (concat_any pre key _ (by omega) hkey6)) rfl ?_
          rintro _ _ ⟨full, rfl, hfull, rfl⟩
          refine g_q (qv_assign rfl) rfl ?_
          refine g_nil ?_
          refine e_seq ?_
          refine c_seq ?_
          refine c_region ?_   -- region 20
          refine g_q (qv_move rfl) rfl ?_
          refine g_q (qv_move rfl) rfl ?_
          refine g_q (QV.to (v' := .tuple #[.nilIface, .bool false]) (qv_lookup2 (m := kvd) (k := key) rfl rfl Try.runUnderlying63 Try.runUnderlying9 Try.zeroValue20 m2) (by rw [hvd]; rfl)) rfl ?_
          refine g_q (qv_move rfl) rfl ?_
          refine g_q (qv_extract rfl rfl) rfl ?_
          refine g_q (qv_extract rfl rfl) rfl ?_
          refine g_q (qv_assign rfl) rfl ?_
          refine g_q (qv_assign rfl) rfl ?_
          refine g_nil ?_
          refine e_seq ?_
          refine c_seq ?_
          refine c_region ?_   -- region 21
          refine g_q (qv_move rfl) rfl ?_
          refine g_q (qv_move rfl) rfl ?_
          refine g_off rfl rfl rfl rfl ?_
          refine g_off rfl rfl rfl rfl ?_
          refine g_q (qv_pick_f rfl rfl) rfl ?_
          refine g_q (qv_move rfl) rfl ?_
          refine g_off rfl rfl rfl rfl ?_
          refine g_off rfl rfl rfl rfl ?_
          refine g_q (qv_pick_f rfl rfl) rfl ?_
          refine g_q (qv_move rfl) rfl ?_
          refine g_off rfl rfl rfl rfl ?_
          refine g_off rfl rfl rfl rfl ?_
          refine g_off rfl rfl rfl rfl ?_
          refine g_q (qv_pick_f rfl rfl) rfl ?_
          refine g_nil ?_
          refine e_seq ?_
          refine c_false rfl ?_
          refine c_seq ?_
          refine c_region ?_   -- region 23
          refine g_q (qv_move rfl) rfl ?_
          refine g_q (qv_not rfl) rfl ?_
          refine g_nil ?_
          refine e_seq ?_
          refine c_true rfl ?_
          refine c_region ?_   -- region 24
          refine g_q (qv_move rfl) rfl ?_
          refine g_q (qv_move rfl) rfl ?_
          refine g_q (qv_move rfl) rfl ?_
          refine g_i0 (iv_put (i := 2) (m := kvd) rfl rfl rfl Try.runUnderlying63 Try.runUnderlying9 rfl) ?_
          rintro _ _ rfl
          refine g_nil ?_
          refine e_normal_block ?_
          have hput : (kvd.put key u).list = kvd.list ++ [(key, u)] := by rw [KV.list_put, putL, hvd]; rfl
          refine e_to (M' := (it3, iterObj rs kvs seen2) :: (rs, kvs.obj) :: (rd, (kvd.put key u).obj) :: (rn, nn.obj) :: ((md ++ mu) ++ (ml2 ++ F))) (fun f => by simp <;> omega) ?_
          exact e_again seen2 hmu (L' := [(0, .func (.func 44) #[] #[]), (1, .map (some rd)), (3, str pre), (4, .bool mg), (11, .map (some rn)), (51, ptr it3)]) ⟨rfl, rfl, rfl, rfl, rfl, rfl, trivial⟩ ⟨kvd.put key u, dts ++ [(key, t)], md ++ mu, lts2, ml2, rfl, (by rw [hput]; exact hkd.append (Kids.single hru)), hkl2, (fun p hp => (List.mem_append.1 hp).elim (hnmd p) (fun h => by rw [List.mem_singleton.1 h]; exact hnm)), (hlaid.step hpl hndl (c := some t) (fun k' => lookup_snoc hdn t k') hcoal), rfl⟩
        · obtain ⟨dts1, d, dts2, md1, mv, md2, hdeq, hd1, hmdeq, hrd, hback⟩ := hkd.out hvd
          have hdk2 : dts.lookup key = some d := by rw [hdeq]; exact lookup_mid_self hd1 d
          have hd0 : d0 key = some d := by rw [← hdk, hdk2]
          rw [hd0] at hs1
          refine g_q (qv_extract rfl rfl) rfl ?_
          refine g_nil ?_
          refine e_seq ?_
          refine c_seq ?_
          refine c_true rfl ?_
          refine c_skip ?_
          refine e_seq ?_
          refine c_block ?_
          refine c_seq ?_
          refine c_region ?_   -- region 18
          refine g_q (qv_entry (k := key) (v := u) rfl m0 m1 hcur) rfl ?_
          refine g_q (qv_extract rfl rfl) rfl ?_
          refine g_q (qv_extract rfl rfl) rfl ?_
          refine g_q (qv_assign rfl) rfl ?_
          refine g_q (qv_assign rfl) rfl ?_
          refine g_nil ?_
          refine e_seq ?_
          refine c_seq ?_
          refine c_region ?_   -- region 19
          refine g_q (qv_move rfl) rfl ?_
          refine g_q (qv_move rfl) rfl ?_
          refine g_i (iv_call (vs := [str pre, str key]) Try.call54 ⟨rfl, rfl, trivial⟩ (concat_any pre key _ (by omega) hkey6)) rfl ?_
          rintro _ _ ⟨full, rfl, hfull, rfl⟩
          refine g_q (qv_assign rfl) rfl ?_
          refine g_nil ?_
          refine e_seq ?_
          refine c_seq ?_
          refine c_region ?_   -- region 20
          refine g_q (qv_move rfl) rfl ?_
          refine g_q (qv_move rfl) rfl ?_
          refine g_q (QV.to (v' := .tuple #[dv, .bool true]) (qv_lookup2 (m := kvd) (k := key) rfl rfl Try.runUnderlying63 Try.runUnderlying9 Try.zeroValue20 m2) (by rw [hvd]; rfl)) rfl ?_
          refine g_q (qv_move rfl) rfl ?_
          refine g_q (qv_extract rfl rfl) rfl ?_
          refine g_q (qv_extract rfl rfl) rfl ?_
          refine g_q (qv_assign rfl) rfl ?_
          refine g_q (qv_assign rfl) rfl ?_
          refine g_nil ?_
          refine e_seq ?_
          refine c_cut (fun L' M' => ∃ β : Bool, (β = true ↔ (mg = false ∧ d = .null ∧ nk = true)) ∧ L' = [(0, .func (.func 44) #[] #[]), (1, .map (some rd)), (3, str pre), (4, .bool mg), (11, .map (some rn)), (16, str key), (17, u), (18, str full), (19, dv), (20, .bool true), (51, ptr it3), (79, .bool β)] ∧ M' = (it3, iterObj rs kvs seen2) :: (rs, kvs.obj) :: (rd, kvd.obj) :: (rn, nn.obj) :: (md ++ ((mu ++ ml2) ++ F))) ?_ ?_
          · refine c_region ?_   -- region 21
            cases mg with
            | true =>
              refine g_q (qv_move rfl) rfl ?_
              refine g_q (qv_move rfl) rfl ?_
              refine g_on rfl rfl ?_
              refine g_q (qv_move rfl) rfl ?_
              refine g_on rfl rfl ?_
              refine g_q (qv_not rfl) rfl ?_
              refine g_q (qv_pick_t rfl rfl) rfl ?_
              refine g_q (qv_move rfl) rfl ?_
              refine g_off rfl rfl rfl rfl ?_
              refine g_off rfl rfl rfl rfl ?_
              refine g_q (qv_pick_f rfl rfl) rfl ?_
              refine g_q (qv_move rfl) rfl ?_
              refine g_off rfl rfl rfl rfl ?_
              refine g_off rfl rfl rfl rfl ?_
              refine g_off rfl rfl rfl rfl ?_
              refine g_q (qv_pick_f rfl rfl) rfl ?_
              refine g_nil ?_
              exact e_mid (L' := [(0, .func (.func 44) #[] #[]), (1, .map (some rd)), (3, str pre), (4, .bool true), (11, .map (some rn)), (16, str key), (17, u), (18, str full), (19, dv), (20, .bool true), (51, ptr it3), (79, .bool false)]) ⟨rfl, rfl, rfl, rfl, rfl, rfl, rfl, rfl, rfl, rfl, rfl, rfl, trivial⟩ ⟨false, ⟨fun h => (by cases h), fun h => by cases h.1⟩, rfl, rfl⟩
            | false =>
              rcases sub_nil hrd with ⟨rfl, rfl, _⟩ | ⟨hdnn, T1, u1, rfl⟩
              · refine g_q (qv_move rfl) rfl ?_
                refine g_q (qv_move rfl) rfl ?_
                refine g_on rfl rfl ?_
                refine g_q (qv_move rfl) rfl ?_
                refine g_on rfl rfl ?_
                refine g_q (qv_not rfl) rfl ?_
                refine g_q (qv_pick_t rfl rfl) rfl ?_
                refine g_q (qv_move rfl) rfl ?_
                refine g_on rfl rfl ?_
                refine g_q (qv_move rfl) rfl ?_
                refine g_on rfl rfl ?_
                refine g_q (qv_eqn Try.runUnderlying20 rfl (Or.inl rfl)) rfl ?_
                refine g_q (qv_pick_t rfl rfl) rfl ?_
                refine g_q (qv_move rfl) rfl ?_
                refine g_on rfl rfl ?_
                refine g_q (qv_move rfl) rfl ?_
                refine g_on rfl rfl ?_
                refine g_q (qv_move rfl) rfl ?_
                refine g_on rfl rfl ?_
                refine g_q (QV.to (qv_lookup1 (m := nn) (k := key) rfl rfl Try.runUnderlying112 Try.runUnderlying9 Try.zeroValue4 m3) hnnv) rfl ?_
                refine g_q (qv_pick_t rfl rfl) rfl ?_
                refine g_nil ?_
                exact e_mid (L' := [(0, .func (.func 44) #[] #[]), (1, .map (some rd)), (3, str pre), (4, .bool false), (11, .map (some rn)), (16, str key), (17, u), (18, str full), (19, .nilIface), (20, .bool true), (51, ptr it3), (79, .bool nk)]) ⟨rfl, rfl, rfl, rfl, rfl, rfl, rfl, rfl, rfl, rfl, rfl, rfl, trivial⟩ ⟨nk, ⟨fun h => ⟨rfl, rfl, h⟩, fun h => h.2.2⟩, rfl, rfl⟩
              · refine g_q (qv_move rfl) rfl ?_
                refine g_q (qv_move rfl) rfl ?_
                refine g_on rfl rfl ?_
                refine g_q (qv_move rfl) rfl ?_
                refine g_on rfl rfl ?_
                refine g_q (qv_not rfl) rfl ?_
                refine g_q (qv_pick_t rfl rfl) rfl ?_
                refine g_q (qv_move rfl) rfl ?_
                refine g_on rfl rfl ?_
                refine g_q (qv_move rfl) rfl ?_
                refine g_on rfl rfl ?_
                refine g_q (qv_eqn Try.runUnderlying20 rfl (Or.inr ⟨_, _, rfl⟩)) rfl ?_
                refine g_q (qv_pick_t rfl rfl) rfl ?_
                refine g_q (qv_move rfl) rfl ?_
                refine g_off rfl rfl rfl rfl ?_
                refine g_off rfl rfl rfl rfl ?_
                refine g_off rfl rfl rfl rfl ?_
                refine g_q (qv_pick_f rfl rfl) rfl ?_
                refine g_nil ?_
                exact e_mid (L' := [(0, .func (.func 44) #[] #[]), (1, .map (some rd)), (3, str pre), (4, .bool false), (11, .map (some rn)), (16, str key), (17, u), (18, str full), (19, .iface T1 u1), (20, .bool true), (51, ptr it3), (79, .bool false)]) ⟨rfl, rfl, rfl, rfl, rfl, rfl, rfl, rfl, rfl, rfl, rfl, rfl, trivial⟩ ⟨false, ⟨fun h => (by cases h), fun h => absurd h.2.1 hdnn⟩, rfl, rfl⟩
          · rintro _ _ ⟨β, hβ, rfl, rfl⟩
            refine c_cond rfl (fun hc => ?_) (fun hc => ?_)
            · obtain ⟨rfl, rfl, hnk1⟩ := hβ.1 hc
              obtain ⟨md', hkd', hfd⟩ := hkd.less key
              obtain ⟨s9, hs9, hne9⟩ := hnkT.1 hnk1
              refine c_region ?_   -- region 22
              refine g_q (qv_move rfl) rfl ?_
              refine g_q (qv_move rfl) rfl ?_
              refine g_i0 (iv_del (i := 2) (m := kvd) rfl rfl Try.runUnderlying63 Try.runUnderlying9 rfl) ?_
              rintro _ _ rfl
              refine g_nil ?_
              refine e_normal_block ?_
              refine e_to (M' := (it3, iterObj rs kvs seen2) :: (rs, kvs.obj) :: (rd, (kvd.del key).obj) :: (rn, nn.obj) :: (md' ++ (ml2 ++ F))) (Fits.cons (Fits.cons (Fits.cons (Fits.cons (Fits.app hfd (Fits.app (Fits.drop_left) (Fits.refl _))))))) ?_
              exact e_again seen2 hmu (L' := [(0, .func (.func 44) #[] #[]), (1, .map (some rd)), (3, str pre), (4, .bool false), (11, .map (some rn)), (51, ptr it3)]) ⟨rfl, rfl, rfl, rfl, rfl, rfl, trivial⟩ ⟨kvd.del key, _, md', lts2, ml2, rfl, (by rw [KV.list_del]; exact hkd'), hkl2, (fun p hp => hnmd p (List.mem_filter.1 hp).1), (hlaid.step hpl hndl (c := none) (fun k' => lookup_filter key dts k') (by rw [hd0, hs9]; exact .del s9 rfl hne9)), rfl⟩
            · have hno : ¬ (mg = false ∧ d = .null ∧ nk = true) := fun h => by rw [hβ.2 h] at hc; cases hc
              refine c_seq ?_
              refine c_region ?_   -- region 23
              refine g_q (qv_move rfl) rfl ?_
              refine g_q (qv_not rfl) rfl ?_
              refine g_nil ?_
              refine e_seq ?_
              refine c_false rfl ?_
              refine c_seq ?_
              refine c_region ?_   -- region 25
              refine g_q (qv_move rfl) rfl ?_
              refine g_i (iv_call (vs := [u]) Try.call55 ⟨rfl, trivial⟩ (istable_any n t u mu _ hru)) rfl ?_
              rintro _ _ ⟨rfl, rfl⟩
              refine g_nil ?_
              refine e_seq ?_
              refine c_cond rfl (fun hct => ?_) (fun hct => ?_)
              · obtain ⟨se2, rfl⟩ := isTabT_iff.1 hct
                obtain ⟨n2, hn2, hru2⟩ := hru
                obtain ⟨r2, _, _, _, rfl, _⟩ := hru2.table
                refine c_seq ?_
                refine c_region ?_   -- region 26
                refine g_q (qv_move rfl) rfl ?_
                refine g_i (iv_call (vs := [dv]) Try.call55 ⟨rfl, trivial⟩ (istable_any n d dv mv _ hrd)) rfl ?_
                rintro _ _ ⟨rfl, rfl⟩
                refine g_nil ?_
                refine e_seq ?_
                refine c_cond rfl (fun hcd => ?_) (fun hcd => ?_)
                · obtain ⟨de2, rfl⟩ := isTabT_iff.1 hcd
                  obtain ⟨n1, hn1, hrd1⟩ := hrd
                  obtain ⟨r1, _, _, _, rfl, _⟩ := hrd1.table
                  have hN : max n1 n2 < n := Nat.max_lt.2 ⟨hn1, hn2⟩
                  have hs0 : s0 key = some (.tab se2) := by simpa [isNullO] using hs1.symm
                  refine c_to (M' := mv ++ (mu ++ ((it3, iterObj rs kvs seen2) :: (rs, kvs.obj) :: (rd, kvd.obj) :: (rn, nn.obj) :: (md1 ++ (md2 ++ (ml2 ++ F)))))) (fun f => by simp [hmdeq] <;> omega) ?_
                  refine c_drawM (fun _ => false) Try.mixed ?_
                  refine d_takeW 0 rfl (by kernel_rfl) (by kernel_rfl) (by kernel_rfl) rfl (fun _ => qv_move rfl) ?_
                  refine d_takeW 1 rfl (by kernel_rfl) (by kernel_rfl) (by kernel_rfl) rfl (fun _ => qv_move rfl) ?_
                  refine d_takeW 2 rfl (by kernel_rfl) (by kernel_rfl) (by kernel_rfl) rfl (fun _ => qv_as rfl Try.runUnderlying63 (fun _ h => by cases h)) ?_
                  refine d_takeW 3 rfl (by kernel_rfl) (by kernel_rfl) (by kernel_rfl) rfl (fun _ => qv_move rfl) ?_
                  refine d_takeW 4 rfl (by kernel_rfl) (by kernel_rfl) (by kernel_rfl) rfl (fun _ => qv_as rfl Try.runUnderlying63 (fun _ h => by cases h)) ?_
                  refine d_takeW 5 rfl (by kernel_rfl) (by kernel_rfl) (by kernel_rfl) rfl (fun _ => qv_move rfl) ?_
                  refine d_takeW 6 rfl (by kernel_rfl) (by kernel_rfl) (by kernel_rfl) rfl (fun _ => qv_move rfl) ?_
                  refine d_run 7 rfl (by kernel_rfl) rfl (iv_call (vs := [.func (.func 44) #[] #[], .map (some r1), .map (some r2), str full, .bool mg]) Try.call43 ⟨rfl, rfl, rfl, rfl, rfl, trivial⟩ (ih _ hN de2 se2 r1 r2 mv mu full mg _ (hrd1.le (Nat.le_max_left _ _)) (hru2.le (Nat.le_max_right _ _)) (by omega))) (fun _ _ _ h => by cases h) ?_
                  rintro _ _ ⟨rfl, re2, mv2, hre2, hco2, rfl⟩
                  refine d_done (by kernel_rfl) ?_
                  refine e_normal_block ?_
                  refine e_to (M' := (it3, iterObj rs kvs seen2) :: (rs, kvs.obj) :: (rd, kvd.obj) :: (rn, nn.obj) :: ((md1 ++ (mv2 ++ md2)) ++ (ml2 ++ F))) (fun f => by simp <;> omega) ?_
                  exact e_again seen2 hmu (L' := [(0, .func (.func 44) #[] #[]), (1, .map (some rd)), (3, str pre), (4, .bool mg), (11, .map (some rn)), (51, ptr it3)]) ⟨rfl, rfl, rfl, rfl, rfl, rfl, trivial⟩ ⟨kvd, dts1 ++ (key, .tab re2) :: dts2, md1 ++ (mv2 ++ md2), lts2, ml2, rfl, (hback _ _ ⟨_, hN, hre2⟩), hkl2, (nm_mid (hdeq ▸ hnmd)), (hlaid.step hpl hndl (c := some (.tab re2)) (fun k' => by rw [hdeq]; exact lookup_mid hd1 _ _ k') (by rw [hd0, hs0]; exact .both _ _ _ hre2.ok hco2)), rfl⟩
                · have hnb : ∀ de se, d = .tab de → T.tab se2 ≠ .tab se := fun de se e => by rw [e] at hcd; exact absurd hcd (by simp [isTabT])
                  refine c_region ?_   -- region 28
                  refine g_q (qv_move rfl) rfl ?_
                  refine g_q (qv_move rfl) rfl ?_
                  refine g_q (qv_iface Try.runUnderlying9 (fun _ h => by cases h) rfl) rfl ?_
                  refine g_q (qv_move rfl) rfl ?_
                  refine g_i (iv_buildSlice (vs := [(0, .iface 9 (str full)), (1, .iface 63 (.map (some r2)))]) (cs := #[.iface 9 (str full), .iface 63 (.map (some r2))]) Try.runUnderlying89 Try.sizeOf20 Try.zeroValue20 ⟨rfl, rfl, rfl, rfl, trivial⟩ rfl (by kernel_rfl) rfl) rfl ?_
                  rintro _ _ ⟨bs, rfl, rfl⟩
                  refine g_i (iv_callc (vs := [_, .slice (some ⟨bs, 0, none⟩) 2 2]) (caps := []) Try.call44 rfl ⟨rfl, rfl, trivial⟩ (quiet_any _ _ _)) rfl ?_
                  rintro _ _ rfl
                  refine g_nil ?_
                  refine e_normal_block ?_
                  refine e_to (M' := (it3, iterObj rs kvs seen2) :: (rs, kvs.obj) :: (rd, kvd.obj) :: (rn, nn.obj) :: (md ++ (ml2 ++ F))) (fun f => by simp <;> omega) ?_
                  exact e_again seen2 hmu (L' := [(0, .func (.func 44) #[] #[]), (1, .map (some rd)), (3, str pre), (4, .bool mg), (11, .map (some rn)), (51, ptr it3)]) ⟨rfl, rfl, rfl, rfl, rfl, rfl, trivial⟩ ⟨kvd, dts, md, lts2, ml2, rfl, hkd, hkl2, hnmd, (hlaid.step hpl hndl (c := some d) (fun k' => same_lookup hdk2 k') (by rw [hd0]; exact keep_fact hno hnkT.2 hs1 hnb)), rfl⟩
              · have hnb : ∀ de se, d = .tab de → t ≠ .tab se := fun de se _ e => by rw [e] at hct; exact absurd hct (by simp [isTabT])
                refine c_seq ?_
                refine c_region ?_   -- region 29
                refine g_q (qv_move rfl) rfl ?_
                refine g_i (iv_call (vs := [dv]) Try.call55 ⟨rfl, trivial⟩ (istable_any n d dv mv _ hrd)) rfl ?_
                rintro _ _ ⟨rfl, rfl⟩
                refine g_q (qv_move rfl) rfl ?_
                cases hcd : isTabT d with
                | true =>
                  rcases hiu with rfl | ⟨T1, u1, rfl⟩
                  · refine g_on rfl rfl ?_
                    refine g_q (qv_move rfl) rfl ?_
                    refine g_on rfl rfl ?_
                    refine g_q (qv_nen Try.runUnderlying20 rfl (Or.inl rfl)) rfl ?_
                    refine g_q (qv_pick_t rfl rfl) rfl ?_
                    refine g_nil ?_
                    refine e_seq ?_
                    refine c_false rfl ?_
                    refine c_skip ?_
                    refine e_normal_block ?_
                    refine e_to (M' := (it3, iterObj rs kvs seen2) :: (rs, kvs.obj) :: (rd, kvd.obj) :: (rn, nn.obj) :: (md ++ (ml2 ++ F))) (fun f => by simp <;> omega) ?_
                    exact e_again seen2 hmu (L' := [(0, .func (.func 44) #[] #[]), (1, .map (some rd)), (3, str pre), (4, .bool mg), (11, .map (some rn)), (51, ptr it3)]) ⟨rfl, rfl, rfl, rfl, rfl, rfl, trivial⟩ ⟨kvd, dts, md, lts2, ml2, rfl, hkd, hkl2, hnmd, (hlaid.step hpl hndl (c := some d) (fun k' => same_lookup hdk2 k') (by rw [hd0]; exact keep_fact hno hnkT.2 hs1 hnb)), rfl⟩
                  · refine g_on rfl rfl ?_
                    refine g_q (qv_move rfl) rfl ?_
                    refine g_on rfl rfl ?_
                    refine g_q (qv_nen Try.runUnderlying20 rfl (Or.inr ⟨_, _, rfl⟩)) rfl ?_
                    refine g_q (qv_pick_t rfl rfl) rfl ?_
                    refine g_nil ?_
                    refine e_seq ?_
                    refine c_true rfl ?_
                    refine c_region ?_   -- region 30
                    refine g_q (qv_move rfl) rfl ?_
                    refine g_q (qv_move rfl) rfl ?_
                    refine g_q (qv_iface Try.runUnderlying9 (fun _ h => by cases h) rfl) rfl ?_
                    refine g_q (qv_move rfl) rfl ?_
                    refine g_i (iv_buildSlice (vs := [(0, .iface 9 (str full)), (1, .iface T1 u1)]) (cs := #[.iface 9 (str full), .iface T1 u1]) Try.runUnderlying89 Try.sizeOf20 Try.zeroValue20 ⟨rfl, rfl, rfl, rfl, trivial⟩ rfl (by kernel_rfl) rfl) rfl ?_
                    rintro _ _ ⟨bs, rfl, rfl⟩
                    refine g_i (iv_callc (vs := [_, .slice (some ⟨bs, 0, none⟩) 2 2]) (caps := []) Try.call44 rfl ⟨rfl, rfl, trivial⟩ (quiet_any _ _ _)) rfl ?_
                    rintro _ _ rfl
                    refine g_nil ?_
                    refine e_normal_block ?_
                    refine e_to (M' := (it3, iterObj rs kvs seen2) :: (rs, kvs.obj) :: (rd, kvd.obj) :: (rn, nn.obj) :: (md ++ (ml2 ++ F))) (fun f => by simp <;> omega) ?_
                    exact e_again seen2 hmu (L' := [(0, .func (.func 44) #[] #[]), (1, .map (some rd)), (3, str pre), (4, .bool mg), (11, .map (some rn)), (51, ptr it3)]) ⟨rfl, rfl, rfl, rfl, rfl, rfl, trivial⟩ ⟨kvd, dts, md, lts2, ml2, rfl, hkd, hkl2, hnmd, (hlaid.step hpl hndl (c := some d) (fun k' => same_lookup hdk2 k') (by rw [hd0]; exact keep_fact hno hnkT.2 hs1 hnb)), rfl⟩
                | false =>
                  refine g_off rfl rfl rfl rfl ?_
                  refine g_off rfl rfl rfl rfl ?_
                  refine g_q (qv_pick_f rfl rfl) rfl ?_
                  refine g_nil ?_
                  refine e_seq ?_
                  refine c_false rfl ?_
                  refine c_skip ?_
                  refine e_normal_block ?_
                  refine e_to (M' := (it3, iterObj rs kvs seen2) :: (rs, kvs.obj) :: (rd, kvd.obj) :: (rn, nn.obj) :: (md ++ (ml2 ++ F))) (fun f => by simp <;> omega) ?_
                  exact e_again seen2 hmu (L' := [(0, .func (.func 44) #[] #[]), (1, .map (some rd)), (3, str pre), (4, .bool mg), (11, .map (some rn)), (51, ptr it3)]) ⟨rfl, rfl, rfl, rfl, rfl, rfl, trivial⟩ ⟨kvd, dts, md, lts2, ml2, rfl, hkd, hkl2, hnmd, (hlaid.step hpl hndl (c := some d) (fun k' => same_lookup hdk2 k') (by rw [hd0]; exact keep_fact hno hnkT.2 hs1 hnb)), rfl⟩
    · have hmu : (kvd0.left seen2).length < (kvd0.left seen).length := by
        rw [hperm2.length_eq]
        exact Nat.lt_succ_self _
      have hpk : ((kvd0.left seen).map (·.1)).Perm (key :: (kvd0.left seen2).map (·.1)) := hperm2.map (·.1)
      obtain ⟨d, md1, hdl, hrd⟩ : ∃ d m1, d0 key = some d ∧ ∃ n', n' < n ∧ RepA n' d u m1 := by
        rcases hkd0.lookup key with ⟨_, h2⟩ | ⟨t1, v1, m1, h1, h2, h3, _⟩
        · rw [KV.lookup_cur hcur] at h2; cases h2
        · rw [KV.lookup_cur hcur] at h2; cases h2; exact ⟨t1, m1, by rw [← hd0l, h1], h3⟩
      have hnm : Nm key := hnmd0' (KV.cur_mem hcur)
      refine g_q (qv_extract rfl rfl) rfl ?_
      refine g_nil ?_
      refine e_seq ?_
      refine c_seq ?_
      refine c_true rfl ?_
      refine c_skip ?_
      refine e_seq ?_
      refine c_block ?_
      refine c_seq ?_
      refine c_region ?_   -- region 13
      refine g_q (qv_entry (k := key) (v := u) rfl m0 m2 hcur) rfl ?_
      refine g_q (qv_extract rfl rfl) rfl ?_
      refine g_q (qv_extract rfl rfl) rfl ?_
      refine g_q (qv_assign rfl) rfl ?_
      refine g_q (qv_assign rfl) rfl ?_
      refine g_nil ?_
      refine e_seq ?_
      refine c_seq ?_
      refine c_region ?_   -- region 14
      refine g_q (qv_move rfl) rfl ?_
      rcases sub_nil hrd with ⟨rfl, rfl, _⟩ | ⟨hdnn, T1, u1, rfl⟩
      · refine g_q (qv_eqn Try.runUnderlying20 rfl (Or.inl rfl)) rfl ?_
        refine g_nil ?_
        refine e_seq ?_
        refine c_true rfl ?_
        refine c_region ?_   -- region 15
        refine g_q (qv_move rfl) rfl ?_
        refine g_q (qv_move rfl) rfl ?_
        refine g_i0 (iv_put (i := 1) (m := kvs) rfl rfl rfl Try.runUnderlying63 Try.runUnderlying9 rfl) ?_
        rintro _ _ rfl
        refine g_nil ?_
        refine e_normal_block ?_
        obtain ⟨ms', hks', hfs⟩ := Kids.put (R := fun t v m => ∃ n', n' < n ∧ RepA n' t v m) (k := key) (t := .null) (v := .nilIface) (m1 := []) (by obtain ⟨n', hn', _⟩ := hrd; exact ⟨n', hn', by cases n' <;> exact ⟨rfl, rfl⟩⟩) kvs.nodup hks
        rw [List.append_nil] at hfs
        refine e_to (M' := (it2, iterObj rd kvd0 seen2) :: (rs, (kvs.put key .nilIface).obj) :: (rd, kvd0.obj) :: (rn, nn.obj) :: (mdk ++ (ms' ++ F))) (Fits.cons (Fits.cons (Fits.cons (Fits.cons (Fits.app (Fits.refl _) (Fits.app hfs (Fits.refl _))))))) ?_
        exact e_again seen2 hmu (L' := [(0, .func (.func 44) #[] #[]), (1, .map (some rd)), (2, .map (some rs)), (3, str pre), (4, .bool mg), (11, .map (some rn)), (40, ptr it2)]) ⟨rfl, rfl, rfl, rfl, rfl, rfl, rfl, trivial⟩ ⟨kvs.put key .nilIface, _, ms', rfl, (by rw [KV.list_put]; exact hks'), (fun p hp => (putT_keys _ _ _ p hp).elim (fun h => by rw [h]; exact hnm) (fun ⟨p', h1, h2⟩ => by rw [← h2]; exact hnmst p' h1)), (hnulled.set hpk (left_nodup kvd0 seen) (by rw [hdl]; rfl)), rfl⟩
      · refine g_q (qv_eqn Try.runUnderlying20 rfl (Or.inr ⟨_, _, rfl⟩)) rfl ?_
        refine g_nil ?_
        refine e_seq ?_
        refine c_false rfl ?_
        refine c_skip ?_
        refine e_normal_block ?_
        exact e_again seen2 hmu (L' := [(0, .func (.func 44) #[] #[]), (1, .map (some rd)), (2, .map (some rs)), (3, str pre), (4, .bool mg), (11, .map (some rn)), (40, ptr it2)]) ⟨rfl, rfl, rfl, rfl, rfl, rfl, rfl, trivial⟩ ⟨kvs, sts, ms, rfl, hks, hnmst, (hnulled.pass hpk (left_nodup kvd0 seen) (by rw [hdl]; cases hb : isNullO (some d) with | false => rfl | true => exact absurd (Option.some.inj (isNullO_iff.1 hb)) hdnn)), rfl⟩
  · have hmu : (kvs0.left seen2).length < (kvs0.left seen).length := by
      rw [hperm2.length_eq]
      exact Nat.lt_succ_self _
    have hpk : ((kvs0.left seen).map (·.1)).Perm (key :: (kvs0.left seen2).map (·.1)) := hperm2.map (·.1)
    obtain ⟨s, ms1, hsl, hrs⟩ : ∃ s m1, s0 key = some s ∧ ∃ n', n' < n ∧ RepA n' s u m1 := by
      rcases hks0.lookup key with ⟨_, h2⟩ | ⟨t1, v1, m1, h1, h2, h3, _⟩
      · rw [KV.lookup_cur hcur] at h2; cases h2
      · rw [KV.lookup_cur hcur] at h2; cases h2; exact ⟨t1, m1, by rw [← hs0l, h1], h3⟩
    refine g_q (qv_extract rfl rfl) rfl ?_
    refine g_nil ?_
    refine e_seq ?_
    refine c_seq ?_
    refine c_true rfl ?_
    refine c_skip ?_
    refine e_seq ?_
    refine c_block ?_
    refine c_seq ?_
    refine c_region ?_   -- region 8
    refine g_q (qv_entry (k := key) (v := u) rfl m0 m3 hcur) rfl ?_
    refine g_q (qv_extract rfl rfl) rfl ?_
    refine g_q (qv_extract rfl rfl) rfl ?_
    refine g_q (qv_assign rfl) rfl ?_
    refine g_q (qv_assign rfl) rfl ?_
    refine g_nil ?_
    refine e_seq ?_
    refine c_seq ?_
    refine c_region ?_   -- region 9
    refine g_q (qv_move rfl) rfl ?_
    rcases sub_nil hrs with ⟨rfl, rfl, _⟩ | ⟨hsnn, T1, u1, rfl⟩
    · refine g_q (qv_nen Try.runUnderlying20 rfl (Or.inl rfl)) rfl ?_
      refine g_nil ?_
      refine e_seq ?_
      refine c_false rfl ?_
      refine c_skip ?_
      refine e_normal_block ?_
      exact e_again seen2 hmu (L' := [(0, .func (.func 44) #[] #[]), (1, .map (some rd)), (2, .map (some rs)), (3, str pre), (4, .bool mg), (11, .map (some rn)), (29, ptr it1)]) ⟨rfl, rfl, rfl, rfl, rfl, rfl, rfl, trivial⟩ ⟨nn, rfl, (hnoted.pass hpk (fun ⟨s, h1, h2⟩ => by rw [hsl] at h1; exact h2 (Option.some.inj h1).symm)), rfl⟩
    · refine g_q (qv_nen Try.runUnderlying20 rfl (Or.inr ⟨_, _, rfl⟩)) rfl ?_
      refine g_nil ?_
      refine e_seq ?_
      refine c_true rfl ?_
      refine c_region ?_   -- region 10
      refine g_q (qv_move rfl) rfl ?_
      refine g_q (qv_move rfl) rfl ?_
      refine g_i0 (iv_put (i := 1) (m := nn) rfl rfl rfl Try.runUnderlying112 Try.runUnderlying9 rfl) ?_
      rintro _ _ rfl
      refine g_nil ?_
      refine e_normal_block ?_
      exact e_again seen2 hmu (L' := [(0, .func (.func 44) #[] #[]), (1, .map (some rd)), (2, .map (some rs)), (3, str pre), (4, .bool mg), (11, .map (some rn)), (29, ptr it1)]) ⟨rfl, rfl, rfl, rfl, rfl, rfl, rfl, trivial⟩ ⟨nn.put key (.bool true), rfl, (hnoted.note hpk ⟨s, hsl, hsnn⟩), rfl⟩
theorem coal_any (n : Nat) : CoalSpec W0 n := by
  induction n using Nat.strongRecOn with
  | ind n ih => exact coal_step n ih

end Go.Proofs.Ytnnclcfklbeocaa

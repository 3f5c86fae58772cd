/-
  The walks, part 14: spec.Copy makes the same value anew.
  Conditions: the value lies in memory as RepS says.
-/
import Derived.Test.YtnnclcfklbeocaaW13
namespace Go.Proofs.Ytnnclcfklbeocaa
open Go.RowKit

variable {W0 : World}

theorem all_sCells {kk : Int} {x : Bool} {i : Int} {s : Key} {p1 : Option Addr} {n1 c1 : Nat} {o : Option Nat} : (sCells kk x i s (.slice p1 n1 c1) (.map o)).all (·.oneCell') = true := by simp [sCells, str, Value.oneCell']

/-- What spec.Copy reads of a value, and what it makes. -/
theorem RepS.shape2 {n : Nat} {t : T} {v : Value} {m : Heap} (h : RepS n t v m) : ∃ b kk x i s p N c o mm, v = ptr b ∧ m = (b, Obj.cells (sCells kk x i s (.slice p N c) (.map o)) 40 (0, 0)) :: mm ∧ N ≤ 1 ∧
    (N = 1 → ∃ y g cs bx, t = .one y ∧ p = some ⟨g, 0, none⟩ ∧ cs.toList[0 + 0 * 1]? = some (ptr bx) ∧ (g, Obj.cells cs 24 (0, 0)) ∈ mm ∧ (bx, Obj.cells (sCells 2 false y [] nilS nilM) 40 (0, 0)) ∈ mm) ∧
    (kk ≠ 6 → o = none ∧ ∀ (b' : Nat) (itv : Value) (mj mx : Heap) (xs : List Value), Row 24 1 itv N xs mj → (N = 0 → itv = nilS ∧ mj = [] ∧ mx = []) → (N = 1 → ∃ y bx, t = .one y ∧ xs = [ptr bx] ∧ mx = [(bx, Obj.cells (sCells 2 false y [] nilS nilM) 40 (0, 0))]) →
      RepS n t (ptr b') ((b', Obj.cells (sCells kk x i s itv nilM) 40 (0, 0)) :: (mj ++ mx))) ∧
    (kk = 6 → N = 0 ∧ x = false ∧ i = 0 ∧ s = [] ∧ ∃ es r kv kts mk, t = .tab es ∧ o = some r ∧ KeysOk es ∧ kts.Perm es ∧ Kids (fun t v m => ∃ n', n' < n ∧ RepS n' t v m) kts kv.list mk ∧ mm = (r, KV.obj kv) :: mk) := by
  have h' : RepS1 (fun t v m => ∃ n', n' < n ∧ RepS n' t v m) t v m := by
    cases n with
    | zero => exact RepS1.mono (fun _ _ _ hf => hf.elim) h
    | succ n => exact RepS1.mono (fun _ _ _ hf => ⟨n, Nat.lt_succ_self n, hf⟩) h
  cases t with
  | tab es =>
    obtain ⟨b, r, kv, kts, mk, hv, hok, hp, hk, hm⟩ := h'
    exact ⟨b, 6, _, _, _, _, _, _, _, _, hv, hm, Nat.zero_le _, fun e => (by cases e), fun e => absurd rfl e, fun _ => ⟨rfl, rfl, rfl, rfl, es, r, kv, kts, mk, rfl, rfl, hok, hp, hk, rfl⟩⟩
  | one y =>
    obtain ⟨b, it, mi, bx, hv, hrow, hm⟩ := h'
    obtain ⟨g, cap, cs, rfl, rfl, hcs⟩ := hrow.block (by decide)
    refine ⟨b, 5, _, _, _, _, _, _, _, _, hv, hm, Nat.le_refl _, fun _ => ⟨y, g, cs, bx, rfl, rfl, by simpa using hcs 0 _ rfl, by simp, by simp⟩, fun _ => ⟨rfl, fun b' itv mj mx xs hr _ h1 => ?_⟩, fun e => by cases e⟩
    obtain ⟨y', bx', e, rfl, rfl⟩ := h1 rfl
    cases e
    cases n <;> exact ⟨b', itv, mj, bx', rfl, hr, rfl⟩
  | null => obtain ⟨b, hv, hm⟩ := h'; exact ⟨b, 0, _, _, _, _, _, _, _, _, hv, hm, Nat.zero_le _, fun e => (by cases e), fun _ => ⟨rfl, fun b' itv mj mx xs _ h0 _ => (by obtain ⟨rfl, rfl, rfl⟩ := h0 rfl; cases n <;> exact ⟨b', rfl, rfl⟩)⟩, fun e => by cases e⟩
  | truth x => obtain ⟨b, hv, hm⟩ := h'; exact ⟨b, 1, _, _, _, _, _, _, _, _, hv, hm, Nat.zero_le _, fun e => (by cases e), fun _ => ⟨rfl, fun b' itv mj mx xs _ h0 _ => (by obtain ⟨rfl, rfl, rfl⟩ := h0 rfl; cases n <;> exact ⟨b', rfl, rfl⟩)⟩, fun e => by cases e⟩
  | int x => obtain ⟨b, hv, hm⟩ := h'; exact ⟨b, 2, _, _, _, _, _, _, _, _, hv, hm, Nat.zero_le _, fun e => (by cases e), fun _ => ⟨rfl, fun b' itv mj mx xs _ h0 _ => (by obtain ⟨rfl, rfl, rfl⟩ := h0 rfl; cases n <;> exact ⟨b', rfl, rfl⟩)⟩, fun e => by cases e⟩
  | text x => obtain ⟨b, hv, hm⟩ := h'; exact ⟨b, 4, _, _, _, _, _, _, _, _, hv, hm, Nat.zero_le _, fun e => (by cases e), fun _ => ⟨rfl, fun b' itv mj mx xs _ h0 _ => (by obtain ⟨rfl, rfl, rfl⟩ := h0 rfl; cases n <;> exact ⟨b', rfl, rfl⟩)⟩, fun e => by cases e⟩

/-- A table of spec values, as its pairs lie. -/
theorem RepS.mk {n b r : Nat} {es kts : List (Key × T)} {kv : KV} {mk : Heap} (hok : KeysOk es) (hp : kts.Perm es) (hk : Kids (fun t v m => ∃ n', n' < n ∧ RepS n' t v m) kts kv.list mk) :
    RepS n (.tab es) (ptr b) ((b, Obj.cells (sCells 6 false 0 [] nilS (.map (some r))) 40 (0, 0)) :: (r, kv.obj) :: mk) := by
  have hfin : RepS1 (fun t v m => ∃ n', n' < n ∧ RepS n' t v m) (.tab es) (ptr b) ((b, Obj.cells (sCells 6 false 0 [] nilS (.map (some r))) 40 (0, 0)) :: (r, kv.obj) :: mk) := ⟨b, r, kv, kts, mk, rfl, hok, hp, hk, rfl⟩
  cases n with
  | zero => exact RepS1.mono (fun _ _ _ ⟨_, h, _⟩ => absurd h (Nat.not_lt_zero _)) hfin
  | succ n => exact RepS1.mono (fun _ _ _ ⟨_, h, h'⟩ => h'.le (Nat.le_of_lt_succ h)) hfin

def CopySpec (W0 : World) (n : Nat) (t : T) : Prop := ∀ v mv M, RepS n t v mv → (∀ x, x ∈ mv → x ∈ M) → Tri Try.prog W0 21 [v] M fun r M' => ∃ m', RepS n t r m' ∧ M' = M ++ m'

set_option maxHeartbeats 4000000 in
theorem copy_step (n : Nat) (t : T) (hone : ∀ y, t = .one y → CopySpec W0 0 (.int y)) (hsub : ∀ es, t = .tab es → ∀ p, p ∈ es → ∀ n', n' < n → CopySpec W0 n' p.2) : CopySpec W0 n t := by
  intro v mv M hv hmv
  obtain ⟨b, kk, x, i, s, p, N, c, o, mm, rfl, rfl, hN, hN1, hnot, htab⟩ := hv.shape2
  have hb := hmv _ m0
  have hmm : ∀ x, x ∈ mm → x ∈ M := fun x hx => hmv _ (.tail _ hx)
  refine tri_of 51 Try.func21 rfl Try.ntmps21 (Nat.le_of_ble_eq_true rfl) ?_
  refine c_seq ?_
  refine c_region ?_   -- region 0
  refine g_q (qv_assign rfl) rfl ?_
  refine g_nil ?_
  refine e_seq ?_
  refine c_seq ?_
  refine c_region ?_   -- region 1
  refine g_q (qv_move rfl) rfl ?_
  refine g_q (qv_nil rfl) rfl ?_
  refine g_q (qv_loadA (vs := (sCells kk x i s (.slice p N c) (.map o)).toList) rfl Try.isAgg40 Try.sizeOf40 hb (fun _ _ h => by simpa using h)) rfl ?_
  refine g_i (iv_allocA (z := sCells 0 false 0 [] nilS nilM) Try.zeroValue40) rfl ?_
  rintro _ _ ⟨b3, rfl, rfl⟩
  refine g_i0 (iv_storeA (i := 0) (b := b3) (vs := sCells kk x i s (.slice p N c) (.map o)) rfl rfl all_sCells Try.sizeOf40 rfl rfl) ?_
  rintro _ _ rfl
  refine g_nil ?_
  refine e_seq ?_
  refine c_seq ?_
  refine c_region ?_   -- region 2
  refine g_q (qv_field rfl Try.runUnderlying40 rfl Try.sizeOf37 rfl) rfl ?_
  refine g_i0 (iv_store (i := 0) (b := b3) (v := nilS) rfl rfl rfl Try.sizeOf37 rfl (Nat.le_of_ble_eq_true rfl)) ?_
  rintro _ _ rfl
  refine g_nil ?_
  refine e_seq ?_
  refine c_seq ?_
  refine c_seq ?_
  refine c_region ?_   -- region 3
  refine g_q (qv_move rfl) rfl ?_
  refine g_q (qv_nil rfl) rfl ?_
  refine g_q (qv_field rfl Try.runUnderlying40 rfl Try.sizeOf37 rfl) rfl ?_
  refine g_q (qv_load (v := .slice p N c) rfl Try.isAgg37 (.tail _ hb) rfl) rfl ?_
  refine g_q (qv_len_slice rfl Try.runUnderlying37) rfl ?_
  refine g_q (qv_move rfl) rfl ?_
  refine g_nil ?_
  refine e_seq ?_
  refine c_block ?_
  refine c_keep (L' := [(0, ptr b), (3, ptr b3), (15, .slice p N c), (16, .int .i64 (N : Int)), (17, .int .i64 ((0 : Nat) : Int))]) ⟨rfl, rfl, rfl, rfl, rfl, trivial⟩ ?_
  refine c_to (M' := (b3, .cells (sCells kk x i s nilS (.map o)) 40 (0, 0)) :: (M ++ ([] ++ []))) (by rw [List.append_nil, List.append_nil]; exact Fits.refl _) ?_
  refine c_loop (ι := Nat) (fun j L M' => ∃ p1 c1 mj mx xs, L = [(0, ptr b), (3, ptr b3), (15, .slice p N c), (16, .int .i64 (N : Int)), (17, .int .i64 (j : Int))] ∧ j ≤ N ∧ Row 24 1 (.slice p1 j c1) j xs mj ∧ (j = 0 → p1 = none ∧ c1 = 0 ∧ mj = [] ∧ mx = [] ∧ xs = []) ∧ (j = 1 → ∃ y bx, t = .one y ∧ xs = [ptr bx] ∧ mx = [(bx, Obj.cells (sCells 2 false y [] nilS nilM) 40 (0, 0))]) ∧
    M' = (b3, .cells (sCells kk x i s (.slice p1 j c1) (.map o)) 40 (0, 0)) :: (M ++ (mj ++ mx))) (fun j => N - j) 0 ⟨none, 0, [], [], [], rfl, Nat.zero_le _, Row.nil _ _, fun _ => ⟨rfl, rfl, rfl, rfl, rfl⟩, fun e => (by cases e), rfl⟩ ?_
  rintro j _ _ ⟨p1, c1, mj, mx, xs, rfl, hj, hrow, h0, h1, rfl⟩
  refine c_seq ?_
  refine c_region ?_   -- region 4
  refine g_q (qv_lss rfl rfl) rfl ?_
  refine g_nil ?_
  refine e_seq ?_
  refine c_seq ?_
  refine c_cond rfl (fun hc => ?_) (fun hc => ?_)   -- t18
  · -- true
    refine c_skip ?_
    refine e_seq ?_
    refine c_seq ?_
    refine c_block ?_
    refine c_seq ?_
    refine c_region ?_   -- region 5
    have hjN : j < N := by
      have := of_decide_eq_true hc
      omega
    obtain rfl : j = 0 := by omega
    obtain rfl : N = 1 := by omega
    obtain ⟨rfl, rfl, rfl, rfl, rfl⟩ := h0 rfl
    obtain ⟨y, g, cs, bx, ht, rfl, hcs, hg, hbx⟩ := hN1 rfl
    have hg' := hmm _ hg
    have hbx' := hmm _ hbx
    refine g_q (qv_index rfl rfl Try.runUnderlying37 Try.sizeOf24 (by omega) (by omega)) rfl ?_
    refine g_q (qv_load (v := ptr bx) rfl Try.isAgg24 (.tail _ (List.mem_append_left _ hg')) hcs) rfl ?_
    refine g_q (qv_assign rfl) rfl ?_
    refine g_nil ?_
    refine e_seq ?_
    refine c_draw [(b3, .cells (sCells kk x i s nilS (.map o)) 40 (0, 0))] (fun i => !(i == 7)) Try.mixed ?_
    refine d_takeW 0 rfl (by kernel_rfl) (by kernel_rfl) (by kernel_rfl) rfl (fun _ => qv_field rfl Try.runUnderlying40 rfl Try.sizeOf37 rfl) ?_
    refine d_take 1 rfl (by kernel_rfl) (by kernel_rfl) (by kernel_rfl) (by kernel_rfl) rfl (qv_load (v := nilS) rfl Try.isAgg37 m0 rfl) (fun x hx => by rw [List.mem_singleton.1 hx]; exact m0) ?_
    refine d_takeW 2 rfl (by kernel_rfl) (by kernel_rfl) (by kernel_rfl) rfl (fun _ => qv_move rfl) ?_
    refine d_run 3 rfl (by kernel_rfl) rfl (iv_call (vs := [ptr bx]) Try.call21 ⟨rfl, trivial⟩ (hone y ht (ptr bx) [(bx, .cells (sCells 2 false y [] nilS nilM) 40 (0, 0))] _ ⟨bx, rfl, rfl⟩ (fun x hx => by rw [List.mem_singleton.1 hx]; exact .tail _ (List.mem_append_left _ hbx')))) (by rintro _ _ ⟨m', _, rfl⟩ _ x hx; rw [List.mem_singleton.1 hx]; exact m0) ?_
    rintro _ _ ⟨_, ⟨bx2, rfl, rfl⟩, rfl⟩
    refine d_run 4 rfl (by kernel_rfl) rfl (iv_buildSlice (vs := [(0, ptr bx2)]) (cs := #[ptr bx2]) Try.runUnderlying37 Try.sizeOf24 Try.zeroValue24 ⟨rfl, rfl, trivial⟩ rfl (by kernel_rfl) rfl) (by rintro _ _ ⟨_, _, rfl⟩ _ x hx; rw [List.mem_singleton.1 hx]; exact m1) ?_
    rintro _ _ ⟨bs, rfl, rfl⟩
    refine d_run 5 rfl (by kernel_rfl) rfl (iv_append (pre := [(b3, .cells (sCells kk x i s nilS (.map o)) 40 (0, 0))]) (m := []) (F := M ++ ([] ++ []) ++ [(bx2, Obj.cells (sCells 2 false y [] nilS nilM) 40 (0, 0))]) (k := 1) rfl rfl Try.underlying37 info24 rfl rfl rfl hrow rfl (by simp [Value.oneCell']) (by decide) (by decide) (by omega) rfl) (by rintro _ _ ⟨_, _, rfl⟩ _ x hx; rw [List.mem_singleton.1 hx]; exact m0) ?_
    rintro v1 _ ⟨m1, hrow1, rfl⟩
    obtain ⟨p2, c2, rfl⟩ := hrow1.shape
    refine d_takeW 6 rfl (by kernel_rfl) (by kernel_rfl) (by kernel_rfl) rfl (fun _ => qv_field rfl Try.runUnderlying40 rfl Try.sizeOf37 rfl) ?_
    refine d_run0 7 rfl (by kernel_rfl) (iv_store (i := 0) rfl rfl rfl Try.sizeOf37 rfl (Nat.le_of_ble_eq_true rfl)) (fun _ _ _ h => by cases h) ?_
    rintro _ _ rfl
    refine d_done (by kernel_rfl) ?_
    refine e_normal_block ?_
    refine e_seq ?_
    refine c_region ?_   -- region 7
    refine g_q (qv_add (c := ((1 : Nat) : Int)) rfl rfl (by decide)) rfl ?_
    refine g_q (qv_move rfl) rfl ?_
    refine g_nil ?_
    refine e_to (M' := (b3, .cells (sCells kk x i s (.slice p2 1 c2) (.map o)) 40 (0, 0)) :: (M ++ (m1 ++ [(bx2, Obj.cells (sCells 2 false y [] nilS nilM) 40 (0, 0))]))) (fun f => by simp [sCells] <;> omega) ?_
    exact e_again 1 (by omega) (L' := [(0, ptr b), (3, ptr b3), (15, .slice (some ⟨g, 0, none⟩) 1 c), (16, .int .i64 ((1 : Nat) : Int)), (17, .int .i64 ((1 : Nat) : Int))]) ⟨rfl, rfl, rfl, rfl, rfl, trivial⟩ ⟨p2, c2, m1, _, _, rfl, Nat.le_refl _, hrow1, fun e => (by cases e), fun _ => ⟨y, bx2, ht, rfl, rfl⟩, rfl⟩
  · -- false
    refine c_exit ?_
    refine e_exit_then ?_
    refine e_exit_then ?_
    refine e_exit_block ?_
    refine e_seq ?_
    refine c_seq ?_
    refine c_seq ?_
    refine c_region ?_   -- region 8
    obtain rfl : j = N := by
      have := of_decide_eq_false hc
      omega
    refine g_q (qv_move rfl) rfl ?_
    refine g_q (qv_nil rfl) rfl ?_
    refine g_q (qv_field rfl Try.runUnderlying40 rfl Try.sizeOf3 rfl) rfl ?_
    refine g_q (qv_load (v := .int .i64 kk) rfl Try.isAgg3 (.tail _ (List.mem_append_left _ hb)) rfl) rfl ?_
    refine g_q (qv_eqi rfl rfl) rfl ?_
    refine g_nil ?_
    refine e_seq ?_
    refine c_cond rfl (fun hc => ?_) (fun hc => ?_)   -- t33
    · -- true
      refine c_seq ?_
      refine c_region ?_   -- region 9
      have hkk : kk = 6 := of_decide_eq_true hc
      obtain ⟨rfl, rfl, rfl, rfl, es, r, kv, kts, mk, rfl, rfl, hok, hperm, hkids, rfl⟩ := htab hkk
      subst hkk
      obtain ⟨rfl, rfl, rfl, rfl, rfl⟩ := h0 rfl
      have hr := hmm _ m0
      have hndk := perm_keys_nodup hok hperm
      refine g_i iv_makeKV rfl ?_
      rintro _ _ ⟨r2, rfl, rfl⟩
      refine g_q (qv_field rfl Try.runUnderlying40 rfl Try.sizeOf38 rfl) rfl ?_
      refine g_i0 (iv_store (i := 1) (b := b3) (v := .map (some r2)) rfl rfl rfl Try.sizeOf38 rfl (Nat.le_of_ble_eq_true rfl)) ?_
      rintro _ _ rfl
      refine g_nil ?_
      refine e_seq ?_
      refine c_seq ?_
      refine c_region ?_   -- region 10
      refine g_q (qv_move rfl) rfl ?_
      refine g_q (qv_nil rfl) rfl ?_
      refine g_q (qv_field rfl Try.runUnderlying40 rfl Try.sizeOf38 rfl) rfl ?_
      refine g_q (qv_load (v := .map (some r)) rfl Try.isAgg38 (.tail _ (.tail _ (List.mem_append_left _ hb))) rfl) rfl ?_
      refine g_i (iv_range (m := kv) rfl Try.runUnderlying38 (.tail _ (.tail _ (List.mem_append_left _ hr)))) rfl ?_
      rintro _ _ ⟨it, rfl, rfl⟩
      refine g_nil ?_
      refine e_seq ?_
      refine c_block ?_
      refine c_keep (L' := [(3, ptr b3), (40, ptr it)]) ⟨rfl, rfl, trivial⟩ ?_
      refine c_loop (ι := Array Nat) (fun seen L M' => ∃ kv2 vts lts ml mo, L = [(3, ptr b3), (40, ptr it)] ∧ Kids (fun t v m => ∃ n', n' < n ∧ RepS n' t v m) vts (KV.list kv2) mo ∧ Kids (fun t v m => ∃ n', n' < n ∧ RepS n' t v m) lts (kv.left seen) ml ∧ (vts ++ lts).Perm kts ∧ (∀ x, x ∈ ml → x ∈ mk) ∧
        M' = (it, iterObj r kv seen) :: (r2, kv2.obj) :: (b3, .cells (sCells 6 false 0 [] nilS (.map (some r2))) 40 (0, 0)) :: (M ++ mo)) (fun seen => (kv.left seen).length) #[] ⟨KV.empty, [], kts, mk, [], rfl, rfl, by rw [KV.left_start]; exact hkids, List.Perm.refl _, fun _ h => h, rfl⟩ ?_
      rintro seen _ _ ⟨kv2, vts, lts, ml, mo, rfl, hvk, hlk, hvl, hml, rfl⟩
      refine c_seq ?_
      refine c_region ?_   -- region 11
      refine g_i (iv_next (i := 0) rfl rfl (.tail _ (.tail _ (.tail _ (List.mem_append_left _ hr))))) rfl ?_
      rintro _ _ (⟨hl0, rfl, rfl⟩ | ⟨key, u, seen2, rfl, rfl, hperm2, hcur⟩)
      · refine g_q (qv_extract rfl rfl) rfl ?_
        refine g_nil ?_
        refine e_seq ?_
        refine c_seq ?_
        refine c_false rfl ?_
        refine c_exit ?_
        refine e_exit_then ?_
        refine e_exit_then ?_
        refine e_exit_block ?_
        refine e_seq ?_
        rw [hl0] at hlk
        obtain ⟨rfl, rfl⟩ := hlk.none
        rw [List.append_nil] at hvl
        refine c_seq ?_
        refine c_region ?_   -- region 14
        refine g_q (qv_assign rfl) rfl ?_
        refine g_nil ?_
        refine e_seq ?_
        refine c_ret ?_
        exact e_to (M' := M ++ ((b3, .cells (sCells 6 false 0 [] nilS (.map (some r2))) 40 (0, 0)) :: (r2, kv2.obj) :: mo)) (fun f => by simp <;> omega) (e_ret1 (.inl rfl) Try.results21 rfl ⟨_, RepS.mk hok (hvl.trans hperm) hvk, rfl⟩)
      · have hmu : (kv.left seen2).length < (kv.left seen).length := by
          rw [hperm2.length_eq]
          exact Nat.lt_succ_self _
        obtain ⟨lts', ml', hpl0, hpml, hkl'⟩ := hlk.perm hperm2
        obtain ⟨tu, lts2, mu, ml2, rfl, rfl, ⟨n', hn', hru⟩, hkl2⟩ := hkl'.cons
        have hmu' : ∀ x, x ∈ mu → x ∈ M := fun x hx => hmm _ (.tail _ (hml _ (hpml.mem_iff.2 (List.mem_append_left _ hx))))
        have hpes : (key, tu) ∈ es := hperm.mem_iff.1 (hvl.mem_iff.1 (List.mem_append_right _ (hpl0.mem_iff.2 List.mem_cons_self)))
        have hvl2 : (vts ++ [(key, tu)] ++ lts2).Perm kts := by
          refine List.Perm.trans ?_ hvl
          rw [List.append_assoc]
          exact List.Perm.append_left vts hpl0.symm
        have hfresh : kv2.list.lookup key = none := by
          refine lookup_none ?_
          rw [← hvk.keys]
          have h1 := (hvl2.map (·.1)).nodup_iff.2 hndk
          rw [List.map_append, List.map_append] at h1
          have h2 := (List.nodup_append.1 (List.nodup_append.1 h1).1).2.2
          exact fun hin => h2 _ hin key (by simp) rfl
        refine g_q (qv_extract rfl rfl) rfl ?_
        refine g_nil ?_
        refine e_seq ?_
        refine c_seq ?_
        refine c_true rfl ?_
        refine c_skip ?_
        refine e_seq ?_
        refine c_block ?_
        refine c_seq ?_
        refine c_region ?_   -- region 12
        refine g_q (qv_entry (k := key) (v := u) rfl m0 (.tail _ (.tail _ (.tail _ (List.mem_append_left _ hr)))) hcur) rfl ?_
        refine g_q (qv_extract rfl rfl) rfl ?_
        refine g_q (qv_extract rfl rfl) rfl ?_
        refine g_q (qv_assign rfl) rfl ?_
        refine g_q (qv_assign rfl) rfl ?_
        refine g_nil ?_
        refine e_seq ?_
        refine c_draw [(b3, .cells (sCells 6 false 0 [] nilS (.map (some r2))) 40 (0, 0))] (fun i => !(i == 5)) Try.mixed ?_
        refine d_takeW 0 rfl (by kernel_rfl) (by kernel_rfl) (by kernel_rfl) rfl (fun _ => qv_field rfl Try.runUnderlying40 rfl Try.sizeOf38 rfl) ?_
        refine d_take 1 rfl (by kernel_rfl) (by kernel_rfl) (by kernel_rfl) (by kernel_rfl) rfl (qv_load (v := .map (some r2)) rfl Try.isAgg38 m0 rfl) (fun x hx => by rw [List.mem_singleton.1 hx]; exact m2) ?_
        refine d_takeW 2 rfl (by kernel_rfl) (by kernel_rfl) (by kernel_rfl) rfl (fun _ => qv_move rfl) ?_
        refine d_takeW 3 rfl (by kernel_rfl) (by kernel_rfl) (by kernel_rfl) rfl (fun _ => qv_move rfl) ?_
        refine d_run 4 rfl (by kernel_rfl) rfl (iv_call (vs := [u]) Try.call21 ⟨rfl, trivial⟩ (hsub es rfl _ hpes n' hn' u mu _ hru (fun x hx => .tail _ (.tail _ (.tail _ (List.mem_append_left _ (hmu' x hx))))))) (by rintro _ _ ⟨m', _, rfl⟩ _ x hx; rw [List.mem_singleton.1 hx]; exact m2) ?_
        rintro d1 _ ⟨m1, hd1, rfl⟩
        refine d_run0 5 rfl (by kernel_rfl) (iv_put (i := 1) (m := kv2) rfl rfl rfl Try.runUnderlying38 Try.runUnderlying9 rfl) (fun _ _ _ h => by cases h) ?_
        rintro _ _ rfl
        refine d_done (by kernel_rfl) ?_
        refine e_normal_block ?_
        have hput : (kv2.put key d1).list = kv2.list ++ [(key, d1)] := by rw [KV.list_put, putL, hfresh]; rfl
        refine e_to (M' := (it, iterObj r kv seen2) :: (r2, (kv2.put key d1).obj) :: (b3, .cells (sCells 6 false 0 [] nilS (.map (some r2))) 40 (0, 0)) :: (M ++ (mo ++ m1))) (fun f => by simp) ?_
        exact e_again seen2 hmu (L' := [(3, ptr b3), (40, ptr it)]) ⟨rfl, rfl, trivial⟩ ⟨kv2.put key d1, vts ++ [(key, tu)], lts2, ml2, mo ++ m1, rfl, by rw [hput]; exact hvk.append (Kids.single ⟨n', hn', hd1⟩), hkl2, hvl2, fun x hx => hml _ (hpml.mem_iff.2 (List.mem_append_right _ hx)), rfl⟩
    · -- false
      refine c_skip ?_
      refine e_seq ?_
      refine c_seq ?_
      refine c_region ?_   -- region 14
      refine g_q (qv_assign rfl) rfl ?_
      refine g_nil ?_
      refine e_seq ?_
      refine c_ret ?_
      refine ?_
      have hkk : kk ≠ 6 := of_decide_eq_false hc
      obtain ⟨rfl, hrep⟩ := hnot hkk
      exact e_to (M' := M ++ ((b3, .cells (sCells kk x i s (.slice p1 j c1) (.map none)) 40 (0, 0)) :: (mj ++ mx))) (fun f => by simp <;> omega) (e_ret1 (.inl rfl) Try.results21 rfl ⟨_, hrep b3 _ mj mx xs hrow (fun e => (h0 e).elim fun h1 h2 => by obtain ⟨h2, h3, h4, _⟩ := h2; rw [h1, h2, h3, h4, e]; exact ⟨rfl, rfl, rfl⟩) h1, rfl⟩)
theorem copy_any (n : Nat) : ∀ t, CopySpec W0 n t := by
  have hint : ∀ y, CopySpec W0 0 (.int y) := fun y => copy_step 0 (.int y) (fun _ e => by cases e) (fun _ e => by cases e)
  induction n using Nat.strongRecOn with
  | ind n ih => exact fun t => copy_step n t (fun y _ => hint y) (fun _ _ p _ n' hn' => ih n' hn' p.2)

end Go.Proofs.Ytnnclcfklbeocaa

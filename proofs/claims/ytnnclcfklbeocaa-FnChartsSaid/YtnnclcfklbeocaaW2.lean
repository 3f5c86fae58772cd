/-
  The walks, part 2: laws.tableOfNumbers; laws.pathIn and what it gives ('pathOf'); laws.joined.
  Conditions: the numbers came in as an argument.
-/
import Derived.Test.YtnnclcfklbeocaaW1
namespace Go.Proofs.Ytnnclcfklbeocaa
open Go.RowKit

variable {W0 : World}

theorem numbers_any (lv : Value) (xs : List Int) (M : Heap) (hl : ArgL W0 lv xs) : Tri Try.prog W0 8 [lv] M fun v M' => ∃ es m', RepS 3 (.tab es) v m' ∧ M' = M ++ m' := by
  refine tri_of 6 Try.func8 rfl Try.ntmps8 (Nat.le_of_ble_eq_true rfl) ?_
  refine c_seq ?_
  refine c_region ?_   -- region 0
  refine g_q (qv_assign rfl) rfl ?_
  refine g_nil ?_
  refine e_seq ?_
  refine c_seq ?_
  refine c_region ?_   -- region 1
  refine g_i (iv_alloc1 Try.zeroValue3 rfl) rfl ?_
  rintro _ _ ⟨b, rfl, rfl⟩
  refine g_i0 (iv_store (i := 0) rfl rfl rfl Try.sizeOf3 rfl (Nat.le_of_ble_eq_true rfl)) ?_
  rintro _ _ rfl
  refine g_nil ?_
  refine e_seq ?_
  refine c_seq ?_
  refine c_region ?_   -- region 2
  refine g_q (qv_move rfl) rfl ?_
  refine g_i (iv_call (vs := [lv, ptr b, .int .i64 ((2 : Nat) : Int)]) Try.call25 ⟨rfl, rfl, rfl, trivial⟩ (tableOf_any 2 b 0 lv xs M hl (by omega) (by decide))) rfl ?_
  rintro v1 _ ⟨t, k', m1, hr1, ⟨es, rfl⟩, _, _, rfl⟩
  refine g_q (qv_assign rfl) rfl ?_
  refine g_nil ?_
  refine e_seq ?_
  refine c_ret ?_
  refine ?_
  exact e_to Fits.tail (e_ret1 (.inl rfl) Try.results8 rfl ⟨es, m1, hr1, rfl⟩)
/-! ### paths -/
def keyName : Nat → Key
  | 0 => [97]
  | 1 => [98]
  | 2 => [99]
  | 3 => [115, 117, 98]
  | 4 => [103, 108, 111, 98, 97, 108]
  | _ => [100]
def pathKey (n : Int) (k : Nat) : Key := keyName ((n.fdiv (2 ^ min (3 + 3 * k) 32)).tmod 6).toNat
def pathOf (n : Int) : List Key := (List.range (1 + (n.tmod 3).toNat)).map (pathKey n)

theorem keyName_at (q : Int) (h0 : 0 ≤ q) (h1 : q < 6) : (#[str [97], str [98], str [99], str [115, 117, 98], str [103, 108, 111, 98, 97, 108], str [100]] : Array Value).toList[0 + q.toNat * 1]? = some (str (keyName q.toNat)) := by
  have : q = 0 ∨ q = 1 ∨ q = 2 ∨ q = 3 ∨ q = 4 ∨ q = 5 := by omega
  rcases this with rfl | rfl | rfl | rfl | rfl | rfl <;> rfl
theorem keyName_ok (q : Nat) : Nm (keyName q) := by
  unfold keyName
  split <;> simp [Nm, names]
theorem pathOf_ok (n : Int) : 1 ≤ (pathOf n).length ∧ (pathOf n).length ≤ 3 ∧ ∀ k ∈ pathOf n, Nm k := by
  have h1 := Int.tmod_lt_of_pos n (b := (3 : Int)) (by decide)
  refine ⟨by simp [pathOf], by simp [pathOf]; omega, fun k hk => ?_⟩
  obtain ⟨j, _, rfl⟩ := List.mem_map.1 hk
  exact keyName_ok _

theorem pathIn_any (n : Int) (M : Heap) (h0 : 0 ≤ n) : Tri Try.prog W0 10 [.int .u32 n] M fun v M' => ∃ m', Row 9 1 v (pathOf n).length ((pathOf n).map str) m' ∧ M' = M ++ m' := by
  have hr0 := Int.tmod_nonneg (a := n) (3 : Int) h0
  have hr1 := Int.tmod_lt_of_pos n (b := (3 : Int)) (by decide)
  refine tri_of 26 Try.func10 rfl Try.ntmps10 (Nat.le_of_ble_eq_true rfl) ?_
  refine c_seq ?_
  refine c_region ?_   -- region 0
  refine g_q (qv_assign rfl) rfl ?_
  refine g_nil ?_
  refine e_seq ?_
  refine c_seq ?_
  refine c_region ?_   -- region 1
  refine g_i (iv_buildSlice0 Try.runUnderlying27 Try.sizeOf9) rfl ?_
  rintro _ _ ⟨b, rfl, rfl⟩
  refine g_q (qv_assign rfl) rfl ?_
  refine g_nil ?_
  refine e_seq ?_
  refine c_seq ?_
  refine c_seq ?_
  refine c_region ?_   -- region 2
  refine g_q (qv_move rfl) rfl ?_
  refine g_q (qv_rem rfl rfl (by decide) rfl) rfl ?_
  refine g_q (qv_add (c := 1 + n.tmod 3) rfl rfl (wrap_u32 (by omega) (by omega))) rfl ?_
  refine g_q (qv_move rfl) rfl ?_
  refine g_nil ?_
  refine e_seq ?_
  refine c_block ?_
  refine c_keep (L' := [(0, .int .u32 n), (3, .slice (some ⟨b, 0, none⟩) 0 0), (8, .int .u32 (1 + n.tmod 3)), (9, .int .u32 ((0 : Nat) : Int))]) ⟨rfl, rfl, rfl, rfl, trivial⟩ ?_
  refine c_loop (ι := Nat) (fun j L M' => ∃ v m, L = [(0, .int .u32 n), (3, v), (8, .int .u32 (1 + n.tmod 3)), (9, .int .u32 (j : Int))] ∧ (j : Int) ≤ 1 + n.tmod 3 ∧ Row 9 1 v j ((List.range j).map (str ∘ pathKey n)) m ∧ M' = m ++ M) (fun j => 3 - j) 0 ⟨.slice (some ⟨b, 0, none⟩) 0 0, [(b, .cells #[] 9 (0, 0))], rfl, by omega, ⟨rfl, Or.inr ⟨b, 0, #[], rfl, rfl, Nat.le_refl _, rfl, rfl⟩⟩, rfl⟩ ?_
  rintro j _ _ ⟨v, m, rfl, hj, hrow, rfl⟩
  refine c_seq ?_
  refine c_region ?_   -- region 3
  refine g_q (qv_lss rfl rfl) rfl ?_
  refine g_nil ?_
  refine e_seq ?_
  refine c_seq ?_
  refine c_cond rfl (fun hc => ?_) (fun hc => ?_)
  · -- true
    refine c_skip ?_
    refine e_seq ?_
    refine c_seq ?_
    refine c_block ?_
    refine c_seq ?_
    refine c_region ?_   -- region 4
    refine g_q (qv_move rfl) rfl ?_
    refine g_q (qv_assign rfl) rfl ?_
    have hjlt : (j : Int) < 1 + n.tmod 3 := of_decide_eq_true hc
    refine g_nil ?_
    refine e_seq ?_
    refine c_region ?_   -- region 5
    refine g_q (qv_move rfl) rfl ?_
    refine g_i (iv_buildSlice (vs := [(0, str [97]), (1, str [98]), (2, str [99]), (3, str [115, 117, 98]), (4, str [103, 108, 111, 98, 97, 108]), (5, str [100])]) (cs := #[str [97], str [98], str [99], str [115, 117, 98], str [103, 108, 111, 98, 97, 108], str [100]]) Try.runUnderlying27 Try.sizeOf9 Try.zeroValue9
      ⟨rfl, rfl, rfl, rfl, rfl, rfl, rfl, rfl, rfl, rfl, rfl, rfl, trivial⟩ rfl (by kernel_rfl) rfl) rfl ?_
    rintro _ _ ⟨bk, rfl, rfl⟩
    refine g_q (qv_move rfl) rfl ?_
    refine g_q (qv_move rfl) rfl ?_
    refine g_q (qv_mul (c := 3 * (j : Int)) rfl rfl (wrap_u32 (by omega) (by omega))) rfl ?_
    refine g_q (qv_add (c := ((3 + 3 * j : Nat) : Int)) rfl rfl (by rw [wrap_u32 (by omega) (by omega)]; omega)) rfl ?_
    have hs0 : 0 ≤ n.fdiv (2 ^ min (3 + 3 * j) 32) := Int.fdiv_nonneg h0 (Int.le_of_lt (Int.pow_pos (by decide)))
    have hq0 := Int.tmod_nonneg (a := n.fdiv (2 ^ min (3 + 3 * j) 32)) (6 : Int) hs0
    have hq1 := Int.tmod_lt_of_pos (n.fdiv (2 ^ min (3 + 3 * j) 32)) (b := (6 : Int)) (by decide)
    refine g_q (qv_shr (c := n.fdiv (2 ^ min (3 + 3 * j) 32)) rfl rfl (by omega) rfl) rfl ?_
    refine g_q (qv_rem rfl rfl (by decide) rfl) rfl ?_
    refine g_q (qv_index rfl rfl Try.runUnderlying27 Try.sizeOf9 hq0 hq1) rfl ?_
    refine g_q (qv_load (v := str (pathKey n j)) rfl Try.isAgg9 m0 (keyName_at _ hq0 hq1)) rfl ?_
    refine g_to Fits.tail ?_
    refine g_i (iv_buildSlice (vs := [(0, str (pathKey n j))]) (cs := #[str (pathKey n j)]) Try.runUnderlying27 Try.sizeOf9 Try.zeroValue9 ⟨rfl, rfl, trivial⟩ rfl (by kernel_rfl) rfl) rfl ?_
    rintro _ _ ⟨bs, rfl, rfl⟩
    refine g_i (iv_append (pre := []) (m := m) (F := M) (k := 1) rfl rfl Try.underlying27 info9 rfl rfl rfl hrow rfl (by simp [str, Value.oneCell']) (by decide) (by decide) (by omega) rfl) rfl ?_
    rintro v1 _ ⟨m1, hrow1, rfl⟩
    refine g_q (qv_assign rfl) rfl ?_
    refine g_nil ?_
    refine e_normal_block ?_
    refine e_seq ?_
    refine c_region ?_   -- region 6
    refine g_q (qv_add (c := ((j + 1 : Nat) : Int)) rfl rfl (by rw [wrap_u32 (by omega) (by omega)]; omega)) rfl ?_
    refine g_q (qv_move rfl) rfl ?_
    refine g_nil ?_
    exact e_again (j + 1) (by omega) (L' := [(0, .int .u32 n), (3, v1), (8, .int .u32 (1 + n.tmod 3)), (9, .int .u32 ((j + 1 : Nat) : Int))]) ⟨rfl, rfl, rfl, rfl, trivial⟩ ⟨v1, m1, rfl, by omega, by rw [List.range_succ, List.map_append]; exact hrow1, rfl⟩
  · -- false
    refine c_exit ?_
    refine e_exit_then ?_
    refine e_exit_then ?_
    refine e_exit_block ?_
    refine e_seq ?_
    refine c_seq ?_
    refine c_region ?_   -- region 7
    refine g_q (qv_move rfl) rfl ?_
    refine g_q (qv_assign rfl) rfl ?_
    refine g_nil ?_
    refine e_seq ?_
    refine c_ret ?_
    refine ?_
    have hje : j = 1 + (n.tmod 3).toNat := by
      have := of_decide_eq_false hc
      omega
    refine e_to (M' := M ++ m) (Fits.of_perm List.perm_append_comm) (e_ret1 (.inl rfl) Try.results10 rfl ⟨m, ?_, rfl⟩)
    rw [pathOf, List.length_map, List.length_range, List.map_map, ← hje]
    exact hrow
def joinL : List Key → Key
  | [] => []
  | [k] => k
  | k :: l => k ++ (46 :: joinL l)
theorem joinL_snoc : ∀ (l : List Key) (k : Key), l ≠ [] → joinL (l ++ [k]) = joinL l ++ [46] ++ k
  | [], _, h => absurd rfl h
  | [a], k, _ => by simp [joinL]
  | a :: b :: l, k, _ => by
    have := joinL_snoc (b :: l) k (by simp)
    simp only [List.cons_append] at this ⊢
    simp only [joinL, this]
    simp
theorem joinL_len : ∀ (l : List Key), (∀ k ∈ l, k.length ≤ 100) → (joinL l).length ≤ 101 * l.length
  | [], _ => by simp [joinL]
  | [a], h => by
    have := h a (by simp)
    simp [joinL]; omega
  | a :: b :: l, h => by
    have h1 := h a (by simp)
    have h2 := joinL_len (b :: l) (fun k hk => h k (by simp only [List.mem_cons] at hk ⊢; exact Or.inr hk))
    simp only [joinL, List.length_append, List.length_cons] at h2 ⊢
    omega

theorem row_at {E : Nat} {v : Value} {n : Nat} {xs : List Value} {m : Heap} (h : Row E 1 v n xs m) {k : Nat} {u : Value} (hk : xs[k]? = some u) : ∃ g cap cs, v = .slice (some ⟨g, 0, none⟩) n cap ∧ (g, Obj.cells cs E (0, 0)) ∈ m ∧ cs.toList[0 + k * 1]? = some u := by
  have hkl := (List.getElem?_eq_some_iff.1 hk).1
  have hl := h.1
  obtain ⟨g, cap, cs, hv, hm, hc⟩ := h.block (by omega)
  refine ⟨g, cap, cs, hv, by rw [hm]; exact List.mem_singleton.2 rfl, ?_⟩
  rw [Nat.zero_add, Nat.mul_one, Array.getElem?_toList]
  exact hc k u hk

theorem joined_any (ks : List Key) (v : Value) (m M : Heap) (hrow : Row 9 1 v ks.length (ks.map str) m) (hm : ∀ x, x ∈ m → x ∈ M) (hks : ∀ k ∈ ks, k.length ≤ 100) (hn : ks.length ≤ 1000) : Tri Try.prog W0 13 [v] M fun u M' => u = str (joinL ks) ∧ M' = M := by
  obtain ⟨p, c, rfl⟩ := hrow.shape
  refine tri_of 22 Try.func13 rfl Try.ntmps13 (Nat.le_of_ble_eq_true rfl) ?_
  refine c_seq ?_
  refine c_region ?_   -- region 0
  refine g_q (qv_assign rfl) rfl ?_
  refine g_nil ?_
  refine e_seq ?_
  refine c_seq ?_
  refine c_region ?_   -- region 1
  refine g_q (qv_assign rfl) rfl ?_
  refine g_nil ?_
  refine e_seq ?_
  refine c_seq ?_
  refine c_seq ?_
  refine c_region ?_   -- region 2
  refine g_q (qv_move rfl) rfl ?_
  refine g_q (qv_len_slice rfl Try.runUnderlying27) rfl ?_
  refine g_q (qv_move rfl) rfl ?_
  refine g_nil ?_
  refine e_seq ?_
  refine c_block ?_
  refine c_keep (L' := [(3, str (joinL (ks.take 0))), (6, .slice p ks.length c), (7, .int .i64 (ks.length : Int)), (8, .int .i64 ((0 : Nat) : Int))]) ⟨rfl, rfl, rfl, rfl, trivial⟩ ?_
  refine c_loop (ι := Nat) (fun j L M' => L = [(3, str (joinL (ks.take j))), (6, .slice p ks.length c), (7, .int .i64 (ks.length : Int)), (8, .int .i64 (j : Int))] ∧ j ≤ ks.length ∧ M' = M) (fun j => ks.length - j) 0 ⟨rfl, Nat.zero_le _, rfl⟩ ?_
  rintro j _ _ ⟨rfl, hj, rfl⟩
  have hw : IntKind.i64.wrap ((j : Int) + 1) = ((j + 1 : Nat) : Int) := by rw [wrap_i64 (by omega) (by omega)]; omega
  refine c_seq ?_
  refine c_region ?_   -- region 3
  refine g_q (qv_lss rfl rfl) rfl ?_
  refine g_nil ?_
  refine e_seq ?_
  refine c_seq ?_
  refine c_cond rfl (fun hc => ?_) (fun hc => ?_)   -- t9
  · -- true
    refine c_skip ?_
    refine e_seq ?_
    refine c_seq ?_
    refine c_block ?_
    refine c_seq ?_
    refine c_region ?_   -- region 4
    have hjl : j < ks.length := by
      have := of_decide_eq_true hc
      omega
    obtain ⟨k, hk⟩ : ∃ k, ks[j]? = some k := ⟨_, List.getElem?_eq_getElem hjl⟩
    have htake : ks.take (j + 1) = ks.take j ++ [k] := by rw [List.take_add_one, hk]; rfl
    have hl1 := joinL_len (ks.take j) (fun k hk => hks k (List.mem_of_mem_take hk))
    have hl2 : (ks.take j).length = j := by simp; omega
    have hl3 := hks k (List.mem_of_getElem? hk)
    obtain ⟨g, c', cs, hv, hg, hcs⟩ := row_at hrow (k := j) (u := str k) (by rw [List.getElem?_map, hk]; rfl)
    cases hv
    refine g_q (qv_move rfl) rfl ?_
    refine g_q (qv_index rfl rfl Try.runUnderlying27 Try.sizeOf9 (by omega) (by omega)) rfl ?_
    refine g_q (qv_load (v := str k) rfl Try.isAgg9 (hm _ hg) (by simpa using hcs)) rfl ?_
    refine g_q (qv_assign rfl) rfl ?_
    refine g_q (qv_assign rfl) rfl ?_
    refine g_nil ?_
    refine e_seq ?_
    refine c_seq ?_
    refine c_seq ?_
    refine c_region ?_   -- region 5
    refine g_q (qv_move rfl) rfl ?_
    refine g_q (qv_gtr rfl rfl) rfl ?_
    refine g_nil ?_
    refine e_seq ?_
    refine c_cond rfl (fun hc0 => ?_) (fun hc0 => ?_)
    · -- true
      refine c_region ?_   -- region 6
      refine g_q (qv_move rfl) rfl ?_
      refine g_q (qv_adds (t := [46]) rfl rfl (by simp only [List.length_cons, List.length_nil]; omega)) rfl ?_
      refine g_q (qv_assign rfl) rfl ?_
      refine g_nil ?_
      refine e_seq ?_
      refine c_region ?_   -- region 7
      refine g_q (qv_move rfl) rfl ?_
      refine g_q (qv_move rfl) rfl ?_
      refine g_q (qv_adds rfl rfl (by simp only [List.length_append, List.length_cons, List.length_nil]; omega)) rfl ?_
      refine g_q (qv_assign rfl) rfl ?_
      refine g_nil ?_
      refine e_normal_block ?_
      refine e_seq ?_
      refine c_region ?_   -- region 8
      refine g_q (qv_add rfl rfl hw) rfl ?_
      refine g_q (qv_move rfl) rfl ?_
      refine g_nil ?_
      have hne : ks.take j ≠ [] := fun e => by
        have := of_decide_eq_true hc0
        rw [e] at hl2
        simp at hl2
        omega
      exact e_again (j + 1) (by omega) (L' := [(3, str (joinL (ks.take (j + 1)))), (6, .slice (some ⟨g, 0, none⟩) ks.length c), (7, .int .i64 (ks.length : Int)), (8, .int .i64 ((j + 1 : Nat) : Int))]) ⟨by rw [htake, joinL_snoc _ _ hne]; rfl, rfl, rfl, rfl, trivial⟩ ⟨rfl, hjl, rfl⟩
    · -- false
      refine c_skip ?_
      refine e_seq ?_
      refine c_region ?_   -- region 7
      refine g_q (qv_move rfl) rfl ?_
      refine g_q (qv_move rfl) rfl ?_
      refine g_q (qv_adds rfl rfl (by omega)) rfl ?_
      refine g_q (qv_assign rfl) rfl ?_
      refine g_nil ?_
      refine e_normal_block ?_
      refine e_seq ?_
      refine c_region ?_   -- region 8
      refine g_q (qv_add rfl rfl hw) rfl ?_
      refine g_q (qv_move rfl) rfl ?_
      refine g_nil ?_
      have hj0 : j = 0 := by
        have := of_decide_eq_false hc0
        omega
      subst hj0
      exact e_again 1 (by omega) (L' := [(3, str (joinL (ks.take 1))), (6, .slice (some ⟨g, 0, none⟩) ks.length c), (7, .int .i64 (ks.length : Int)), (8, .int .i64 ((0 + 1 : Nat) : Int))]) ⟨by rw [htake]; rfl, rfl, rfl, rfl, trivial⟩ ⟨rfl, hjl, rfl⟩
  · -- false
    refine c_exit ?_
    refine e_exit_then ?_
    refine e_exit_then ?_
    refine e_exit_block ?_
    refine e_seq ?_
    refine c_seq ?_
    refine c_region ?_   -- region 9
    refine g_q (qv_move rfl) rfl ?_
    refine g_q (qv_assign rfl) rfl ?_
    refine g_nil ?_
    refine e_seq ?_
    refine c_ret ?_
    refine ?_
    have hje : ks.length ≤ j := by
      have := of_decide_eq_false hc
      omega
    exact e_ret1 (.inl rfl) Try.results13 rfl ⟨by rw [List.take_of_length_le hje], rfl⟩
end Go.Proofs.Ytnnclcfklbeocaa

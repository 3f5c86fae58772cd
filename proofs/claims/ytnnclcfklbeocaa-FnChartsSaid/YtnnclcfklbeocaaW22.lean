/-
  The walks, part 22: copyMap (shallow: the values are the same).
  Condition: the map's block is known.
-/
import Derived.Test.YtnnclcfklbeocaaW21
namespace Go.Proofs.Ytnnclcfklbeocaa
open Go.RowKit

variable {W0 : World}

theorem copyMap_any (r : Nat) (kv : KV) (M : Heap) (hr : (r, kv.obj) ∈ M) : Tri Try.prog W0 86 [.map (some r)] M fun v M' => ∃ r2 kv2, v = .map (some r2) ∧ (KV.list kv2).Perm kv.list ∧ M' = (r2, kv2.obj) :: M := by
  refine tri_of 20 Try.func86 rfl Try.ntmps86 (Nat.le_of_ble_eq_true rfl) ?_
  refine c_seq ?_
  refine c_region ?_   -- region 0
  refine g_q (qv_assign rfl) rfl ?_
  refine g_nil ?_
  refine e_seq ?_
  refine c_seq ?_
  refine c_region ?_   -- region 1
  refine g_q (qv_move rfl) rfl ?_
  refine g_q (qv_len_map rfl Try.runUnderlying63 hr) rfl ?_
  refine g_i (iv_makeKVN rfl Try.runUnderlying63) rfl ?_
  rintro _ _ ⟨r2, rfl, rfl⟩
  refine g_q (qv_assign rfl) rfl ?_
  refine g_nil ?_
  refine e_seq ?_
  refine c_seq ?_
  refine c_seq ?_
  refine c_region ?_   -- region 2
  refine g_q (qv_move rfl) rfl ?_
  refine g_i (iv_range (m := kv) rfl Try.runUnderlying63 (.tail _ hr)) rfl ?_
  rintro _ _ ⟨it, rfl, rfl⟩
  refine g_nil ?_
  refine e_seq ?_
  refine c_block ?_
  refine c_keep (L' := [(3, .map (some r2)), (10, ptr it)]) ⟨rfl, rfl, trivial⟩ ?_
  refine c_loop (ι := Array Nat) (fun seen L M' => ∃ kv2, L = [(3, .map (some r2)), (10, ptr it)] ∧ (KV.list kv2 ++ kv.left seen).Perm kv.list ∧ M' = (it, iterObj r kv seen) :: (r2, kv2.obj) :: M) (fun seen => (kv.left seen).length) #[] ⟨KV.empty, rfl, by rw [KV.left_start]; exact List.Perm.refl _, rfl⟩ ?_
  rintro seen _ _ ⟨kv2, rfl, hvl, rfl⟩
  refine c_seq ?_
  refine c_region ?_   -- region 3
  refine g_i (iv_next (i := 0) rfl rfl (.tail _ (.tail _ hr))) rfl ?_
  rintro _ _ (⟨hl0, rfl, rfl⟩ | ⟨key, u, seen2, rfl, rfl, hperm2, hcur⟩)
  · refine g_q (qv_extract rfl rfl) rfl ?_
    refine g_nil ?_
    refine e_seq ?_
    refine c_seq ?_
    refine c_false rfl ?_
    refine c_exit ?_
    refine e_exit_then ?_
    refine e_exit_then ?_
    refine e_exit_block ?_
    refine e_seq ?_
    rw [hl0, List.append_nil] at hvl
    refine c_seq ?_
    refine c_region ?_   -- region 6
    refine g_q (qv_move rfl) rfl ?_
    refine g_q (qv_assign rfl) rfl ?_
    refine g_nil ?_
    refine e_seq ?_
    refine c_ret ?_
    exact e_to (M' := (r2, kv2.obj) :: M) (fun f => by simp <;> omega) (e_ret1 (.inl rfl) Try.results86 rfl ⟨r2, kv2, rfl, hvl, rfl⟩)
  · have hmu : (kv.left seen2).length < (kv.left seen).length := by
      rw [hperm2.length_eq]
      exact Nat.lt_succ_self _
    have hvl2 : (kv2.list ++ [(key, u)] ++ kv.left seen2).Perm kv.list := by
      refine List.Perm.trans ?_ hvl
      rw [List.append_assoc]
      exact List.Perm.append_left _ hperm2.symm
    have hfresh : kv2.list.lookup key = none := by
      refine lookup_none ?_
      have h1 := (hvl2.map (·.1)).nodup_iff.2 kv.nodup
      rw [List.map_append, List.map_append] at h1
      have h2 := (List.nodup_append.1 (List.nodup_append.1 h1).1).2.2
      exact fun hin => h2 _ hin key (by simp) rfl
    refine g_q (qv_extract rfl rfl) rfl ?_
    refine g_nil ?_
    refine e_seq ?_
    refine c_seq ?_
    refine c_true rfl ?_
    refine c_skip ?_
    refine e_seq ?_
    refine c_block ?_
    refine c_seq ?_
    refine c_region ?_   -- region 4
    refine g_q (qv_entry (k := key) (v := u) rfl m0 (.tail _ (.tail _ hr)) hcur) rfl ?_
    refine g_q (qv_extract rfl rfl) rfl ?_
    refine g_q (qv_extract rfl rfl) rfl ?_
    refine g_q (qv_assign rfl) rfl ?_
    refine g_q (qv_assign rfl) rfl ?_
    refine g_nil ?_
    refine e_seq ?_
    refine c_region ?_   -- region 5
    refine g_q (qv_move rfl) rfl ?_
    refine g_q (qv_move rfl) rfl ?_
    refine g_q (qv_move rfl) rfl ?_
    refine g_i0 (iv_put (i := 1) (m := kv2) rfl rfl rfl Try.runUnderlying63 Try.runUnderlying9 rfl) ?_
    rintro _ _ rfl
    refine g_nil ?_
    refine e_normal_block ?_
    exact e_again seen2 hmu (L' := [(3, .map (some r2)), (10, ptr it)]) ⟨rfl, rfl, trivial⟩ ⟨kv2.put key u, rfl, by rw [KV.list_put, putL, hfresh]; exact hvl2, rfl⟩
end Go.Proofs.Ytnnclcfklbeocaa

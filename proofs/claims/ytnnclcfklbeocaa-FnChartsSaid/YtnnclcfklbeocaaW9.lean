/-
  The walks, part 9: impl.told makes data of a value of the package: the same tree.
  Conditions: the value lies in memory as RepA says.
-/
import Derived.Test.YtnnclcfklbeocaaW8
namespace Go.Proofs.Ytnnclcfklbeocaa
open Go.RowKit

variable {W0 : World}

def ToldSpec (W0 : World) (n : Nat) (t : T) : Prop := ∀ a ma M, RepA n t a ma → (∀ x, x ∈ ma → x ∈ M) → Tri Try.prog W0 28 [a] M fun r M' => ∃ m', RepD n t r m' ∧ M' = M ++ m'

theorem told_null (n : Nat) : ToldSpec W0 n .null := by
  intro a ma M ha hma
  obtain ⟨rfl, rfl⟩ : a = .nilIface ∧ ma = [] := by cases n <;> exact ha
  refine tri_of 102 Try.func28 rfl Try.ntmps28 (Nat.le_of_ble_eq_true rfl) ?_
  refine c_seq ?_
  refine c_region ?_   -- region 0
  refine g_i (iv_allocA Try.zeroValue32) rfl ?_
  rintro _ _ ⟨b2, rfl, rfl⟩
  refine g_nil ?_
  refine e_seq ?_
  refine c_seq ?_
  refine c_seq ?_
  refine c_region ?_   -- region 1
  refine g_q (qv_move rfl) rfl ?_
  refine g_nil ?_
  refine e_seq ?_
  refine c_block ?_
  refine c_seq ?_
  refine c_region ?_   -- region 2
  refine g_q (qv_isnt_nil rfl Try.runUnderlying4 (fun _ h => by cases h) Try.zeroValue4) rfl ?_
  refine g_q (qv_extract rfl rfl) rfl ?_
  refine g_q (qv_extract rfl rfl) rfl ?_
  refine g_nil ?_
  refine e_seq ?_
  refine c_false rfl ?_   -- t19
  refine c_seq ?_
  refine c_region ?_   -- region 5
  refine g_q (qv_isnt_nil rfl Try.runUnderlying2 (fun _ h => by cases h) Try.zeroValue2) rfl ?_
  refine g_q (qv_extract rfl rfl) rfl ?_
  refine g_q (qv_extract rfl rfl) rfl ?_
  refine g_nil ?_
  refine e_seq ?_
  refine c_false rfl ?_   -- t24
  refine c_seq ?_
  refine c_region ?_   -- region 8
  refine g_q (qv_isnt_nil rfl Try.runUnderlying87 (fun _ h => by cases h) Try.zeroValue87) rfl ?_
  refine g_q (qv_extract rfl rfl) rfl ?_
  refine g_q (qv_extract rfl rfl) rfl ?_
  refine g_nil ?_
  refine e_seq ?_
  refine c_false rfl ?_   -- t29
  refine c_seq ?_
  refine c_region ?_   -- region 11
  refine g_q (qv_isnt_nil rfl Try.runUnderlying9 (fun _ h => by cases h) Try.zeroValue9) rfl ?_
  refine g_q (qv_extract rfl rfl) rfl ?_
  refine g_q (qv_extract rfl rfl) rfl ?_
  refine g_nil ?_
  refine e_seq ?_
  refine c_false rfl ?_   -- t35
  refine c_seq ?_
  refine c_region ?_   -- region 14
  refine g_q (qv_isnt_nil rfl Try.runUnderlying89 (fun _ h => by cases h) Try.zeroValue89) rfl ?_
  refine g_q (qv_extract rfl rfl) rfl ?_
  refine g_q (qv_extract rfl rfl) rfl ?_
  refine g_nil ?_
  refine e_seq ?_
  refine c_false rfl ?_   -- t40
  refine c_seq ?_
  refine c_region ?_   -- region 23
  refine g_q (qv_isnt_nil rfl Try.runUnderlying63 (fun _ h => by cases h) Try.zeroValue63) rfl ?_
  refine g_q (qv_extract rfl rfl) rfl ?_
  refine g_q (qv_extract rfl rfl) rfl ?_
  refine g_nil ?_
  refine e_seq ?_
  refine c_false rfl ?_   -- t59
  refine c_seq ?_
  refine c_region ?_   -- region 37
  refine g_q (qv_isnt_nil rfl Try.runUnderlying66 (fun _ h => by cases h) Try.zeroValue66) rfl ?_
  refine g_q (qv_extract rfl rfl) rfl ?_
  refine g_q (qv_extract rfl rfl) rfl ?_
  refine g_nil ?_
  refine e_seq ?_
  refine c_false rfl ?_   -- t96
  refine c_skip ?_
  refine e_normal_block ?_
  refine e_seq ?_
  refine c_seq ?_
  refine c_region ?_   -- region 40
  refine g_q (qv_build (vs := []) (cs := dCells 0 false 0 [] nilS nilS) lay32 trivial rfl) rfl ?_
  refine g_i0 (iv_storeA (i := 0) (b := b2) (vs := dCells 0 false 0 [] nilS nilS) rfl rfl all_dCells Try.sizeOf32 rfl rfl) ?_
  rintro _ _ rfl
  refine g_nil ?_
  refine e_seq ?_
  refine c_ret ?_
  refine ?_
  exact e_retcF (M' := M ++ []) (fun f => by simp) (.inl rfl) Try.results28 Try.isAgg32 Try.sizeOf32 rfl m0 (vs := (dCells 0 false 0 [] nilS nilS).toList) (fun _ _ h => by simpa using h) ⟨[], by cases n <;> exact ⟨rfl, rfl⟩, rfl⟩
theorem told_truth (n : Nat) (x : Bool) : ToldSpec W0 n (.truth x) := by
  intro a ma M ha hma
  obtain ⟨rfl, rfl⟩ : a = .iface 4 (.bool x) ∧ ma = [] := by cases n <;> exact ha
  refine tri_of 102 Try.func28 rfl Try.ntmps28 (Nat.le_of_ble_eq_true rfl) ?_
  refine c_seq ?_
  refine c_region ?_   -- region 0
  refine g_i (iv_allocA Try.zeroValue32) rfl ?_
  rintro _ _ ⟨b2, rfl, rfl⟩
  refine g_nil ?_
  refine e_seq ?_
  refine c_seq ?_
  refine c_seq ?_
  refine c_region ?_   -- region 1
  refine g_q (qv_move rfl) rfl ?_
  refine g_nil ?_
  refine e_seq ?_
  refine c_block ?_
  refine c_seq ?_
  refine c_region ?_   -- region 2
  refine g_q (qv_is rfl Try.runUnderlying4 (fun _ h => by cases h)) rfl ?_
  refine g_q (qv_extract rfl rfl) rfl ?_
  refine g_q (qv_extract rfl rfl) rfl ?_
  refine g_nil ?_
  refine e_seq ?_
  refine c_true rfl ?_   -- t19
  refine c_seq ?_
  refine c_region ?_   -- region 3
  refine g_q (qv_assign rfl) rfl ?_
  refine g_nil ?_
  refine e_seq ?_
  refine c_seq ?_
  refine c_region ?_   -- region 4
  refine g_q (qv_move rfl) rfl ?_
  refine g_q (qv_build (vs := [(0, .int .i64 1), (1, .bool x)]) (cs := dCells 1 x 0 [] nilS nilS) lay32 ⟨rfl, rfl, rfl, rfl, trivial⟩ rfl) rfl ?_
  refine g_i0 (iv_storeA (i := 0) (b := b2) (vs := dCells 1 x 0 [] nilS nilS) rfl rfl all_dCells Try.sizeOf32 rfl rfl) ?_
  rintro _ _ rfl
  refine g_nil ?_
  refine e_seq ?_
  refine c_ret ?_
  refine e_ret_block (e_ret_then (?_))
  exact e_retcF (M' := M ++ []) (fun f => by simp) (.inl rfl) Try.results28 Try.isAgg32 Try.sizeOf32 rfl m0 (vs := (dCells 1 x 0 [] nilS nilS).toList) (fun _ _ h => by simpa using h) ⟨[], by cases n <;> exact ⟨rfl, rfl⟩, rfl⟩
theorem told_int (n : Nat) (x : Int) : ToldSpec W0 n (.int x) := by
  intro a ma M ha hma
  obtain ⟨rfl, rfl⟩ : a = .iface 2 (.int .i64 x) ∧ ma = [] := by cases n <;> exact ha
  refine tri_of 102 Try.func28 rfl Try.ntmps28 (Nat.le_of_ble_eq_true rfl) ?_
  refine c_seq ?_
  refine c_region ?_   -- region 0
  refine g_i (iv_allocA Try.zeroValue32) rfl ?_
  rintro _ _ ⟨b2, rfl, rfl⟩
  refine g_nil ?_
  refine e_seq ?_
  refine c_seq ?_
  refine c_seq ?_
  refine c_region ?_   -- region 1
  refine g_q (qv_move rfl) rfl ?_
  refine g_nil ?_
  refine e_seq ?_
  refine c_block ?_
  refine c_seq ?_
  refine c_region ?_   -- region 2
  refine g_q (qv_isnt rfl rfl Try.runUnderlying4 (fun _ h => by cases h) Try.zeroValue4) rfl ?_
  refine g_q (qv_extract rfl rfl) rfl ?_
  refine g_q (qv_extract rfl rfl) rfl ?_
  refine g_nil ?_
  refine e_seq ?_
  refine c_false rfl ?_   -- t19
  refine c_seq ?_
  refine c_region ?_   -- region 5
  refine g_q (qv_is rfl Try.runUnderlying2 (fun _ h => by cases h)) rfl ?_
  refine g_q (qv_extract rfl rfl) rfl ?_
  refine g_q (qv_extract rfl rfl) rfl ?_
  refine g_nil ?_
  refine e_seq ?_
  refine c_true rfl ?_   -- t24
  refine c_seq ?_
  refine c_region ?_   -- region 6
  refine g_q (qv_assign rfl) rfl ?_
  refine g_nil ?_
  refine e_seq ?_
  refine c_seq ?_
  refine c_region ?_   -- region 7
  refine g_q (qv_move rfl) rfl ?_
  refine g_q (qv_build (vs := [(0, .int .i64 2), (2, .int .i64 x)]) (cs := dCells 2 false x [] nilS nilS) lay32 ⟨rfl, rfl, rfl, rfl, trivial⟩ rfl) rfl ?_
  refine g_i0 (iv_storeA (i := 0) (b := b2) (vs := dCells 2 false x [] nilS nilS) rfl rfl all_dCells Try.sizeOf32 rfl rfl) ?_
  rintro _ _ rfl
  refine g_nil ?_
  refine e_seq ?_
  refine c_ret ?_
  refine e_ret_block (e_ret_then (?_))
  exact e_retcF (M' := M ++ []) (fun f => by simp) (.inl rfl) Try.results28 Try.isAgg32 Try.sizeOf32 rfl m0 (vs := (dCells 2 false x [] nilS nilS).toList) (fun _ _ h => by simpa using h) ⟨[], by cases n <;> exact ⟨rfl, rfl⟩, rfl⟩
theorem told_text (n : Nat) (x : Key) : ToldSpec W0 n (.text x) := by
  intro a ma M ha hma
  obtain ⟨rfl, rfl⟩ : a = .iface 9 (str x) ∧ ma = [] := by cases n <;> exact ha
  refine tri_of 102 Try.func28 rfl Try.ntmps28 (Nat.le_of_ble_eq_true rfl) ?_
  refine c_seq ?_
  refine c_region ?_   -- region 0
  refine g_i (iv_allocA Try.zeroValue32) rfl ?_
  rintro _ _ ⟨b2, rfl, rfl⟩
  refine g_nil ?_
  refine e_seq ?_
  refine c_seq ?_
  refine c_seq ?_
  refine c_region ?_   -- region 1
  refine g_q (qv_move rfl) rfl ?_
  refine g_nil ?_
  refine e_seq ?_
  refine c_block ?_
  refine c_seq ?_
  refine c_region ?_   -- region 2
  refine g_q (qv_isnt rfl rfl Try.runUnderlying4 (fun _ h => by cases h) Try.zeroValue4) rfl ?_
  refine g_q (qv_extract rfl rfl) rfl ?_
  refine g_q (qv_extract rfl rfl) rfl ?_
  refine g_nil ?_
  refine e_seq ?_
  refine c_false rfl ?_   -- t19
  refine c_seq ?_
  refine c_region ?_   -- region 5
  refine g_q (qv_isnt rfl rfl Try.runUnderlying2 (fun _ h => by cases h) Try.zeroValue2) rfl ?_
  refine g_q (qv_extract rfl rfl) rfl ?_
  refine g_q (qv_extract rfl rfl) rfl ?_
  refine g_nil ?_
  refine e_seq ?_
  refine c_false rfl ?_   -- t24
  refine c_seq ?_
  refine c_region ?_   -- region 8
  refine g_q (qv_isnt rfl rfl Try.runUnderlying87 (fun _ h => by cases h) Try.zeroValue87) rfl ?_
  refine g_q (qv_extract rfl rfl) rfl ?_
  refine g_q (qv_extract rfl rfl) rfl ?_
  refine g_nil ?_
  refine e_seq ?_
  refine c_false rfl ?_   -- t29
  refine c_seq ?_
  refine c_region ?_   -- region 11
  refine g_q (qv_is rfl Try.runUnderlying9 (fun _ h => by cases h)) rfl ?_
  refine g_q (qv_extract rfl rfl) rfl ?_
  refine g_q (qv_extract rfl rfl) rfl ?_
  refine g_nil ?_
  refine e_seq ?_
  refine c_true rfl ?_   -- t35
  refine c_seq ?_
  refine c_region ?_   -- region 12
  refine g_q (qv_assign rfl) rfl ?_
  refine g_nil ?_
  refine e_seq ?_
  refine c_seq ?_
  refine c_region ?_   -- region 13
  refine g_q (qv_move rfl) rfl ?_
  refine g_q (qv_build (vs := [(0, .int .i64 4), (4, str x)]) (cs := dCells 4 false 0 x nilS nilS) lay32 ⟨rfl, rfl, rfl, rfl, trivial⟩ rfl) rfl ?_
  refine g_i0 (iv_storeA (i := 0) (b := b2) (vs := dCells 4 false 0 x nilS nilS) rfl rfl all_dCells Try.sizeOf32 rfl rfl) ?_
  rintro _ _ rfl
  refine g_nil ?_
  refine e_seq ?_
  refine c_ret ?_
  refine e_ret_block (e_ret_then (?_))
  exact e_retcF (M' := M ++ []) (fun f => by simp) (.inl rfl) Try.results28 Try.isAgg32 Try.sizeOf32 rfl m0 (vs := (dCells 4 false 0 x nilS nilS).toList) (fun _ _ h => by simpa using h) ⟨[], by cases n <;> exact ⟨rfl, rfl⟩, rfl⟩
theorem told_one (n : Nat) (y : Int) : ToldSpec W0 n (.one y) := by
  intro a ma M ha hma
  obtain ⟨s, rfl, hrow⟩ : ∃ s, a = .iface 89 s ∧ Row 20 1 s 1 [.iface 2 (.int .i64 y)] ma := by cases n <;> exact ha
  obtain ⟨g, c, cs, rfl, hg, hcs⟩ := row_at (k := 0) hrow rfl
  have hg' := hma _ hg
  refine tri_of 102 Try.func28 rfl Try.ntmps28 (Nat.le_of_ble_eq_true rfl) ?_
  refine c_seq ?_
  refine c_region ?_   -- region 0
  refine g_i (iv_allocA Try.zeroValue32) rfl ?_
  rintro _ _ ⟨b2, rfl, rfl⟩
  refine g_nil ?_
  refine e_seq ?_
  refine c_seq ?_
  refine c_seq ?_
  refine c_region ?_   -- region 1
  refine g_q (qv_move rfl) rfl ?_
  refine g_nil ?_
  refine e_seq ?_
  refine c_block ?_
  refine c_seq ?_
  refine c_region ?_   -- region 2
  refine g_q (qv_isnt rfl rfl Try.runUnderlying4 (fun _ h => by cases h) Try.zeroValue4) rfl ?_
  refine g_q (qv_extract rfl rfl) rfl ?_
  refine g_q (qv_extract rfl rfl) rfl ?_
  refine g_nil ?_
  refine e_seq ?_
  refine c_false rfl ?_   -- t19
  refine c_seq ?_
  refine c_region ?_   -- region 5
  refine g_q (qv_isnt rfl rfl Try.runUnderlying2 (fun _ h => by cases h) Try.zeroValue2) rfl ?_
  refine g_q (qv_extract rfl rfl) rfl ?_
  refine g_q (qv_extract rfl rfl) rfl ?_
  refine g_nil ?_
  refine e_seq ?_
  refine c_false rfl ?_   -- t24
  refine c_seq ?_
  refine c_region ?_   -- region 8
  refine g_q (qv_isnt rfl rfl Try.runUnderlying87 (fun _ h => by cases h) Try.zeroValue87) rfl ?_
  refine g_q (qv_extract rfl rfl) rfl ?_
  refine g_q (qv_extract rfl rfl) rfl ?_
  refine g_nil ?_
  refine e_seq ?_
  refine c_false rfl ?_   -- t29
  refine c_seq ?_
  refine c_region ?_   -- region 11
  refine g_q (qv_isnt rfl rfl Try.runUnderlying9 (fun _ h => by cases h) Try.zeroValue9) rfl ?_
  refine g_q (qv_extract rfl rfl) rfl ?_
  refine g_q (qv_extract rfl rfl) rfl ?_
  refine g_nil ?_
  refine e_seq ?_
  refine c_false rfl ?_   -- t35
  refine c_seq ?_
  refine c_region ?_   -- region 14
  refine g_q (qv_is rfl Try.runUnderlying89 (fun _ h => by cases h)) rfl ?_
  refine g_q (qv_extract rfl rfl) rfl ?_
  refine g_q (qv_extract rfl rfl) rfl ?_
  refine g_nil ?_
  refine e_seq ?_
  refine c_true rfl ?_   -- t40
  refine c_seq ?_
  refine c_region ?_   -- region 15
  refine g_q (qv_assign rfl) rfl ?_
  refine g_nil ?_
  refine e_seq ?_
  refine c_seq ?_
  refine c_region ?_   -- region 16
  refine g_q (qv_build (vs := [(0, .int .i64 5)]) (cs := dCells 5 false 0 [] nilS nilS) lay32 ⟨rfl, rfl, trivial⟩ rfl) rfl ?_
  refine g_i (iv_allocA Try.zeroValue32) rfl ?_
  rintro _ _ ⟨b8, rfl, rfl⟩
  refine g_i0 (iv_storeA (i := 0) (b := b8) (vs := dCells 5 false 0 [] nilS nilS) rfl rfl all_dCells Try.sizeOf32 rfl rfl) ?_
  rintro _ _ rfl
  refine g_nil ?_
  refine e_seq ?_
  refine c_seq ?_
  refine c_seq ?_
  refine c_region ?_   -- region 17
  refine g_q (qv_move rfl) rfl ?_
  refine g_q (qv_len_slice rfl Try.runUnderlying89) rfl ?_
  refine g_q (qv_move rfl) rfl ?_
  refine g_nil ?_
  refine e_seq ?_
  refine c_block ?_
  refine c_keep (L' := [(2, ptr b2), (8, ptr b8), (43, .slice (some ⟨g, 0, none⟩) 1 c), (44, .int .i64 ((1 : Nat) : Int)), (45, .int .i64 ((0 : Nat) : Int))]) ⟨rfl, rfl, rfl, rfl, rfl, trivial⟩ ?_
  refine c_to (M' := (b8, .cells (dCells 5 false 0 [] nilS nilS) 32 (0, 0)) :: (b2, .cells (dCells 0 false 0 [] nilS nilS) 32 (0, 0)) :: (M ++ [])) (by rw [List.append_nil]; exact Fits.refl _) ?_
  refine c_loop (ι := Nat) (fun j L M' => ∃ p1 c1 mj xs, L = [(2, ptr b2), (8, ptr b8), (43, .slice (some ⟨g, 0, none⟩) 1 c), (44, .int .i64 ((1 : Nat) : Int)), (45, .int .i64 (j : Int))] ∧ j ≤ 1 ∧ Row 32 7 (.slice p1 j c1) j xs mj ∧ (j = 1 → xs = (dCells 2 false y [] nilS nilS).toList) ∧
    M' = (b8, .cells (dCells 5 false 0 [] (.slice p1 j c1) nilS) 32 (0, 0)) :: (b2, .cells (dCells 0 false 0 [] nilS nilS) 32 (0, 0)) :: (M ++ mj)) (fun j => 1 - j) 0 ⟨none, 0, [], [], rfl, Nat.zero_le _, Row.nil _ _, fun e => (by cases e), rfl⟩ ?_
  rintro j _ _ ⟨p1, c1, mj, xs, rfl, hj, hrowj, h1, rfl⟩
  refine c_seq ?_
  refine c_region ?_   -- region 18
  refine g_q (qv_lss rfl rfl) rfl ?_
  refine g_nil ?_
  refine e_seq ?_
  refine c_seq ?_
  refine c_cond rfl (fun hc => ?_) (fun hc => ?_)   -- t46
  · -- true
    refine c_skip ?_
    refine e_seq ?_
    refine c_seq ?_
    refine c_block ?_
    refine c_seq ?_
    refine c_region ?_   -- region 19
    obtain rfl : j = 0 := by
      have := of_decide_eq_true hc
      omega
    obtain rfl : xs = [] := List.eq_nil_of_length_eq_zero (by have := hrowj.1; omega)
    refine g_q (qv_index rfl rfl Try.runUnderlying89 Try.sizeOf20 (by omega) (by omega)) rfl ?_
    refine g_q (qv_load (v := .iface 2 (.int .i64 y)) rfl Try.isAgg20 (.tail _ (.tail _ (List.mem_append_left _ hg'))) hcs) rfl ?_
    refine g_q (qv_assign rfl) rfl ?_
    refine g_nil ?_
    refine e_seq ?_
    refine c_draw [(b8, .cells (dCells 5 false 0 [] (.slice p1 0 c1) nilS) 32 (0, 0))] (fun i => !(i == 7)) Try.mixed ?_
    refine d_takeW 0 rfl (by kernel_rfl) (by kernel_rfl) (by kernel_rfl) rfl (fun _ => qv_field rfl Try.runUnderlying32 rfl Try.sizeOf30 rfl) ?_
    refine d_take 1 rfl (by kernel_rfl) (by kernel_rfl) (by kernel_rfl) (by kernel_rfl) rfl (qv_load (v := .slice p1 0 c1) rfl Try.isAgg30 m0 rfl) (fun x hx => by rw [List.mem_singleton.1 hx]; exact m0) ?_
    refine d_takeW 2 rfl (by kernel_rfl) (by kernel_rfl) (by kernel_rfl) rfl (fun _ => qv_move rfl) ?_
    refine d_run 3 rfl (by kernel_rfl) rfl (iv_call (vs := [.iface 2 (.int .i64 y)]) Try.call28 ⟨rfl, trivial⟩ (told_int 0 y _ [] _ ⟨rfl, rfl⟩ (fun x hx => by cases hx))) (by rintro _ _ ⟨m', _, rfl⟩ _ x hx; rw [List.mem_singleton.1 hx]; exact m0) ?_
    rintro _ _ ⟨_, ⟨rfl, rfl⟩, rfl⟩
    refine d_run 4 rfl (by kernel_rfl) rfl (iv_buildSlice (vs := [(0, .agg (dCells 2 false y [] nilS nilS))]) (cs := dCells 2 false y [] nilS nilS) Try.runUnderlying30 Try.sizeOf32 Try.zeroValue32 ⟨rfl, rfl, trivial⟩ rfl (by kernel_rfl) rfl) (by rintro _ _ ⟨_, _, rfl⟩ _ x hx; rw [List.mem_singleton.1 hx]; exact m1) ?_
    rintro _ _ ⟨bs, rfl, rfl⟩
    refine d_to (M' := (bs, .cells (dCells 2 false y [] nilS nilS) 32 (0, 0)) :: ([(b8, .cells (dCells 5 false 0 [] (.slice p1 0 c1) nilS) 32 (0, 0)), (b2, .cells (dCells 0 false 0 [] nilS nilS) 32 (0, 0))] ++ (mj ++ M))) (fun f => by simp <;> omega) ?_
    refine d_run 5 rfl (by kernel_rfl) rfl (iv_append (pre := [(b8, .cells (dCells 5 false 0 [] (.slice p1 0 c1) nilS) 32 (0, 0)), (b2, .cells (dCells 0 false 0 [] nilS nilS) 32 (0, 0))]) (m := mj) (F := M) (k := 1) rfl rfl Try.underlying30 info32 rfl rfl rfl hrowj rfl all_dCells (by decide) (by decide) (by omega) rfl) (by rintro _ _ ⟨_, _, rfl⟩ _ x hx; rw [List.mem_singleton.1 hx]; exact m0) ?_
    rintro v1 _ ⟨m1, hrow1, rfl⟩
    obtain ⟨p2, c2, rfl⟩ := hrow1.shape
    refine d_takeW 6 rfl (by kernel_rfl) (by kernel_rfl) (by kernel_rfl) rfl (fun _ => qv_field rfl Try.runUnderlying32 rfl Try.sizeOf30 rfl) ?_
    refine d_run0 7 rfl (by kernel_rfl) (iv_store (i := 0) rfl rfl rfl Try.sizeOf30 rfl (Nat.le_of_ble_eq_true rfl)) (fun _ _ _ h => by cases h) ?_
    rintro _ _ rfl
    refine d_done (by kernel_rfl) ?_
    refine e_normal_block ?_
    refine e_seq ?_
    refine c_region ?_   -- region 21
    refine g_q (qv_add (c := ((1 : Nat) : Int)) rfl rfl (by decide)) rfl ?_
    refine g_q (qv_move rfl) rfl ?_
    refine g_nil ?_
    refine e_to (M' := (b8, .cells (dCells 5 false 0 [] (.slice p2 1 c2) nilS) 32 (0, 0)) :: (b2, .cells (dCells 0 false 0 [] nilS nilS) 32 (0, 0)) :: (M ++ m1)) (fun f => by simp [dCells] <;> omega) ?_
    exact e_again 1 (by omega) (L' := [(2, ptr b2), (8, ptr b8), (43, .slice (some ⟨g, 0, none⟩) 1 c), (44, .int .i64 ((1 : Nat) : Int)), (45, .int .i64 ((1 : Nat) : Int))]) ⟨rfl, rfl, rfl, rfl, rfl, trivial⟩ ⟨p2, c2, m1, _, rfl, Nat.le_refl _, hrow1, fun _ => rfl, rfl⟩
  · -- false
    refine c_exit ?_
    refine e_exit_then ?_
    refine e_exit_then ?_
    refine e_exit_block ?_
    refine e_seq ?_
    refine c_seq ?_
    refine c_region ?_   -- region 22
    obtain rfl : j = 1 := by
      have := of_decide_eq_false hc
      omega
    obtain rfl := h1 rfl
    refine g_q (qv_loadA (vs := (dCells 5 false 0 [] (.slice p1 1 c1) nilS).toList) rfl Try.isAgg32 Try.sizeOf32 m0 (fun _ _ h => by simpa using h)) rfl ?_
    refine g_i0 (iv_storeA (i := 1) (b := b2) (vs := dCells 5 false 0 [] (.slice p1 1 c1) nilS) rfl rfl all_dCells Try.sizeOf32 rfl rfl) ?_
    rintro _ _ rfl
    refine g_nil ?_
    refine e_seq ?_
    refine c_ret ?_
    refine e_ret_block (e_ret_then (?_))
    exact e_retcF (M' := M ++ mj) (fun f => by simp <;> omega) (.inl rfl) Try.results28 Try.isAgg32 Try.sizeOf32 rfl m1 (vs := (dCells 5 false 0 [] (.slice p1 1 c1) nilS).toList) (fun _ _ h => by simpa using h) ⟨mj, by cases n <;> exact ⟨_, rfl, hrowj⟩, rfl⟩
theorem told_tab (n : Nat) (es : List (Key × T)) (hsub : ∀ p, p ∈ es → ∀ n', n' < n → ToldSpec W0 n' p.2) : ToldSpec W0 n (.tab es) := by
  intro a ma M ha hma
  obtain ⟨r, kv, kts, mkv, rfl, hok, hperm, hkids, rfl⟩ := ha.table
  have hr := hma _ m0
  have hlen6 := hok.len
  have hkeys : (kv.list.map (·.1)).Perm (es.map (·.1)) := by rw [← hkids.keys]; exact hperm.map _
  have hlen : (kv.list.map (·.1)).length = es.length := by rw [hkeys.length_eq, List.length_map]
  refine tri_of 102 Try.func28 rfl Try.ntmps28 (Nat.le_of_ble_eq_true rfl) ?_
  refine c_seq ?_
  refine c_region ?_   -- region 0
  refine g_i (iv_allocA Try.zeroValue32) rfl ?_
  rintro _ _ ⟨b2, rfl, rfl⟩
  refine g_nil ?_
  refine e_seq ?_
  refine c_seq ?_
  refine c_seq ?_
  refine c_region ?_   -- region 1
  refine g_q (qv_move rfl) rfl ?_
  refine g_nil ?_
  refine e_seq ?_
  refine c_block ?_
  refine c_seq ?_
  refine c_region ?_   -- region 2
  refine g_q (qv_isnt rfl rfl Try.runUnderlying4 (fun _ h => by cases h) Try.zeroValue4) rfl ?_
  refine g_q (qv_extract rfl rfl) rfl ?_
  refine g_q (qv_extract rfl rfl) rfl ?_
  refine g_nil ?_
  refine e_seq ?_
  refine c_false rfl ?_   -- t19
  refine c_seq ?_
  refine c_region ?_   -- region 5
  refine g_q (qv_isnt rfl rfl Try.runUnderlying2 (fun _ h => by cases h) Try.zeroValue2) rfl ?_
  refine g_q (qv_extract rfl rfl) rfl ?_
  refine g_q (qv_extract rfl rfl) rfl ?_
  refine g_nil ?_
  refine e_seq ?_
  refine c_false rfl ?_   -- t24
  refine c_seq ?_
  refine c_region ?_   -- region 8
  refine g_q (qv_isnt rfl rfl Try.runUnderlying87 (fun _ h => by cases h) Try.zeroValue87) rfl ?_
  refine g_q (qv_extract rfl rfl) rfl ?_
  refine g_q (qv_extract rfl rfl) rfl ?_
  refine g_nil ?_
  refine e_seq ?_
  refine c_false rfl ?_   -- t29
  refine c_seq ?_
  refine c_region ?_   -- region 11
  refine g_q (qv_isnt rfl rfl Try.runUnderlying9 (fun _ h => by cases h) Try.zeroValue9) rfl ?_
  refine g_q (qv_extract rfl rfl) rfl ?_
  refine g_q (qv_extract rfl rfl) rfl ?_
  refine g_nil ?_
  refine e_seq ?_
  refine c_false rfl ?_   -- t35
  refine c_seq ?_
  refine c_region ?_   -- region 14
  refine g_q (qv_isnt rfl rfl Try.runUnderlying89 (fun _ h => by cases h) Try.zeroValue89) rfl ?_
  refine g_q (qv_extract rfl rfl) rfl ?_
  refine g_q (qv_extract rfl rfl) rfl ?_
  refine g_nil ?_
  refine e_seq ?_
  refine c_false rfl ?_   -- t40
  refine c_seq ?_
  refine c_region ?_   -- region 23
  refine g_q (qv_is rfl Try.runUnderlying63 (fun _ h => by cases h)) rfl ?_
  refine g_q (qv_extract rfl rfl) rfl ?_
  refine g_q (qv_extract rfl rfl) rfl ?_
  refine g_nil ?_
  refine e_seq ?_
  refine c_true rfl ?_   -- t59
  refine c_seq ?_
  refine c_region ?_   -- region 24
  refine g_q (qv_assign rfl) rfl ?_
  refine g_nil ?_
  refine e_seq ?_
  refine c_seq ?_
  refine c_region ?_   -- region 25
  refine g_q (qv_build (vs := [(0, .int .i64 6)]) (cs := dCells 6 false 0 [] nilS nilS) lay32 ⟨rfl, rfl, trivial⟩ rfl) rfl ?_
  refine g_i (iv_allocA Try.zeroValue32) rfl ?_
  rintro _ _ ⟨b12, rfl, rfl⟩
  refine g_i0 (iv_storeA (i := 0) (b := b12) (vs := dCells 6 false 0 [] nilS nilS) rfl rfl all_dCells Try.sizeOf32 rfl rfl) ?_
  rintro _ _ rfl
  refine g_nil ?_
  refine e_seq ?_
  refine c_seq ?_
  refine c_seq ?_
  refine c_region ?_   -- region 26
  refine g_q (qv_move rfl) rfl ?_
  refine g_i (iv_range (m := kv) rfl Try.runUnderlying63 (.tail _ (.tail _ hr))) rfl ?_
  rintro _ _ ⟨it, rfl, rfl⟩
  refine g_nil ?_
  refine e_seq ?_
  refine c_block ?_
  refine c_keep (L' := [(2, ptr b2), (11, .map (some r)), (12, ptr b12), (63, ptr it)]) ⟨rfl, rfl, rfl, rfl, trivial⟩ ?_
  refine c_loop (ι := Array Nat × List Key) (fun z L M' => ∃ p1 c1 mk, L = [(2, ptr b2), (11, .map (some r)), (12, ptr b12), (63, ptr it)] ∧ (z.2 ++ (kv.left z.1).map (·.1)).Perm (kv.list.map (·.1)) ∧ Row 9 1 (.slice p1 z.2.length c1) z.2.length (z.2.map str) mk ∧
    M' = (it, iterObj r kv z.1) :: (b12, .cells (dCells 6 false 0 [] nilS (.slice p1 z.2.length c1)) 32 (0, 0)) :: (b2, .cells (dCells 0 false 0 [] nilS nilS) 32 (0, 0)) :: (mk ++ M)) (fun z => (kv.left z.1).length) (#[], []) ⟨none, 0, [], rfl, by rw [KV.left_start]; exact List.Perm.refl _, Row.nil _ _, rfl⟩ ?_
  rintro ⟨seen, vis⟩ _ _ ⟨p1, c1, mk, rfl, hvis, hrowk, rfl⟩
  refine c_seq ?_
  refine c_region ?_   -- region 27
  refine g_i (iv_next (i := 0) rfl rfl (.tail _ (.tail _ (.tail _ (List.mem_append_right _ hr))))) rfl ?_
  rintro _ _ (⟨hl0, rfl, rfl⟩ | ⟨key, u, seen2, rfl, rfl, hperm2, hcur⟩)
  · refine g_q (qv_extract rfl rfl) rfl ?_
    refine g_nil ?_
    refine e_seq ?_
    refine c_seq ?_
    refine c_false rfl ?_
    refine c_exit ?_
    refine e_exit_then ?_
    refine e_exit_then ?_
    refine e_exit_block ?_
    refine e_seq ?_
    rw [hl0, List.map_nil, List.append_nil] at hvis
    have hvis2 := hvis.trans hkeys
    have hvl : vis.length = es.length := by rw [hvis2.length_eq, List.length_map]
    refine c_to (M' := mk ++ ((b12, .cells (dCells 6 false 0 [] nilS (.slice p1 vis.length c1)) 32 (0, 0)) :: (b2, .cells (dCells 0 false 0 [] nilS nilS) 32 (0, 0)) :: M)) (fun f => by simp <;> omega) ?_
    refine c_seq ?_
    refine c_region ?_   -- region 30
    refine g_q (qv_field rfl Try.runUnderlying32 rfl Try.sizeOf27 rfl) rfl ?_
    refine g_q (qv_load (v := .slice p1 vis.length c1) rfl Try.isAgg27 (List.mem_append_right _ m0) rfl) rfl ?_
    refine g_i (iv_call (vs := [.slice p1 vis.length c1]) Try.call42 ⟨rfl, trivial⟩ (sort_any vis _ mk _ hrowk (by omega))) rfl ?_
    rintro _ _ ⟨l1, mk1, hp1, hup1, hrowk1, rfl⟩
    have hl1 : l1 = es.map (·.1) := Up.keys (by rw [hp1.length_eq]; exact hup1) hok (hp1.trans hvis2)
    subst hl1
    rw [List.map_map, hvl] at hrowk1
    rw [hvl]
    refine g_nil ?_
    refine e_seq ?_
    refine c_to (M' := (b12, .cells (dCells 6 false 0 [] nilS (.slice p1 es.length c1)) 32 (0, 0)) :: (b2, .cells (dCells 0 false 0 [] nilS nilS) 32 (0, 0)) :: ([] ++ (mk1 ++ (M ++ [])))) (fun f => by simp <;> omega) ?_
    refine c_seq ?_
    refine c_seq ?_
    refine c_region ?_   -- region 31
    refine g_q (qv_field rfl Try.runUnderlying32 rfl Try.sizeOf27 rfl) rfl ?_
    refine g_q (qv_load (v := .slice p1 es.length c1) rfl Try.isAgg27 m0 rfl) rfl ?_
    refine g_q (qv_len_slice rfl Try.runUnderlying27) rfl ?_
    refine g_q (qv_move rfl) rfl ?_
    refine g_nil ?_
    refine e_seq ?_
    refine c_block ?_
    refine c_keep (L' := [(2, ptr b2), (11, .map (some r)), (12, ptr b12), (78, .slice p1 es.length c1), (79, .int .i64 (es.length : Int)), (80, .int .i64 ((0 : Nat) : Int))]) ⟨rfl, rfl, rfl, rfl, rfl, rfl, trivial⟩ ?_
    refine c_loop (ι := Nat) (fun j L M' => ∃ p2 c2 mi ics mc, L = [(2, ptr b2), (11, .map (some r)), (12, ptr b12), (78, .slice p1 es.length c1), (79, .int .i64 (es.length : Int)), (80, .int .i64 (j : Int))] ∧ j ≤ es.length ∧ Row 32 7 (.slice p2 j c2) j ics mi ∧ DKids (fun t v m => ∃ n', n' < n ∧ RepD n' t v m) (es.take j) ics mc ∧
      M' = (b12, .cells (dCells 6 false 0 [] (.slice p2 j c2) (.slice p1 es.length c1)) 32 (0, 0)) :: (b2, .cells (dCells 0 false 0 [] nilS nilS) 32 (0, 0)) :: (mi ++ (mk1 ++ (M ++ mc)))) (fun j => es.length - j) 0 ⟨none, 0, [], [], [], rfl, Nat.zero_le _, Row.nil _ _, ⟨rfl, rfl⟩, rfl⟩ ?_
    rintro j _ _ ⟨p2, c2, mi, ics, mc, rfl, hj, hrowi, hkd, rfl⟩
    refine c_seq ?_
    refine c_region ?_   -- region 32
    refine g_q (qv_lss rfl rfl) rfl ?_
    refine g_nil ?_
    refine e_seq ?_
    refine c_seq ?_
    refine c_cond rfl (fun hc => ?_) (fun hc => ?_)   -- t81
    · have hjl : j < es.length := by
        have := of_decide_eq_true hc
        omega
      obtain ⟨pk, hpk⟩ : ∃ q, es[j]? = some q := ⟨_, List.getElem?_eq_getElem hjl⟩
      have hpm := List.mem_of_getElem? hpk
      have htake : es.take (j + 1) = es.take j ++ [pk] := by rw [List.take_add_one, hpk]; rfl
      have hlook : kts.lookup pk.1 = some pk.2 := by
        rw [lookup_perm hperm (perm_keys_nodup hok hperm), lookup_of_mem hok.nodup hpm]
      obtain ⟨v1, mv1, hv1, ⟨n', hn', hrep1⟩, hsub1⟩ : ∃ v1 mv1, kv.list.lookup pk.1 = some v1 ∧ (∃ n', n' < n ∧ RepA n' pk.2 v1 mv1) ∧ ∀ x, x ∈ mv1 → x ∈ mkv := by
        rcases hkids.lookup pk.1 with ⟨h2, _⟩ | ⟨t1, v1, m1, h2, h3, h4, h5⟩
        · rw [hlook] at h2; cases h2
        · rw [hlook] at h2; cases h2; exact ⟨v1, m1, h3, h4, h5⟩
      obtain ⟨gk, _, csk, ek, hgk, hcsk⟩ := row_at hrowk1 (k := j) (u := str pk.1) (by rw [List.getElem?_map, hpk]; rfl)
      cases ek
      refine c_skip ?_
      refine e_seq ?_
      refine c_seq ?_
      refine c_block ?_
      refine c_seq ?_
      refine c_region ?_   -- region 33
      refine g_q (qv_index rfl rfl Try.runUnderlying27 Try.sizeOf9 (by omega) (by omega)) rfl ?_
      refine g_q (qv_load (v := str pk.1) rfl Try.isAgg9 (mem_row hgk) (by simpa using hcsk)) rfl ?_
      refine g_q (qv_assign rfl) rfl ?_
      refine g_nil ?_
      refine e_seq ?_
      -- region 34
      refine c_draw ((b12, .cells (dCells 6 false 0 [] (.slice p2 j c2) (.slice (some ⟨gk, 0, none⟩) es.length c1)) 32 (0, 0)) :: M) (fun i => !(i == 9)) Try.mixed ?_
      have hRM : ∀ x, x ∈ (b12, Obj.cells (dCells 6 false 0 [] (.slice p2 j c2) (.slice (some ⟨gk, 0, none⟩) es.length c1)) 32 (0, 0)) :: M → x ∈ (b12, Obj.cells (dCells 6 false 0 [] (.slice p2 j c2) (.slice (some ⟨gk, 0, none⟩) es.length c1)) 32 (0, 0)) :: (b2, .cells (dCells 0 false 0 [] nilS nilS) 32 (0, 0)) :: (mi ++ (mk1 ++ (M ++ mc))) := fun x hx => by
        rcases List.mem_cons.1 hx with rfl | h2
        · exact m0
        · exact mem_deep h2
      refine d_takeW 0 rfl (by kernel_rfl) (by kernel_rfl) (by kernel_rfl) rfl (fun _ => qv_field rfl Try.runUnderlying32 rfl Try.sizeOf30 rfl) ?_
      refine d_take 1 rfl (by kernel_rfl) (by kernel_rfl) (by kernel_rfl) (by kernel_rfl) rfl (qv_load (v := .slice p2 j c2) rfl Try.isAgg30 m0 rfl) hRM ?_
      refine d_takeW 2 rfl (by kernel_rfl) (by kernel_rfl) (by kernel_rfl) rfl (fun _ => qv_move rfl) ?_
      refine d_takeW 3 rfl (by kernel_rfl) (by kernel_rfl) (by kernel_rfl) rfl (fun _ => qv_move rfl) ?_
      refine d_take 4 rfl (by kernel_rfl) (by kernel_rfl) (by kernel_rfl) (by kernel_rfl) rfl (QV.to (v' := v1) (qv_lookup1 (m := kv) rfl rfl Try.runUnderlying63 Try.runUnderlying9 Try.zeroValue20 (.tail _ hr)) (by rw [hv1]; rfl)) hRM ?_
      refine d_run 5 rfl (by kernel_rfl) rfl (iv_call (vs := [v1]) Try.call28 ⟨rfl, trivial⟩ (hsub pk hpm n' hn' v1 mv1 _ hrep1 (fun x hx => mem_deep (hma _ (.tail _ (hsub1 x hx)))))) (by rintro _ _ ⟨m', _, rfl⟩ _ x hx; exact List.mem_append_left _ (hRM x hx)) ?_
      rintro d1 _ ⟨m1, hd1, rfl⟩
      obtain ⟨kd, xd, id, sd, pd1, nd1, cd1, pd2, nd2, cd2, rfl⟩ := hd1.agg
      refine d_to (M' := (b12, .cells (dCells 6 false 0 [] (.slice p2 j c2) (.slice (some ⟨gk, 0, none⟩) es.length c1)) 32 (0, 0)) :: (b2, .cells (dCells 0 false 0 [] nilS nilS) 32 (0, 0)) :: (mi ++ (mk1 ++ (M ++ (mc ++ m1))))) (fun f => by simp <;> omega) ?_
      refine d_run 6 rfl (by kernel_rfl) rfl (iv_buildSlice (vs := [(0, .agg (dCells kd xd id sd (.slice pd1 nd1 cd1) (.slice pd2 nd2 cd2)))]) (cs := dCells kd xd id sd (.slice pd1 nd1 cd1) (.slice pd2 nd2 cd2)) Try.runUnderlying30 Try.sizeOf32 Try.zeroValue32 ⟨rfl, rfl, trivial⟩ rfl (by kernel_rfl) rfl) (by
        rintro _ _ ⟨_, _, rfl⟩ _ x hx
        rcases List.mem_cons.1 hx with rfl | h2
        · exact .tail _ m0
        · exact .tail _ (mem_deep h2)) ?_
      rintro _ _ ⟨bs2, rfl, rfl⟩
      refine d_run 7 rfl (by kernel_rfl) rfl (iv_append (pre := [(b12, .cells (dCells 6 false 0 [] (.slice p2 j c2) (.slice (some ⟨gk, 0, none⟩) es.length c1)) 32 (0, 0)), (b2, .cells (dCells 0 false 0 [] nilS nilS) 32 (0, 0))]) (m := mi) (F := mk1 ++ (M ++ (mc ++ m1))) (k := 1) rfl rfl Try.underlying30 info32 rfl rfl rfl hrowi rfl all_dCells (by decide) (by decide) (by omega) rfl) (by
        rintro _ _ ⟨_, _, rfl⟩ _ x hx
        rcases List.mem_cons.1 hx with rfl | h2
        · exact m0
        · exact List.mem_append_right _ (List.mem_append_right _ (List.mem_append_right _ (List.mem_append_left _ h2)))) ?_
      rintro itv' _ ⟨mi', hrowi', rfl⟩
      obtain ⟨p4, c4, rfl⟩ := hrowi'.shape
      refine d_takeW 8 rfl (by kernel_rfl) (by kernel_rfl) (by kernel_rfl) rfl (fun _ => qv_field rfl Try.runUnderlying32 rfl Try.sizeOf30 rfl) ?_
      refine d_run0 9 rfl (by kernel_rfl) (iv_store (i := 0) (b := b12) (v := .slice p4 (j + 1) c4) rfl rfl rfl Try.sizeOf30 rfl (Nat.le_of_ble_eq_true rfl)) (fun _ _ _ h => by cases h) ?_
      rintro _ _ rfl
      refine d_done (by kernel_rfl) ?_
      refine e_normal_block ?_
      refine e_seq ?_
      refine c_region ?_   -- region 35
      refine g_q (qv_add (c := ((j + 1 : Nat) : Int)) rfl rfl (by rw [wrap_i64 (by omega) (by omega)]; omega)) rfl ?_
      refine g_q (qv_move rfl) rfl ?_
      refine g_nil ?_
      refine e_to (M' := (b12, .cells (dCells 6 false 0 [] (.slice p4 (j + 1) c4) (.slice (some ⟨gk, 0, none⟩) es.length c1)) 32 (0, 0)) :: (b2, .cells (dCells 0 false 0 [] nilS nilS) 32 (0, 0)) :: (mi' ++ (mk1 ++ (M ++ (mc ++ m1))))) (Fits.refl _) ?_
      exact e_again (j + 1) (by omega) (L' := [(2, ptr b2), (11, .map (some r)), (12, ptr b12), (78, .slice (some ⟨gk, 0, none⟩) es.length c1), (79, .int .i64 (es.length : Int)), (80, .int .i64 ((j + 1 : Nat) : Int))]) ⟨rfl, rfl, rfl, rfl, rfl, rfl, trivial⟩ ⟨p4, c4, mi', _, mc ++ m1, rfl, hjl, hrowi', by rw [htake]; exact DKids.snoc rfl ⟨n', hn', hd1⟩ hkd, rfl⟩
    · obtain rfl : j = es.length := by
        have := of_decide_eq_false hc
        omega
      rw [List.take_length] at hkd
      refine c_exit ?_
      refine e_exit_then ?_
      refine e_exit_then ?_
      refine e_exit_block ?_
      refine e_seq ?_
      refine c_seq ?_
      refine c_region ?_   -- region 36
      refine g_q (qv_loadA (vs := (dCells 6 false 0 [] (.slice p2 es.length c2) (.slice p1 es.length c1)).toList) rfl Try.isAgg32 Try.sizeOf32 m0 (fun _ _ h => by simpa using h)) rfl ?_
      refine g_i0 (iv_storeA (i := 1) (b := b2) (vs := dCells 6 false 0 [] (.slice p2 es.length c2) (.slice p1 es.length c1)) rfl rfl all_dCells Try.sizeOf32 rfl rfl) ?_
      rintro _ _ rfl
      refine g_nil ?_
      refine e_seq ?_
      refine c_ret ?_
      refine e_ret_block (e_ret_then (?_))
      refine e_retcF (M' := M ++ (mi ++ (mk1 ++ mc))) (fun f => by simp <;> omega) (.inl rfl) Try.results28 Try.isAgg32 Try.sizeOf32 rfl m1 (vs := (dCells 6 false 0 [] (.slice p2 es.length c2) (.slice p1 es.length c1)).toList) (fun _ _ h => by simpa using h) ⟨mi ++ (mk1 ++ mc), ?_, rfl⟩
      have hfin : RepD1 (fun t v m => ∃ n', n' < n ∧ RepD n' t v m) (.tab es) (.agg (dCells 6 false 0 [] (.slice p2 es.length c2) (.slice p1 es.length c1))) (mi ++ (mk1 ++ mc)) := ⟨_, _, mi, mk1, ics, mc, rfl, hok, hrowk1, hrowi, hkd, rfl⟩
      cases n with
      | zero => exact RepD1.mono (fun _ _ _ ⟨_, h, _⟩ => absurd h (Nat.not_lt_zero _)) hfin
      | succ n => exact RepD1.mono (fun _ _ _ ⟨_, h, h'⟩ => h'.le (Nat.le_of_lt_succ h)) hfin
  · have hmu : (kv.left seen2).length < (kv.left seen).length := by
      rw [hperm2.length_eq]
      exact Nat.lt_succ_self _
    have hvl : vis.length + (kv.left seen).length = es.length := by
      have := hvis.length_eq
      rw [List.length_append, List.length_map, hlen] at this
      exact this
    have hvis' : (vis ++ [key] ++ (kv.left seen2).map (·.1)).Perm (kv.list.map (·.1)) := by
      refine List.Perm.trans ?_ hvis
      rw [List.append_assoc]
      exact List.Perm.append_left vis (List.Perm.map (fun p : Key × Value => p.1) hperm2).symm
    refine g_q (qv_extract rfl rfl) rfl ?_
    refine g_nil ?_
    refine e_seq ?_
    refine c_seq ?_
    refine c_true rfl ?_
    refine c_skip ?_
    refine e_seq ?_
    refine c_block ?_
    refine c_seq ?_
    refine c_region ?_   -- region 28
    refine g_q (qv_entry (k := key) (v := u) rfl m0 (.tail _ (.tail _ (.tail _ (List.mem_append_right _ hr)))) hcur) rfl ?_
    refine g_q (qv_extract rfl rfl) rfl ?_
    refine g_q (qv_assign rfl) rfl ?_
    refine g_nil ?_
    refine e_seq ?_
    refine c_region ?_   -- region 29
    refine g_q (qv_field rfl Try.runUnderlying32 rfl Try.sizeOf27 rfl) rfl ?_
    refine g_q (qv_load (v := .slice p1 vis.length c1) rfl Try.isAgg27 m1 rfl) rfl ?_
    refine g_q (qv_move rfl) rfl ?_
    refine g_i (iv_buildSlice (vs := [(0, str key)]) (cs := #[str key]) Try.runUnderlying27 Try.sizeOf9 Try.zeroValue9 ⟨rfl, rfl, trivial⟩ rfl (by kernel_rfl) rfl) rfl ?_
    rintro _ _ ⟨bs, rfl, rfl⟩
    refine g_i (iv_append (pre := [(it, iterObj r kv seen2), (b12, .cells (dCells 6 false 0 [] nilS (.slice p1 vis.length c1)) 32 (0, 0)), (b2, .cells (dCells 0 false 0 [] nilS nilS) 32 (0, 0))]) (m := mk) (F := M) (k := 1) rfl rfl Try.underlying27 info9 rfl rfl rfl hrowk rfl (by simp [str, Value.oneCell']) (by decide) (by decide) (by show vis.length + 1 ≤ 1000000; omega) rfl) rfl ?_
    rintro v1 _ ⟨mk1, hrowk1, rfl⟩
    obtain ⟨p3, c3, rfl⟩ := hrowk1.shape
    refine g_q (qv_field rfl Try.runUnderlying32 rfl Try.sizeOf27 rfl) rfl ?_
    refine g_i0 (iv_store (i := 1) (b := b12) (v := .slice p3 (vis.length + 1) c3) rfl rfl rfl Try.sizeOf27 rfl (Nat.le_of_ble_eq_true rfl)) ?_
    rintro _ _ rfl
    refine g_nil ?_
    refine e_normal_block ?_
    refine e_to (M' := (it, iterObj r kv seen2) :: (b12, .cells (dCells 6 false 0 [] nilS (.slice p3 (vis ++ [key]).length c3)) 32 (0, 0)) :: (b2, .cells (dCells 0 false 0 [] nilS nilS) 32 (0, 0)) :: (mk1 ++ M)) (by rw [List.length_append]; exact Fits.refl _) ?_
    exact e_again (seen2, vis ++ [key]) hmu (L' := [(2, ptr b2), (11, .map (some r)), (12, ptr b12), (63, ptr it)]) ⟨rfl, rfl, rfl, rfl, trivial⟩ ⟨p3, c3, mk1, rfl, hvis', by rw [List.length_append, List.map_append]; exact hrowk1, rfl⟩
theorem told_any (n : Nat) : ∀ t, ToldSpec W0 n t := by
  induction n using Nat.strongRecOn with
  | ind n ih =>
    intro t
    cases t with
    | null => exact told_null n
    | truth x => exact told_truth n x
    | int x => exact told_int n x
    | text x => exact told_text n x
    | one x => exact told_one n x
    | tab es => exact told_tab n es (fun p _ n' hn' => ih n' hn' p.2)

/-- The same, where the table comes as a Values. -/
theorem told_values (n : Nat) (es : List (Key × T)) (r : Nat) (ma M : Heap) (ha : RepA n (.tab es) (.iface 63 (.map (some r))) ma) (hma : ∀ x, x ∈ ma → x ∈ M) : Tri Try.prog W0 28 [.iface 66 (.map (some r))] M fun v M' => ∃ m', RepD n (.tab es) v m' ∧ M' = M ++ m' := by
  refine tri_of 102 Try.func28 rfl Try.ntmps28 (Nat.le_of_ble_eq_true rfl) ?_
  refine c_seq ?_
  refine c_region ?_   -- region 0
  refine g_i (iv_allocA Try.zeroValue32) rfl ?_
  rintro _ _ ⟨b2, rfl, rfl⟩
  refine g_nil ?_
  refine e_seq ?_
  refine c_seq ?_
  refine c_seq ?_
  refine c_region ?_   -- region 1
  refine g_q (qv_move rfl) rfl ?_
  refine g_nil ?_
  refine e_seq ?_
  refine c_block ?_
  refine c_seq ?_
  refine c_region ?_   -- region 2
  refine g_q (qv_isnt rfl rfl Try.runUnderlying4 (fun _ h => by cases h) Try.zeroValue4) rfl ?_
  refine g_q (qv_extract rfl rfl) rfl ?_
  refine g_q (qv_extract rfl rfl) rfl ?_
  refine g_nil ?_
  refine e_seq ?_
  refine c_false rfl ?_   -- t19
  refine c_seq ?_
  refine c_region ?_   -- region 5
  refine g_q (qv_isnt rfl rfl Try.runUnderlying2 (fun _ h => by cases h) Try.zeroValue2) rfl ?_
  refine g_q (qv_extract rfl rfl) rfl ?_
  refine g_q (qv_extract rfl rfl) rfl ?_
  refine g_nil ?_
  refine e_seq ?_
  refine c_false rfl ?_   -- t24
  refine c_seq ?_
  refine c_region ?_   -- region 8
  refine g_q (qv_isnt rfl rfl Try.runUnderlying87 (fun _ h => by cases h) Try.zeroValue87) rfl ?_
  refine g_q (qv_extract rfl rfl) rfl ?_
  refine g_q (qv_extract rfl rfl) rfl ?_
  refine g_nil ?_
  refine e_seq ?_
  refine c_false rfl ?_   -- t29
  refine c_seq ?_
  refine c_region ?_   -- region 11
  refine g_q (qv_isnt rfl rfl Try.runUnderlying9 (fun _ h => by cases h) Try.zeroValue9) rfl ?_
  refine g_q (qv_extract rfl rfl) rfl ?_
  refine g_q (qv_extract rfl rfl) rfl ?_
  refine g_nil ?_
  refine e_seq ?_
  refine c_false rfl ?_   -- t35
  refine c_seq ?_
  refine c_region ?_   -- region 14
  refine g_q (qv_isnt rfl rfl Try.runUnderlying89 (fun _ h => by cases h) Try.zeroValue89) rfl ?_
  refine g_q (qv_extract rfl rfl) rfl ?_
  refine g_q (qv_extract rfl rfl) rfl ?_
  refine g_nil ?_
  refine e_seq ?_
  refine c_false rfl ?_   -- t40
  refine c_seq ?_
  refine c_region ?_   -- region 23
  refine g_q (qv_isnt rfl rfl Try.runUnderlying63 (fun _ h => by cases h) Try.zeroValue63) rfl ?_
  refine g_q (qv_extract rfl rfl) rfl ?_
  refine g_q (qv_extract rfl rfl) rfl ?_
  refine g_nil ?_
  refine e_seq ?_
  refine c_false rfl ?_   -- t59
  refine c_seq ?_
  refine c_region ?_   -- region 37
  refine g_q (qv_is rfl Try.runUnderlying66 (fun _ h => by cases h)) rfl ?_
  refine g_q (qv_extract rfl rfl) rfl ?_
  refine g_q (qv_extract rfl rfl) rfl ?_
  refine g_nil ?_
  refine e_seq ?_
  refine c_true rfl ?_   -- t96
  refine c_seq ?_
  refine c_region ?_   -- region 38
  refine g_q (qv_assign rfl) rfl ?_
  refine g_nil ?_
  refine e_seq ?_
  refine c_seq ?_
  refine c_region ?_   -- region 39
  refine g_q (qv_move rfl) rfl ?_
  refine g_q (qv_iface Try.runUnderlying63 (fun _ h => by cases h) rfl) rfl ?_
  refine g_i (iv_call (vs := [.iface 63 (.map (some r))]) Try.call28 ⟨rfl, trivial⟩ (told_any n (.tab es) _ ma _ ha (fun x hx => .tail _ (hma x hx)))) rfl ?_
  rintro d1 _ ⟨m1, hd1, rfl⟩
  obtain ⟨kd, xd, id, sd, pd1, nd1, cd1, pd2, nd2, cd2, rfl⟩ := hd1.agg
  refine g_i0 (iv_storeA (i := 0) (b := b2) (vs := dCells kd xd id sd (.slice pd1 nd1 cd1) (.slice pd2 nd2 cd2)) rfl rfl all_dCells Try.sizeOf32 rfl rfl) ?_
  rintro _ _ rfl
  refine g_nil ?_
  refine e_seq ?_
  refine c_ret ?_
  refine e_ret_block (e_ret_then (?_))
  exact e_retcF (M' := M ++ m1) (fun f => by simp) (.inl rfl) Try.results28 Try.isAgg32 Try.sizeOf32 rfl m0 (vs := (dCells kd xd id sd (.slice pd1 nd1 cd1) (.slice pd2 nd2 cd2)).toList) (fun _ _ h => by simpa using h) ⟨m1, hd1, rfl⟩
end Go.Proofs.Ytnnclcfklbeocaa

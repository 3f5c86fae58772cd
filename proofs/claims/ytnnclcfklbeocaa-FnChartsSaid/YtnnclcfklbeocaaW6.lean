/-
  The walks, part 6: parsePath (the package's own split), tableLookup and Values.Table: they follow the path as 'walkT' does.
  Conditions: the value lies in memory as RepA says; the path is short and its names hold no dot.
-/
import Derived.Test.YtnnclcfklbeocaaW5
namespace Go.Proofs.Ytnnclcfklbeocaa
open Go.RowKit

variable {W0 : World}

/-! ### the split -/
def spl (done : List Key) (cur : Key) : List UInt8 → List Key
  | [] => done ++ [cur]
  | b :: l => if b = 46 then spl (done ++ [cur]) [] l else spl done (cur ++ [b]) l

theorem spl_key : ∀ (k : Key) (done : List Key) (cur : Key) (l : List UInt8), (46 : UInt8) ∉ k → spl done cur (k ++ l) = spl done (cur ++ k) l
  | [], _, cur, _, _ => by simp
  | b :: k, done, cur, l, h => by
    rw [List.mem_cons, not_or] at h
    have hb : b ≠ 46 := fun e => h.1 e.symm
    rw [List.cons_append, spl, if_neg hb, spl_key k done _ l h.2]
    simp
theorem spl_join : ∀ (ks : List Key) (done : List Key), ks ≠ [] → (∀ k ∈ ks, (46 : UInt8) ∉ k) → spl done [] (joinL ks) = done ++ ks
  | [], _, h, _ => absurd rfl h
  | [k], done, _, h => by
    have := spl_key k done [] [] (h k (by simp))
    simp only [List.append_nil, List.nil_append] at this
    simp only [joinL, this, spl]
  | k :: k' :: l, done, _, h => by
    simp only [joinL]
    rw [spl_key k done [] _ (h k (by simp)), List.nil_append, spl, if_pos rfl, spl_join (k' :: l) (done ++ [k]) (by simp) (fun x hx => h x (List.mem_cons_of_mem _ hx))]
    simp

/-- The last of a row is another. -/
theorem Row.setLast {E : Nat} {n : Nat} {x y : Value} {xs : List Value} {g cap : Nat} {cs : Array Value} (h : Row E 1 (.slice (some ⟨g, 0, none⟩) (n + 1) cap) (n + 1) (xs ++ [x]) [(g, .cells cs E (0, 0))]) :
    Row E 1 (.slice (some ⟨g, 0, none⟩) (n + 1) cap) (n + 1) (xs ++ [y]) [(g, .cells (cs.setIfInBounds (0 + n * 1) y) E (0, 0))] := by
  obtain ⟨hl, h⟩ := h
  refine ⟨by simpa using hl, Or.inr ⟨g, cap, _, rfl, rfl, ?_⟩⟩
  rcases h with ⟨h, _⟩ | ⟨g', cap', cs', hv, hm, h1, h2, h3⟩
  · cases h
  cases hv
  cases hm
  have hxs : xs.length = n := by simpa using hl
  refine ⟨h1, by simpa using h2, ?_⟩
  have hset : (cs.setIfInBounds (0 + n * 1) y).toList = cs.toList.set n y := by simp
  rw [hset, Nat.mul_one, List.take_set, ← Nat.mul_one (n + 1), h3, ← hxs, List.set_append_right _ _ (Nat.le_refl _)]
  simp

theorem slice_one {s : List UInt8} {j : Nat} {b : UInt8} (h : s[j]? = some b) : (s.take (j + 1)).drop j = [b] := by
  obtain ⟨hj, rfl⟩ := List.getElem?_eq_some_iff.1 h
  rw [List.drop_take, List.drop_eq_getElem_cons hj, show j + 1 - j = 1 by omega]
  rfl

theorem split_any (s : Key) (M : Heap) (hs : s.length ≤ 1000) : Tri Try.prog W0 51 [str s] M fun v M' => ∃ m', Row 9 1 v (spl [] [] s).length ((spl [] [] s).map str) m' ∧ M' = M ++ m' := by
  refine tri_of 33 Try.func51 rfl Try.ntmps51 (Nat.le_of_ble_eq_true rfl) ?_
  refine c_seq ?_
  refine c_region ?_   -- region 0
  refine g_q (qv_assign rfl) rfl ?_
  refine g_nil ?_
  refine e_seq ?_
  refine c_seq ?_
  refine c_region ?_   -- region 1
  refine g_i (iv_buildSlice (vs := [(0, str [])]) (cs := #[str []]) Try.runUnderlying27 Try.sizeOf9 Try.zeroValue9 ⟨rfl, rfl, trivial⟩ rfl (by kernel_rfl) rfl) rfl ?_
  rintro _ _ ⟨b, rfl, rfl⟩
  refine g_q (qv_assign rfl) rfl ?_
  refine g_nil ?_
  refine e_seq ?_
  refine c_seq ?_
  refine c_seq ?_
  refine c_region ?_   -- region 2
  refine g_q (qv_assign rfl) rfl ?_
  refine g_nil ?_
  refine e_seq ?_
  refine c_block ?_
  refine c_keep (L' := [(0, str s), (3, .slice (some ⟨b, 0, none⟩) 1 1), (4, .int .i64 ((0 : Nat) : Int))]) ⟨rfl, rfl, rfl, trivial⟩ ?_
  refine c_loop (ι := Nat) (fun j L M' => ∃ (done : List Key) (cur : Key) (v : Value) (m : Heap), L = [(0, str s), (3, v), (4, .int .i64 (j : Int))] ∧ j ≤ s.length ∧ spl [] [] s = spl done cur (s.drop j) ∧ done.length ≤ j ∧ cur.length ≤ j ∧ Row 9 1 v (done.length + 1) (done.map str ++ [str cur]) m ∧ M' = m ++ M) (fun j => s.length - j) 0
    ⟨[], [], _, [(b, .cells #[str []] 9 (0, 0))], rfl, Nat.zero_le _, rfl, Nat.le_refl _, Nat.le_refl _, ⟨rfl, Or.inr ⟨b, 1, #[str []], rfl, rfl, Nat.le_refl _, rfl, rfl⟩⟩, rfl⟩ ?_
  rintro j _ _ ⟨done, cur, v, m, rfl, hj, hspl, hdl, hcl, hrow, rfl⟩
  refine c_seq ?_
  refine c_seq ?_
  refine c_region ?_   -- region 3
  refine g_q (qv_move rfl) rfl ?_
  refine g_q (qv_move rfl) rfl ?_
  refine g_q (QV.to (v' := .int .i64 (s.length : Int)) (qv_len_string rfl Try.runUnderlying9) (by simp [ByteArray.size])) rfl ?_
  refine g_q (qv_lss rfl rfl) rfl ?_
  refine g_nil ?_
  refine e_seq ?_
  refine c_cond rfl (fun hc => ?_) (fun hc => ?_)   -- t9
  · -- true
    refine c_skip ?_
    refine e_seq ?_
    refine c_seq ?_
    refine c_block ?_
    refine c_seq ?_
    refine c_seq ?_
    refine c_region ?_   -- region 5
    have hjl : j < s.length := by
      have := of_decide_eq_true hc
      omega
    obtain ⟨bb, hbb⟩ : ∃ x, s[j]? = some x := ⟨_, List.getElem?_eq_getElem hjl⟩
    have hdrop : s.drop j = bb :: s.drop (j + 1) := by
      rw [List.drop_eq_getElem_cons hjl]
      rw [List.getElem?_eq_getElem hjl] at hbb
      cases hbb
      rfl
    rw [hdrop, spl] at hspl
    refine g_q (qv_move rfl) rfl ?_
    refine g_q (qv_move rfl) rfl ?_
    refine g_q (qv_strIndex (b := bb) rfl rfl Try.runUnderlying9 (by omega) (by simpa using hbb)) rfl ?_
    refine g_q (qv_eqi rfl rfl) rfl ?_
    refine g_nil ?_
    refine e_seq ?_
    refine c_cond rfl (fun hc => ?_) (fun hc => ?_)   -- t15
    · -- true
      refine c_seq ?_
      refine c_region ?_   -- region 6
      have hb46 : bb = 46 := by
        have h1 := of_decide_eq_true hc
        exact UInt8.toNat_inj.1 (by exact_mod_cast h1)
      rw [if_pos hb46] at hspl
      refine g_q (qv_move rfl) rfl ?_
      refine g_i (iv_buildSlice (vs := [(0, str [])]) (cs := #[str []]) Try.runUnderlying27 Try.sizeOf9 Try.zeroValue9 ⟨rfl, rfl, trivial⟩ rfl (by kernel_rfl) rfl) rfl ?_
      rintro _ _ ⟨bs, rfl, rfl⟩
      refine g_i (iv_append (pre := []) (m := m) (F := M) (k := 1) rfl rfl Try.underlying27 info9 rfl rfl rfl hrow rfl (by simp [str, Value.oneCell']) (by decide) (by decide) (by omega) rfl) rfl ?_
      rintro v1 _ ⟨m1, hrow1, rfl⟩
      refine g_q (qv_assign rfl) rfl ?_
      refine g_nil ?_
      refine e_seq ?_
      refine c_exit ?_
      refine e_exit_then ?_
      refine e_exit_block ?_
      refine e_seq ?_
      refine c_region ?_   -- region 4
      refine g_q (qv_move rfl) rfl ?_
      refine g_q (qv_add (c := ((j + 1 : Nat) : Int)) rfl rfl (by rw [wrap_i64 (by omega) (by omega)]; omega)) rfl ?_
      refine g_q (qv_assign rfl) rfl ?_
      refine g_nil ?_
      exact e_again (j + 1) (by omega) (L' := [(0, str s), (3, v1), (4, .int .i64 ((j + 1 : Nat) : Int))]) ⟨rfl, rfl, rfl, trivial⟩ ⟨done ++ [cur], [], v1, m1, rfl, hjl, hspl, by simp; omega, by simp, by rw [List.length_append, List.map_append]; exact hrow1, rfl⟩
    · -- false
      refine c_skip ?_
      refine e_seq ?_
      have hb46 : bb ≠ 46 := fun e => by
        subst e
        exact absurd hc (by decide)
      rw [if_neg hb46] at hspl
      obtain ⟨g, cap, cs, rfl, rfl, hcells⟩ := hrow.block (by omega)
      have hlast : cs.toList[0 + done.length * 1]? = some (str cur) := by
        rw [Nat.zero_add, Nat.mul_one, Array.getElem?_toList]
        exact hcells _ _ (by rw [List.getElem?_append_right (by simp)]; simp)
      refine c_drawM (fun i => !(i == 13)) Try.mixed ?_
      refine d_takeW 0 rfl (by kernel_rfl) (by kernel_rfl) (by kernel_rfl) rfl (fun _ => qv_move rfl) ?_
      refine d_takeW 1 rfl (by kernel_rfl) (by kernel_rfl) (by kernel_rfl) rfl (fun _ => qv_move rfl) ?_
      refine d_takeW 2 rfl (by kernel_rfl) (by kernel_rfl) (by kernel_rfl) rfl (fun _ => qv_len_slice rfl Try.runUnderlying27) ?_
      refine d_takeW 3 rfl (by kernel_rfl) (by kernel_rfl) (by kernel_rfl) rfl (fun _ => qv_sub (c := (done.length : Int)) rfl rfl (by rw [wrap_i64 (by omega) (by omega)]; omega)) ?_
      refine d_takeW 4 rfl (by kernel_rfl) (by kernel_rfl) (by kernel_rfl) rfl (fun _ => qv_index rfl rfl Try.runUnderlying27 Try.sizeOf9 (by omega) (by omega)) ?_
      refine d_take 5 rfl (by kernel_rfl) (by kernel_rfl) (by kernel_rfl) (by kernel_rfl) rfl (qv_load (v := str cur) rfl Try.isAgg9 m0 hlast) (fun _ h => h) ?_
      refine d_takeW 6 rfl (by kernel_rfl) (by kernel_rfl) (by kernel_rfl) rfl (fun _ => qv_move rfl) ?_
      refine d_takeW 7 rfl (by kernel_rfl) (by kernel_rfl) (by kernel_rfl) rfl (fun _ => qv_move rfl) ?_
      refine d_takeW 8 rfl (by kernel_rfl) (by kernel_rfl) (by kernel_rfl) rfl (fun _ => qv_move rfl) ?_
      refine d_takeW 9 rfl (by kernel_rfl) (by kernel_rfl) (by kernel_rfl) rfl (fun _ => qv_add (c := ((j + 1 : Nat) : Int)) rfl rfl (by rw [wrap_i64 (by omega) (by omega)]; omega)) ?_
      refine d_takeW 10 rfl (by kernel_rfl) (by kernel_rfl) (by kernel_rfl) rfl (fun _ => QV.to (v' := str [bb]) (qv_strSlice (m := (j : Int)) (n := ((j + 1 : Nat) : Int)) rfl rfl rfl Try.runUnderlying9 (by omega) (by omega) (by omega)) (by
        rw [show ((j + 1 : Nat) : Int).toNat = j + 1 by omega, show ((j : Nat) : Int).toNat = j by omega, slice_one hbb])) ?_
      refine d_takeW 11 rfl (by kernel_rfl) (by kernel_rfl) (by kernel_rfl) rfl (fun _ => qv_adds rfl rfl (by simp only [List.length_cons, List.length_nil]; omega)) ?_
      refine d_takeW 12 rfl (by kernel_rfl) (by kernel_rfl) (by kernel_rfl) rfl (fun _ => qv_index rfl rfl Try.runUnderlying27 Try.sizeOf9 (by omega) (by omega)) ?_
      refine d_run0 13 rfl (by kernel_rfl) (iv_store (i := 0) rfl rfl rfl Try.sizeOf9 rfl (by have := (List.getElem?_eq_some_iff.1 hlast).1; simpa using this)) (fun _ _ _ h => by cases h) ?_
      rintro _ _ rfl
      refine d_done (by kernel_rfl) ?_
      refine e_normal_block ?_
      refine e_seq ?_
      refine c_region ?_   -- region 4
      refine g_q (qv_move rfl) rfl ?_
      refine g_q (qv_add (c := ((j + 1 : Nat) : Int)) rfl rfl (by rw [wrap_i64 (by omega) (by omega)]; omega)) rfl ?_
      refine g_q (qv_assign rfl) rfl ?_
      refine g_nil ?_
      exact e_again (j + 1) (by omega) (L' := [(0, str s), (3, .slice (some ⟨g, 0, none⟩) (done.length + 1) cap), (4, .int .i64 ((j + 1 : Nat) : Int))]) ⟨rfl, rfl, rfl, trivial⟩ ⟨done, cur ++ [bb], _, _, rfl, hjl, hspl, by omega, by simp; omega, hrow.setLast, rfl⟩
  · -- false
    refine c_exit ?_
    refine e_exit_then ?_
    refine e_exit_then ?_
    refine e_exit_block ?_
    refine e_seq ?_
    refine c_seq ?_
    refine c_region ?_   -- region 8
    refine g_q (qv_move rfl) rfl ?_
    refine g_q (qv_assign rfl) rfl ?_
    refine g_nil ?_
    refine e_seq ?_
    refine c_ret ?_
    refine ?_
    have hje : s.length ≤ j := by
      have := of_decide_eq_false hc
      omega
    rw [List.drop_of_length_le hje, spl] at hspl
    refine e_to (M' := M ++ m) (fun f => by simp <;> omega) (e_ret1 (.inl rfl) Try.results51 rfl ⟨m, ?_, rfl⟩)
    rw [hspl, List.length_append, List.map_append]
    exact hrow
end Go.Proofs.Ytnnclcfklbeocaa

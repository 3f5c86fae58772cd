/-
  The walks, part 0: spec.New; the closure of laws.tableOf ('next'): it raises the counter and gives some number of 32 bits.
  Conditions: the counter is below 10^9; the numbers came in as an argument.
-/
import Derived.Test.YtnnclcfklbeocaaE8
namespace Go.Proofs.Ytnnclcfklbeocaa
open Go.RowKit

variable {W0 : World}

theorem new_any (n : Nat) (M : Heap) : Tri Try.prog W0 16 [] M fun v M' => ∃ m', M' = M ++ m' ∧ RepS n (.tab []) v m' := by
  refine tri_of 4 Try.func16 rfl Try.ntmps16 (by decide) ?_
  refine c_seq (c_region (g_q (qv_assign rfl) rfl (g_nil (e_seq ?_))))
  refine c_seq (c_region ?_)
  refine g_i iv_makeKV rfl ?_
  rintro _ _ ⟨r, rfl, rfl⟩
  refine g_q (qv_build (vs := [(0, .int .i64 6), (6, .map (some r))]) (cs := sCells 6 false 0 [] nilS (.map (some r))) lay40 ⟨rfl, rfl, rfl, rfl, trivial⟩ rfl) rfl ?_
  refine g_i (iv_boxA rfl) rfl ?_
  rintro _ _ ⟨b, rfl, rfl⟩
  refine g_q (qv_assign rfl) rfl (g_nil (e_seq ?_))
  have hrep : RepS n (.tab []) (ptr b) [(b, .cells (sCells 6 false 0 [] nilS (.map (some r))) 40 (0, 0)), (r, KV.empty.obj)] := by
    cases n <;> exact ⟨b, r, KV.empty, [], [], rfl, ⟨.nil, fun _ h => by cases h⟩, .refl _, rfl, rfl⟩
  refine c_ret (e_to (M' := M ++ [(b, .cells (sCells 6 false 0 [] nilS (.map (some r))) 40 (0, 0)), (r, KV.empty.obj)]) ?_ (e_ret1 (.inl rfl) Try.results16 rfl ⟨_, rfl, hrep⟩))
  intro f
  simp only [List.map_append, List.map_cons, List.map_nil, List.sum_append, List.sum_cons, List.sum_nil]
  omega

/-- A slice of numbers that came in. -/
structure ArgL (W0 : World) (v : Value) (xs : List Int) : Prop where
  form : ∃ p c, v = .slice p xs.length c ∧ (0 < xs.length → ∃ b off, p = some ⟨b, off, none⟩ ∧ b < W0.heap.size ∧ ∀ (i : Nat) (u : Int), xs[i]? = some u → W0.cell? ⟨b, off + i, none⟩ = some (.int .u32 u))
  wf : ∀ x ∈ xs, 0 ≤ x ∧ x < 4294967296

theorem wrap_u32_wf (n : Int) : 0 ≤ IntKind.u32.wrap n ∧ IntKind.u32.wrap n < 4294967296 := by
  rw [IntKind.wrap_u32]
  omega

/-- What 'next' captures: where the counter's address lies, where the slice lies, and the counter. -/
def nextMem (bat b4 b3 k : Nat) (lv : Value) : Heap := [(bat, .cells #[.int .i64 (k : Int)] 3 (0, 0)), (b4, .cells #[ptr bat] 61 (0, 0)), (b3, .cells #[lv] 22 (0, 0))]

theorem next_any (bat b4 b3 k : Nat) (lv : Value) (xs : List Int) (F : Heap) (hl : ArgL W0 lv xs) (hk : k < 1000000000) :
    Tri Try.prog W0 37 [ptr b4, ptr b3] (nextMem bat b4 b3 k lv ++ F) fun v M' => ∃ u, v = .int .u32 u ∧ 0 ≤ u ∧ u < 4294967296 ∧ M' = nextMem bat b4 b3 (k + 1) lv ++ F := by
  obtain ⟨⟨p, c, rfl, hcell⟩, hwf⟩ := hl
  have hk1 : ((k + 1 : Nat) : Int) = (k : Int) + 1 := by omega
  refine tri_of 34 Try.func37 rfl Try.ntmps37 (Nat.le_of_ble_eq_true rfl) ?_
  unfold nextMem
  refine c_seq ?_
  refine c_region ?_   -- region 0
  refine g_q (qv_assign rfl) rfl ?_
  refine g_nil ?_
  refine e_seq ?_
  refine c_seq ?_
  refine c_region ?_   -- region 1
  refine g_q (qv_load rfl Try.isAgg61 (List.mem_cons_of_mem _ List.mem_cons_self) rfl) rfl ?_
  refine g_q (qv_nil rfl) rfl ?_
  refine g_q (qv_load rfl Try.isAgg3 List.mem_cons_self rfl) rfl ?_
  refine g_q (qv_add (c := ((k + 1 : Nat) : Int)) rfl rfl (by rw [wrap_i64 (by omega) (by omega), hk1])) rfl ?_
  refine g_q (qv_nil rfl) rfl ?_
  refine g_i0 (iv_store (i := 0) rfl rfl rfl Try.sizeOf3 rfl (Nat.le_of_ble_eq_true rfl)) ?_
  rintro _ _ rfl
  refine g_nil ?_
  refine e_seq ?_
  refine c_seq ?_
  refine c_seq ?_
  refine c_region ?_   -- region 2
  refine g_q (qv_load (b := b3) rfl Try.isAgg22 (List.mem_cons_of_mem _ (List.mem_cons_of_mem _ List.mem_cons_self)) rfl) rfl ?_
  refine g_q (qv_len_slice rfl Try.runUnderlying22) rfl ?_
  refine g_q (qv_eqi rfl rfl) rfl ?_
  refine g_nil ?_
  refine e_seq ?_
  refine c_cond rfl (fun hc => ?_) (fun hc => ?_)   -- t10
  · -- true
    refine c_seq ?_
    refine c_region ?_   -- region 3
    refine g_q (qv_load (b := b4) rfl Try.isAgg61 (List.mem_cons_of_mem _ List.mem_cons_self) rfl) rfl ?_
    refine g_q (qv_nil rfl) rfl ?_
    refine g_q (qv_load (b := bat) rfl Try.isAgg3 List.mem_cons_self rfl) rfl ?_
    refine g_q (qv_conv rfl Try.runUnderlying3 Try.runUnderlying23 rfl) rfl ?_
    refine g_q (qv_mul rfl rfl rfl) rfl ?_
    refine g_q (qv_assign rfl) rfl ?_
    refine g_nil ?_
    refine e_seq ?_
    refine c_ret ?_
    refine e_ret_then (e_ret1 (.inl rfl) Try.results37 rfl ⟨_, rfl, (wrap_u32_wf _).1, (wrap_u32_wf _).2, rfl⟩)
  · -- false
    have hlen : 0 < xs.length := by
      have := of_decide_eq_false hc
      omega
    obtain ⟨b, off, rfl, hb, hcell⟩ := hcell hlen
    have hpos : (0 : Int) < (xs.length : Int) := by omega
    have hm0 := Int.tmod_nonneg (a := ((k + 1 : Nat) : Int)) (xs.length : Int) (by omega)
    have hm1 := Int.tmod_lt_of_pos ((k + 1 : Nat) : Int) hpos
    generalize hq : (((k + 1 : Nat) : Int)).tmod (xs.length : Int) = q at hm0 hm1
    have hql : q.toNat < xs.length := by omega
    obtain ⟨u, hu⟩ : ∃ u, xs[q.toNat]? = some u := ⟨_, List.getElem?_eq_getElem hql⟩
    have hcu := hcell q.toNat u hu
    refine c_skip ?_
    refine e_seq ?_
    refine c_seq ?_
    -- DRAWN region 4: 19 operations
    refine c_drawM (fun _ => true) Try.mixed ?_
    refine d_take 0 rfl (by kernel_rfl) (by kernel_rfl) (by kernel_rfl) (by kernel_rfl) rfl (qv_load (b := b3) rfl Try.isAgg22 (List.mem_cons_of_mem _ (List.mem_cons_of_mem _ List.mem_cons_self)) rfl) (fun _ h => h) ?_
    refine d_take 1 rfl (by kernel_rfl) (by kernel_rfl) (by kernel_rfl) (by kernel_rfl) rfl (qv_load (b := b4) rfl Try.isAgg61 (List.mem_cons_of_mem _ List.mem_cons_self) rfl) (fun _ h => h) ?_
    refine d_takeW 2 rfl (by kernel_rfl) (by kernel_rfl) (by kernel_rfl) rfl (fun _ => qv_nil rfl) ?_
    refine d_take 3 rfl (by kernel_rfl) (by kernel_rfl) (by kernel_rfl) (by kernel_rfl) rfl (qv_load (b := bat) rfl Try.isAgg3 List.mem_cons_self rfl) (fun _ h => h) ?_
    refine d_take 4 rfl (by kernel_rfl) (by kernel_rfl) (by kernel_rfl) (by kernel_rfl) rfl (qv_load (b := b3) rfl Try.isAgg22 (List.mem_cons_of_mem _ (List.mem_cons_of_mem _ List.mem_cons_self)) rfl) (fun _ h => h) ?_
    refine d_takeW 5 rfl (by kernel_rfl) (by kernel_rfl) (by kernel_rfl) rfl (fun _ => qv_len_slice rfl Try.runUnderlying22) ?_
    refine d_takeW 6 rfl (by kernel_rfl) (by kernel_rfl) (by kernel_rfl) rfl (fun _ => qv_rem (c := q) rfl rfl (by omega) hq) ?_
    refine d_takeW 7 rfl (by kernel_rfl) (by kernel_rfl) (by kernel_rfl) rfl (fun _ => qv_index rfl rfl Try.runUnderlying22 Try.sizeOf23 hm0 hm1) ?_
    refine d_take 8 rfl (by kernel_rfl) (by kernel_rfl) (by kernel_rfl) (by kernel_rfl) rfl (qv_load_old (v := .int .u32 u) rfl Try.isAgg23 hb (by rw [Nat.mul_one]; exact hcu)) (fun _ h => h) ?_
    refine d_take 9 rfl (by kernel_rfl) (by kernel_rfl) (by kernel_rfl) (by kernel_rfl) rfl (qv_load (b := b4) rfl Try.isAgg61 (List.mem_cons_of_mem _ List.mem_cons_self) rfl) (fun _ h => h) ?_
    refine d_takeW 10 rfl (by kernel_rfl) (by kernel_rfl) (by kernel_rfl) rfl (fun _ => qv_nil rfl) ?_
    refine d_take 11 rfl (by kernel_rfl) (by kernel_rfl) (by kernel_rfl) (by kernel_rfl) rfl (qv_load (b := bat) rfl Try.isAgg3 List.mem_cons_self rfl) (fun _ h => h) ?_
    refine d_take 12 rfl (by kernel_rfl) (by kernel_rfl) (by kernel_rfl) (by kernel_rfl) rfl (qv_load (b := b3) rfl Try.isAgg22 (List.mem_cons_of_mem _ (List.mem_cons_of_mem _ List.mem_cons_self)) rfl) (fun _ h => h) ?_
    refine d_takeW 13 rfl (by kernel_rfl) (by kernel_rfl) (by kernel_rfl) rfl (fun _ => qv_len_slice rfl Try.runUnderlying22) ?_
    refine d_takeW 14 rfl (by kernel_rfl) (by kernel_rfl) (by kernel_rfl) rfl (fun _ => qv_quo rfl rfl (by omega) rfl) ?_
    refine d_takeW 15 rfl (by kernel_rfl) (by kernel_rfl) (by kernel_rfl) rfl (fun _ => qv_conv rfl Try.runUnderlying3 Try.runUnderlying23 rfl) ?_
    refine d_takeW 16 rfl (by kernel_rfl) (by kernel_rfl) (by kernel_rfl) rfl (fun _ => qv_mul rfl rfl rfl) ?_
    refine d_takeW 17 rfl (by kernel_rfl) (by kernel_rfl) (by kernel_rfl) rfl (fun _ => qv_add rfl rfl rfl) ?_
    refine d_takeW 18 rfl (by kernel_rfl) (by kernel_rfl) (by kernel_rfl) rfl (fun _ => qv_assign rfl) ?_
    refine d_done (by kernel_rfl) ?_
    refine e_seq ?_
    refine c_ret ?_
    exact e_ret1 (.inl rfl) Try.results37 rfl ⟨_, rfl, (wrap_u32_wf _).1, (wrap_u32_wf _).2, rfl⟩

end Go.Proofs.Ytnnclcfklbeocaa

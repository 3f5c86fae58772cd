/-
  The walks, part 11: impl.Table and laws.FnTable: the law answers true.
  Conditions: the numbers came in as an argument; n is not below 0.
-/
import Derived.Test.YtnnclcfklbeocaaW10
namespace Go.Proofs.Ytnnclcfklbeocaa
open Go.RowKit

variable {W0 : World}

/-- What impl.Table answers. -/
def TableAns (n : Nat) (ks : List Key) (es : List (Key × T)) (d : Value) (code : Int) (mm : Heap) : Prop :=
  (code = 0 ∧ ∃ es' n' m', walkT ks (.tab es) = some (.tab es') ∧ n' ≤ n ∧ RepD n' (.tab es') d m' ∧ ∀ x, x ∈ m' → x ∈ mm) ∨ (code = 1 ∧ ∀ es', walkT ks (.tab es) ≠ some (.tab es'))

theorem implTable_any (n : Nat) (hn : n ≤ 19) (es : List (Key × T)) (d : Value) (md : Heap) (ks : List Key) (M : Heap) (hd : RepD n (.tab es) d md) (hmd : ∀ x, x ∈ md → x ∈ M) (hne : ks ≠ []) (hks : ∀ k ∈ ks, Nm k) (hk3 : ks.length ≤ 3) :
    Tri Try.prog W0 11 [d, str (joinL ks)] M fun v M' => ∃ kd xd id sd p1 n1 c1 p2 n2 c2 code mm, v = .tuple #[.agg (dCells kd xd id sd (.slice p1 n1 c1) (.slice p2 n2 c2)), .int .i64 code] ∧ M' = M ++ mm ∧ TableAns n ks es (.agg (dCells kd xd id sd (.slice p1 n1 c1) (.slice p2 n2 c2))) code mm := by
  obtain ⟨kd, xd, id, sd, pd1, nd1, cd1, pd2, nd2, cd2, rfl⟩ := hd.agg
  have hjl : (joinL ks).length ≤ 400 := by
    have := joinL_len ks (fun k hk => by have := (hks k hk).ok.2.2; omega)
    omega
  refine tri_of 35 Try.func11 rfl Try.ntmps11 (Nat.le_of_ble_eq_true rfl) ?_
  refine c_seq ?_
  refine c_region ?_   -- region 0
  refine g_i (iv_boxA rfl) rfl ?_
  rintro _ _ ⟨b2, rfl, rfl⟩
  refine g_i (iv_allocA Try.zeroValue32) rfl ?_
  rintro _ _ ⟨b4, rfl, rfl⟩
  refine g_q (qv_assign rfl) rfl ?_
  refine g_nil ?_
  refine e_seq ?_
  refine c_seq ?_
  refine c_region ?_   -- region 1
  refine g_q (qv_loadA (vs := (dCells kd xd id sd (.slice pd1 nd1 cd1) (.slice pd2 nd2 cd2)).toList) rfl Try.isAgg32 Try.sizeOf32 m1 (fun _ _ h => by simpa using h)) rfl ?_
  refine g_i (iv_call (vs := [.agg (dCells kd xd id sd (.slice pd1 nd1 cd1) (.slice pd2 nd2 cd2))]) Try.call26 ⟨rfl, trivial⟩ (table_any n hn es _ md _ hd (fun x hx => .tail _ (.tail _ (hmd x hx))))) rfl ?_
  rintro _ _ ⟨rm, ma, rfl, hra, rfl⟩
  refine g_q (qv_move rfl) rfl ?_
  refine g_q (qv_extract rfl rfl) rfl ?_
  refine g_q (qv_extract rfl rfl) rfl ?_
  refine g_q (qv_assign rfl) rfl ?_
  refine g_q (qv_assign rfl) rfl ?_
  refine g_nil ?_
  refine e_seq ?_
  refine c_seq ?_
  refine c_seq ?_
  refine c_region ?_   -- region 2
  refine g_q (qv_move rfl) rfl ?_
  refine g_q (qv_not rfl) rfl ?_
  refine g_q (qv_move rfl) rfl ?_
  refine g_on rfl rfl ?_
  refine g_q (qv_move rfl) rfl ?_
  refine g_on rfl rfl ?_
  refine g_q (QV.to (v' := .int .i64 ((joinL ks).length : Int)) (qv_len_string rfl Try.runUnderlying9) (by simp [ByteArray.size])) rfl ?_
  refine g_on rfl rfl ?_
  refine g_q (QV.to (v' := .bool false) (qv_gtr rfl rfl) (congrArg Value.bool (decide_eq_false (by omega)))) rfl ?_
  refine g_q (qv_pick_f rfl rfl) rfl ?_
  refine g_nil ?_
  refine e_seq ?_
  refine c_false rfl ?_   -- t21
  refine c_skip ?_
  refine e_seq ?_
  refine c_seq ?_
  refine c_region ?_   -- region 4
  refine g_q (qv_move rfl) rfl ?_
  refine g_q (qv_move rfl) rfl ?_
  refine g_i (iv_call (vs := [.map (some rm), str (joinL ks)]) Try.call27 ⟨rfl, rfl, trivial⟩ (tables_any n es rm ma ks _ hra (fun x hx => List.mem_append_right _ hx) hne hks hk3)) rfl ?_
  rintro _ _ ⟨rfl, ⟨es', r', n', m', hw, hn', rfl, hr', hm'⟩ | ⟨hno, x, u, rfl⟩⟩
  · refine g_q (qv_move rfl) rfl ?_
    refine g_q (qv_extract rfl rfl) rfl ?_
    refine g_q (qv_extract rfl rfl) rfl ?_
    refine g_q (qv_assign rfl) rfl ?_
    refine g_q (qv_assign rfl) rfl ?_
    refine g_nil ?_
    refine e_seq ?_
    refine c_seq ?_
    refine c_seq ?_
    refine c_region ?_   -- region 5
    refine g_q (qv_move rfl) rfl ?_
    refine g_q (qv_nen Try.runUnderlying68 rfl (Or.inl rfl)) rfl ?_
    refine g_nil ?_
    refine e_seq ?_
    refine c_false rfl ?_
    refine c_skip ?_
    refine e_seq ?_
    refine c_seq ?_
    refine c_region ?_   -- region 7
    refine g_q (qv_move rfl) rfl ?_
    refine g_q (qv_iface Try.runUnderlying66 (fun _ h => by cases h) rfl) rfl ?_
    refine g_i (iv_call (vs := [.iface 66 (.map (some r'))]) Try.call28 ⟨rfl, trivial⟩ (told_values n' es' r' m' _ hr' hm')) rfl ?_
    rintro d1 _ ⟨m1, hd1, rfl⟩
    obtain ⟨ke, xe, ie, se, pe1, ne1, ce1, pe2, ne2, ce2, rfl⟩ := hd1.agg
    refine g_i0 (iv_storeA (i := 0) (b := b4) (vs := dCells ke xe ie se (.slice pe1 ne1 ce1) (.slice pe2 ne2 ce2)) rfl rfl all_dCells Try.sizeOf32 rfl rfl) ?_
    rintro _ _ rfl
    refine g_q (qv_assign rfl) rfl ?_
    refine g_nil ?_
    refine e_seq ?_
    refine c_ret ?_
    refine e_to (M' := M ++ ((b4, .cells (dCells ke xe ie se (.slice pe1 ne1 ce1) (.slice pe2 ne2 ce2)) 32 (0, 0)) :: (ma ++ m1))) (fun f => by simp <;> omega) ?_
    exact e_retc2 (vs := (dCells ke xe ie se (.slice pe1 ne1 ce1) (.slice pe2 ne2 ce2)).toList) (.inl rfl) Try.results11 Try.isAgg32 Try.sizeOf32 rfl rfl (List.mem_append_right _ m0) (fun _ _ h => by simpa using h) ⟨_, _, _, _, _, _, _, _, _, _, 0, _, rfl, rfl, Or.inl ⟨rfl, es', n', m1, hw, hn', hd1, fun x hx => .tail _ (List.mem_append_right _ hx)⟩⟩
  · refine g_q (qv_move rfl) rfl ?_
    refine g_q (qv_extract rfl rfl) rfl ?_
    refine g_q (qv_extract rfl rfl) rfl ?_
    refine g_q (qv_assign rfl) rfl ?_
    refine g_q (qv_assign rfl) rfl ?_
    refine g_nil ?_
    refine e_seq ?_
    refine c_seq ?_
    refine c_seq ?_
    refine c_region ?_   -- region 5
    refine g_q (qv_move rfl) rfl ?_
    refine g_q (qv_nen Try.runUnderlying68 rfl (Or.inr ⟨_, _, rfl⟩)) rfl ?_
    refine g_nil ?_
    refine e_seq ?_
    refine c_true rfl ?_
    refine c_seq ?_
    refine c_region ?_   -- region 6
    refine g_q (qv_build (vs := []) (cs := dCells 0 false 0 [] nilS nilS) lay32 trivial rfl) rfl ?_
    refine g_i0 (iv_storeA (i := 0) (b := b4) (vs := dCells 0 false 0 [] nilS nilS) rfl rfl all_dCells Try.sizeOf32 rfl rfl) ?_
    rintro _ _ rfl
    refine g_q (qv_assign rfl) rfl ?_
    refine g_nil ?_
    refine e_seq ?_
    refine c_ret ?_
    refine e_ret_then (?_)
    refine e_to (M' := M ++ [(b4, .cells (dCells 0 false 0 [] nilS nilS) 32 (0, 0))]) (fun f => by simp <;> omega) ?_
    exact e_retc2 (vs := (dCells 0 false 0 [] nilS nilS).toList) (.inl rfl) Try.results11 Try.isAgg32 Try.sizeOf32 rfl rfl (List.mem_append_right _ m0) (fun _ _ h => by simpa using h) ⟨_, _, _, _, _, _, _, _, _, _, 1, _, rfl, rfl, Or.inr ⟨rfl, hno⟩⟩
theorem fnTable_any (lv : Value) (xs : List Int) (n : Int) (M : Heap) (hl : ArgL W0 lv xs) (h0 : 0 ≤ n) : Tri Try.prog W0 3 [lv, .int .u32 n] M fun v _ => v = .bool true := by
  obtain ⟨pl, cl, rfl⟩ : ∃ p c, lv = .slice p xs.length c := by
    obtain ⟨p, c, h, _⟩ := hl.form
    exact ⟨p, c, h⟩
  obtain ⟨hk1, hk3, hks⟩ := pathOf_ok n
  have hne : pathOf n ≠ [] := fun e => by rw [e] at hk1; exact absurd hk1 (by decide)
  refine tri_of 48 Try.func3 rfl Try.ntmps3 (Nat.le_of_ble_eq_true rfl) ?_
  refine c_seq ?_
  refine c_region ?_   -- region 0
  refine g_q (qv_assign rfl) rfl ?_
  refine g_nil ?_
  refine e_seq ?_
  refine c_seq ?_
  refine c_seq ?_
  refine c_region ?_   -- region 1
  refine g_q (qv_move rfl) rfl ?_
  refine g_q (qv_len_slice rfl Try.runUnderlying22) rfl ?_
  refine g_q (qv_gtr rfl rfl) rfl ?_
  refine g_nil ?_
  refine e_seq ?_
  refine c_cond rfl (fun hc => ?_) (fun hc => ?_)   -- t11
  · -- true
    refine c_seq ?_
    refine c_region ?_   -- region 2
    refine g_q (qv_assign rfl) rfl ?_
    refine g_nil ?_
    refine e_seq ?_
    refine c_ret ?_
    refine e_ret_then (?_)
    exact e_ret1 (.inl rfl) Try.results3 rfl rfl
  · -- false
    refine c_skip ?_
    refine e_seq ?_
    refine c_seq ?_
    refine c_seq ?_
    refine c_region ?_   -- region 3
    refine g_q (qv_move rfl) rfl ?_
    refine g_q (qv_len_slice rfl Try.runUnderlying22) rfl ?_
    refine g_q (qv_gtr rfl rfl) rfl ?_
    refine g_nil ?_
    refine e_seq ?_
    refine c_cond rfl (fun hc => ?_) (fun hc => ?_)   -- t14
    · -- true
      refine c_seq ?_
      refine c_region ?_   -- region 4
      refine g_q (qv_assign rfl) rfl ?_
      refine g_nil ?_
      refine e_seq ?_
      refine c_ret ?_
      refine e_ret_then (?_)
      exact e_ret1 (.inl rfl) Try.results3 rfl rfl
    · -- false
      refine c_skip ?_
      refine e_seq ?_
      refine c_seq ?_
      refine c_region ?_   -- region 5
      refine g_q (qv_move rfl) rfl ?_
      refine g_i (iv_call (vs := [.slice pl xs.length cl]) Try.call8 ⟨rfl, trivial⟩ (numbers_any _ xs M hl)) rfl ?_
      rintro u _ ⟨es, mu, hu, rfl⟩
      refine g_q (qv_assign rfl) rfl ?_
      refine g_nil ?_
      refine e_seq ?_
      refine c_seq ?_
      refine c_region ?_   -- region 6
      refine g_q (qv_move rfl) rfl ?_
      refine g_q (qv_move rfl) rfl ?_
      refine g_i (iv_call (vs := [.int .u32 n]) Try.call10 ⟨rfl, trivial⟩ (pathIn_any n _ h0)) rfl ?_
      rintro pv _ ⟨mp, hrow, rfl⟩
      refine g_i (iv_call (vs := [u, pv]) Try.call9 ⟨rfl, rfl, trivial⟩ (walk_any 3 (.tab es) u mu (pathOf n) pv mp _ hu (fun x hx => List.mem_append_left _ (List.mem_append_right _ hx)) hrow (fun x hx => List.mem_append_right _ hx) (by omega))) rfl ?_
      rintro w _ ⟨rfl, hw⟩
      refine g_q (qv_assign rfl) rfl ?_
      refine g_nil ?_
      refine e_seq ?_
      refine c_seq ?_
      refine c_region ?_   -- region 7
      refine g_q (qv_move rfl) rfl ?_
      refine g_i (iv_call (vs := [u]) Try.call12 ⟨rfl, trivial⟩ (of_any 3 (.tab es) u mu _ hu (fun x hx => List.mem_append_left _ (List.mem_append_right _ hx)))) rfl ?_
      rintro d _ ⟨md, hd, rfl⟩
      refine g_q (qv_move rfl) rfl ?_
      refine g_i (iv_call (vs := [.int .u32 n]) Try.call10 ⟨rfl, trivial⟩ (pathIn_any n _ h0)) rfl ?_
      rintro pv2 _ ⟨mp2, hrow2, rfl⟩
      refine g_i (iv_call (vs := [pv2]) Try.call13 ⟨rfl, trivial⟩ (joined_any (pathOf n) pv2 mp2 _ hrow2 (fun x hx => List.mem_append_right _ hx) (fun k hk => by have := (hks k hk).ok.2.2; omega) (by omega))) rfl ?_
      rintro _ _ ⟨rfl, rfl⟩
      refine g_i (iv_call (vs := [d, str (joinL (pathOf n))]) Try.call11 ⟨rfl, rfl, trivial⟩ (implTable_any 3 (by decide) es d md (pathOf n) _ hd (fun x hx => List.mem_append_left _ (List.mem_append_right _ hx)) hne hks hk3)) rfl ?_
      rintro _ _ ⟨kd, xd, id, sd, p1, n1, c1, p2, n2, c2, code, mt, rfl, rfl, hans⟩
      refine g_q (qv_move rfl) rfl ?_
      refine g_q (qv_extract rfl rfl) rfl ?_
      refine g_q (qv_extract rfl rfl) rfl ?_
      refine g_i (iv_allocA Try.zeroValue32) rfl ?_
      rintro _ _ ⟨b7, rfl, rfl⟩
      refine g_i0 (iv_storeA (i := 0) (b := b7) (vs := dCells kd xd id sd (.slice p1 n1 c1) (.slice p2 n2 c2)) rfl rfl all_dCells Try.sizeOf32 rfl rfl) ?_
      rintro _ _ rfl
      refine g_q (qv_assign rfl) rfl ?_
      refine g_nil ?_
      refine e_seq ?_
      refine c_seq ?_
      refine c_seq ?_
      refine c_region ?_   -- region 8
      rcases hw with ⟨hw0, rfl⟩ | ⟨t', n', m', hw0, hn', hw2, hw3⟩
      · obtain rfl : code = 1 := by
          rcases hans with ⟨_, es', _, _, h, _⟩ | ⟨h, _⟩
          · rw [hw0] at h; cases h
          · exact h
        refine g_q (qv_move rfl) rfl ?_
        refine g_q (qv_eqp Try.runUnderlying24 rfl) rfl ?_
        refine g_q (qv_move rfl) rfl ?_
        refine g_off rfl rfl rfl rfl ?_
        refine g_off rfl rfl rfl rfl ?_
        refine g_off rfl rfl rfl rfl ?_
        refine g_off rfl rfl rfl rfl ?_
        refine g_off rfl rfl rfl rfl ?_
        refine g_q (qv_pick_t rfl rfl) rfl ?_
        refine g_nil ?_
        refine e_seq ?_
        refine c_true rfl ?_
        refine c_seq ?_
        refine c_region ?_   -- region 9
        refine g_q (qv_move rfl) rfl ?_
        refine g_q (qv_eqi (b := 1) rfl rfl) rfl ?_
        refine g_q (qv_assign rfl) rfl ?_
        refine g_nil ?_
        refine e_seq ?_
        refine c_ret ?_
        refine e_ret_then (?_)
        exact e_ret1 (.inl rfl) Try.results3 rfl rfl
      · obtain ⟨b, kk, x, i, s, it, mpp, mm, rfl, rfl, hcase⟩ := hw2.look
        have hwm := hw3 _ m0
        refine g_q (qv_move rfl) rfl ?_
        refine g_q (qv_eqp Try.runUnderlying24 rfl) rfl ?_
        refine g_q (qv_move rfl) rfl ?_
        refine g_on rfl rfl ?_
        refine g_q (qv_move rfl) rfl ?_
        refine g_on rfl rfl ?_
        refine g_q (qv_nil rfl) rfl ?_
        refine g_on rfl rfl ?_
        refine g_q (qv_field rfl Try.runUnderlying40 rfl Try.sizeOf3 rfl) rfl ?_
        refine g_on rfl rfl ?_
        refine g_q (qv_load (v := .int .i64 kk) rfl Try.isAgg3 (.tail _ (List.mem_append_left _ (List.mem_append_left _ (List.mem_append_left _ hwm)))) rfl) rfl ?_
        refine g_on rfl rfl ?_
        refine g_q (qv_nei (b := 6) rfl rfl) rfl ?_
        refine g_q (qv_pick_f rfl rfl) rfl ?_
        refine g_nil ?_
        refine e_seq ?_
        refine c_cond rfl (fun hc => ?_) (fun hc => ?_)
        · have hkk : kk ≠ 6 := fun e => by subst e; exact absurd hc (by decide)
          have hnt := (hcase.resolve_left (fun h => hkk h.1)).2
          obtain rfl : code = 1 := by
            rcases hans with ⟨_, es', _, _, h, _⟩ | ⟨h, _⟩
            · rw [hw0] at h; cases h; exact absurd rfl (hnt _)
            · exact h
          refine c_seq ?_
          refine c_region ?_   -- region 9
          refine g_q (qv_move rfl) rfl ?_
          refine g_q (qv_eqi (b := 1) rfl rfl) rfl ?_
          refine g_q (qv_assign rfl) rfl ?_
          refine g_nil ?_
          refine e_seq ?_
          refine c_ret ?_
          refine e_ret_then (?_)
          exact e_ret1 (.inl rfl) Try.results3 rfl rfl
        · have hkk : kk = 6 := by
            have : decide (kk = 6) = true := by simpa using hc
            exact of_decide_eq_true this
          obtain ⟨_, es2, r2, kv2, kts2, mk2, rfl, _⟩ := hcase.resolve_right (fun h => h.1 hkk)
          rcases hans with ⟨rfl, es3, n3, m3', h, hn3, hd3, hm3⟩ | ⟨_, h⟩
          · rw [hw0] at h
            cases h
            refine c_skip ?_
            refine e_seq ?_
            refine c_seq ?_
            refine c_region ?_   -- region 10
            refine g_q (qv_move rfl) rfl ?_
            refine g_q (qv_eqi (b := 0) rfl rfl) rfl ?_
            refine g_q (qv_move rfl) rfl ?_
            refine g_on rfl rfl ?_
            refine g_q (qv_loadA (vs := (dCells kd xd id sd (.slice p1 n1 c1) (.slice p2 n2 c2)).toList) rfl Try.isAgg32 Try.sizeOf32 m0 (fun _ _ h => by simpa using h)) rfl ?_
            refine g_on rfl rfl ?_
            refine g_q (qv_move rfl) rfl ?_
            refine g_on rfl rfl ?_
            refine g_i (iv_call (vs := [.agg (dCells kd xd id sd (.slice p1 n1 c1) (.slice p2 n2 c2)), ptr b]) Try.call14 ⟨rfl, rfl, trivial⟩ (is_any n3 n' (.tab es2) _ _ m3' _ _ hd3 hw2 (fun x hx => .tail _ (List.mem_append_right _ (hm3 x hx))) (fun x hx => .tail _ (List.mem_append_left _ (List.mem_append_left _ (List.mem_append_left _ (hw3 x hx))))))) rfl ?_
            rintro _ _ ⟨rfl, m9, rfl⟩
            refine g_q (qv_pick_t rfl rfl) rfl ?_
            refine g_q (qv_assign rfl) rfl ?_
            refine g_nil ?_
            refine e_seq ?_
            refine c_ret ?_
            exact e_ret1 (.inl rfl) Try.results3 rfl rfl
          · exact absurd hw0 (h es2)
end Go.Proofs.Ytnnclcfklbeocaa

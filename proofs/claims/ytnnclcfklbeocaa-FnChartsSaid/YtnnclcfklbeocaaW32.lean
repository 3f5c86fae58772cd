/-
  The walks, part 32: laws.FnCharts: the law answers true.
  Conditions: the numbers came in as arguments.
-/
import Derived.Test.YtnnclcfklbeocaaW31
namespace Go.Proofs.Ytnnclcfklbeocaa
open Go.RowKit

variable {W0 : World}

/-- What CoalesceValues and MergeValues answer, in one form. -/
def Got (r : Option (List (Key × T))) (v : Value) (m' : Heap) : Prop := (r = none ∧ v = .tuple #[.agg (dCells 0 false 0 [] nilS nilS), .bool false]) ∨ ∃ re n d' md', r = some re ∧ KeysOk re ∧ v = .tuple #[d', .bool true] ∧ RepD n (.tab re) d' md' ∧ ∀ x, x ∈ md' → x ∈ m'
theorem Got.form {r : Option (List (Key × T))} {v : Value} {m' : Heap} (h : Got r v m') : ∃ kk x i s p1 n1 c1 p2 n2 c2, v = .tuple #[.agg (dCells kk x i s (.slice p1 n1 c1) (.slice p2 n2 c2)), .bool r.isSome] ∧ ∀ re, r = some re → ∃ n md', RepD n (.tab re) (.agg (dCells kk x i s (.slice p1 n1 c1) (.slice p2 n2 c2))) md' ∧ ∀ x, x ∈ md' → x ∈ m' := by
  rcases h with ⟨rfl, rfl⟩ | ⟨re, n, d', md', rfl, _, rfl, h1, h2⟩
  · exact ⟨0, false, 0, [], none, 0, 0, none, 0, 0, rfl, fun re e => by cases e⟩
  · obtain ⟨kk, x, i, s, p1, n1, c1, p2, n2, c2, rfl⟩ := h1.agg
    exact ⟨kk, x, i, s, p1, n1, c1, p2, n2, c2, rfl, fun re' e => by cases e; exact ⟨n, md', h1, h2⟩⟩
theorem AnsS.form {b : Nat} {F : Heap} {v : Value} {M' : Heap} {r : Option (List (Key × T))} (h : AnsS b F v M' r) : v = .bool r.isSome ∧ ∃ Y, M' = Y ++ F ∧ ∀ re, r = some re → ∃ n', RepS n' (.tab re) (ptr b) Y := by
  cases r with
  | none =>
    obtain ⟨h1, X, h2⟩ := h
    exact ⟨h1, X, h2, fun re e => by cases e⟩
  | some re =>
    obtain ⟨h1, _, n', md', h2, h3⟩ := h
    exact ⟨h1, md', h3, fun re' e => by cases e; exact ⟨n', h2⟩⟩

set_option maxHeartbeats 16000000 in
theorem fnCharts_any (lv1 lv2 : Value) (xs1 xs2 : List Int) (mg : Bool) (M : Heap) (hl1 : ArgL W0 lv1 xs1) (hl2 : ArgL W0 lv2 xs2) : Tri Try.prog W0 7 [lv1, lv2, .bool mg] M fun v _ => v = .bool true := by
  obtain ⟨pl1, cl1, rfl⟩ : ∃ p c, lv1 = .slice p xs1.length c := by
    obtain ⟨p, c, h, _⟩ := hl1.form
    exact ⟨p, c, h⟩
  obtain ⟨pl2, cl2, rfl⟩ : ∃ p c, lv2 = .slice p xs2.length c := by
    obtain ⟨p, c, h, _⟩ := hl2.form
    exact ⟨p, c, h⟩
  refine tri_of 68 Try.func7 rfl Try.ntmps7 (Nat.le_of_ble_eq_true rfl) ?_
  refine c_seq ?_
  refine c_region ?_
  refine g_q (qv_assign rfl) rfl ?_
  refine g_nil ?_
  refine e_seq ?_
  refine c_seq ?_
  refine c_seq ?_
  rcases Decidable.em ((2147483647 : Int) < (xs1.length : Int)) with hlt | hlt
  · refine c_region ?_
    refine g_q (qv_move rfl) rfl ?_
    refine g_q (qv_len_slice rfl Try.runUnderlying22) rfl ?_
    refine g_q (QV.to (qv_gtr rfl rfl) (congrArg Value.bool (decide_eq_true hlt))) rfl ?_
    refine g_q (qv_move rfl) rfl ?_
    refine g_off rfl rfl rfl rfl ?_
    refine g_off rfl rfl rfl rfl ?_
    refine g_off rfl rfl rfl rfl ?_
    refine g_q (qv_pick_t rfl rfl) rfl ?_
    refine g_nil ?_
    refine e_seq ?_
    refine c_true rfl ?_
    refine c_seq ?_
    refine c_region ?_
    refine g_q (qv_assign rfl) rfl ?_
    refine g_nil ?_
    refine e_seq ?_
    refine c_ret ?_
    refine e_ret_then ?_
    exact e_ret1 (.inl rfl) Try.results7 rfl rfl
  refine c_region ?_
  refine g_q (qv_move rfl) rfl ?_
  refine g_q (qv_len_slice rfl Try.runUnderlying22) rfl ?_
  refine g_q (QV.to (qv_gtr rfl rfl) (congrArg Value.bool (decide_eq_false hlt))) rfl ?_
  refine g_q (qv_move rfl) rfl ?_
  refine g_on rfl rfl ?_
  refine g_q (qv_move rfl) rfl ?_
  refine g_on rfl rfl ?_
  refine g_q (qv_len_slice rfl Try.runUnderlying22) rfl ?_
  refine g_on rfl rfl ?_
  refine g_q (qv_gtr rfl rfl) rfl ?_
  refine g_q (qv_pick_f rfl rfl) rfl ?_
  refine g_nil ?_
  refine e_seq ?_
  refine c_cond rfl (fun hc => ?_) (fun hc => ?_)
  · refine c_seq ?_
    refine c_region ?_
    refine g_q (qv_assign rfl) rfl ?_
    refine g_nil ?_
    refine e_seq ?_
    refine c_ret ?_
    refine e_ret_then ?_
    exact e_ret1 (.inl rfl) Try.results7 rfl rfl
  refine c_skip ?_
  refine e_seq ?_
  refine c_seq ?_
  refine c_seq ?_
  rcases Decidable.em ((1000 : Int) < (xs1.length : Int)) with hlt | hlt
  · refine c_region ?_
    refine g_q (qv_move rfl) rfl ?_
    refine g_q (qv_len_slice rfl Try.runUnderlying22) rfl ?_
    refine g_q (QV.to (qv_gtr rfl rfl) (congrArg Value.bool (decide_eq_true hlt))) rfl ?_
    refine g_q (qv_move rfl) rfl ?_
    refine g_off rfl rfl rfl rfl ?_
    refine g_off rfl rfl rfl rfl ?_
    refine g_off rfl rfl rfl rfl ?_
    refine g_q (qv_pick_t rfl rfl) rfl ?_
    refine g_nil ?_
    refine e_seq ?_
    refine c_true rfl ?_
    refine c_seq ?_
    refine c_region ?_
    refine g_q (qv_assign rfl) rfl ?_
    refine g_nil ?_
    refine e_seq ?_
    refine c_ret ?_
    refine e_ret_then ?_
    exact e_ret1 (.inl rfl) Try.results7 rfl rfl
  refine c_region ?_
  refine g_q (qv_move rfl) rfl ?_
  refine g_q (qv_len_slice rfl Try.runUnderlying22) rfl ?_
  refine g_q (QV.to (qv_gtr rfl rfl) (congrArg Value.bool (decide_eq_false hlt))) rfl ?_
  refine g_q (qv_move rfl) rfl ?_
  refine g_on rfl rfl ?_
  refine g_q (qv_move rfl) rfl ?_
  refine g_on rfl rfl ?_
  refine g_q (qv_len_slice rfl Try.runUnderlying22) rfl ?_
  refine g_on rfl rfl ?_
  refine g_q (qv_gtr rfl rfl) rfl ?_
  refine g_q (qv_pick_f rfl rfl) rfl ?_
  refine g_nil ?_
  refine e_seq ?_
  refine c_cond rfl (fun hc => ?_) (fun hc => ?_)
  · refine c_seq ?_
    refine c_region ?_
    refine g_q (qv_assign rfl) rfl ?_
    refine g_nil ?_
    refine e_seq ?_
    refine c_ret ?_
    refine e_ret_then ?_
    exact e_ret1 (.inl rfl) Try.results7 rfl rfl
  refine c_skip ?_
  refine e_seq ?_
  refine c_seq ?_
  refine c_region ?_
  refine g_q (qv_move rfl) rfl ?_
  refine g_i (iv_call (vs := [.slice pl1 xs1.length cl1, .int .i64 ((0 : Nat) : Int), .int .i64 ((2 : Nat) : Int), str [116, 111, 112]]) Try.call20 ⟨rfl, rfl, rfl, rfl, trivial⟩ (chartOf_any 2 0 _ xs1 [116, 111, 112] _ hl1 (by decide) (by decide) (by decide))) rfl ?_
  rintro _ _ ⟨c, a1, a2, m1', m2', mx, rfl, hcn, hwf, hri, hrp, rfl⟩
  clear hcn
  obtain ⟨ki, xi, ii, si, ai1, bi1, ci1, ai2, bi2, ci2, ai3, bi3, ci3, rfl⟩ := RepI.cells hri
  obtain ⟨bj, aj1, bj1, cj1, rfl⟩ := RepP.cells hrp
  refine g_q (qv_move rfl) rfl ?_
  refine g_q (qv_extract rfl rfl) rfl ?_
  refine g_q (qv_extract rfl rfl) rfl ?_
  refine g_i (iv_allocA (z := iCells [] 0 false 0 [] nilS nilS nilS) Try.zeroValue51) rfl ?_
  rintro _ _ ⟨b7, rfl, rfl⟩
  refine g_i (iv_allocA (z := #[str [], .pointer none, nilS]) Try.zeroValue54) rfl ?_
  rintro _ _ ⟨b8, rfl, rfl⟩
  refine g_i0 (iv_storeA (i := 1) (b := b7) (vs := (iCells c.name ki xi ii si (.slice ai1 bi1 ci1) (.slice ai2 bi2 ci2) (.slice ai3 bi3 ci3))) rfl rfl all_iCells Try.sizeOf51 rfl rfl) ?_
  rintro _ _ rfl
  refine g_i0 (iv_storeA (i := 0) (b := b8) (vs := #[str c.name, ptr bj, .slice aj1 bj1 cj1]) rfl rfl all_pCells Try.sizeOf54 rfl rfl) ?_
  rintro _ _ rfl
  refine g_nil ?_
  refine e_seq ?_
  refine c_seq ?_
  refine c_region ?_
  refine g_q (qv_move rfl) rfl ?_
  refine g_to (M' := (b8, .cells #[str c.name, ptr bj, .slice aj1 bj1 cj1] 54 (0, 0)) :: (b7, .cells (iCells c.name ki xi ii si (.slice ai1 bi1 ci1) (.slice ai2 bi2 ci2) (.slice ai3 bi3 ci3)) 51 (0, 0)) :: (m1' ++ m2')) (fun f => by simp only [List.set_cons_succ, List.set_cons_zero, List.map_cons, List.sum_cons, List.map_append, List.sum_append]; omega) ?_
  refine g_i (iv_call (vs := [.slice pl2 xs2.length cl2]) Try.call8 ⟨rfl, trivial⟩ (numbers_any _ xs2 _ hl2)) rfl ?_
  rintro _ _ ⟨es, mn, hrn, rfl⟩
  obtain ⟨bn, _, _, _, _, _, _, rfl, _⟩ := hrn.kind
  refine g_q (qv_assign rfl) rfl ?_
  refine g_nil ?_
  refine e_seq ?_
  refine c_seq ?_
  refine c_region ?_
  refine g_q (qv_move rfl) rfl ?_
  refine g_i (iv_call (vs := [ptr bn]) Try.call21 ⟨rfl, trivial⟩ (copy_any 3 (.tab es) (ptr bn) mn _ hrn (fun x hx => List.mem_append_right _ hx))) rfl ?_
  rintro _ _ ⟨mc, hrw, rfl⟩
  obtain ⟨bw, _, _, _, _, _, _, rfl, _⟩ := hrw.kind
  refine g_q (qv_assign rfl) rfl ?_
  refine g_nil ?_
  refine e_seq ?_
  refine c_seq ?_
  refine c_region ?_
  refine g_q (qv_loadA (vs := #[str c.name, ptr bj, .slice aj1 bj1 cj1].toList) rfl Try.isAgg54 Try.sizeOf54 (List.mem_append_left _ (List.mem_append_left _ m0)) (fun _ _ h => by simpa using h)) rfl ?_
  refine g_q (qv_move rfl) rfl ?_
  refine g_q (qv_move rfl) rfl ?_
  refine g_to (M' := mc ++ ((b7, .cells (iCells c.name ki xi ii si (.slice ai1 bi1 ci1) (.slice ai2 bi2 ci2) (.slice ai3 bi3 ci3)) 51 (0, 0)) :: (m1' ++ (m2' ++ mn)))) (fun f => by simp only [List.map_cons, List.sum_cons, List.map_append, List.sum_append, List.cons_append]; omega) ?_
  refine g_i (iv_call (vs := [.agg #[str c.name, ptr bj, .slice aj1 bj1 cj1], ptr bw, .bool mg]) Try.call22 ⟨rfl, rfl, rfl, trivial⟩ (charted_any 2 mg c _ m2' 3 es bw mc _ hrp (fun x hx => .tail _ (List.mem_append_right _ (List.mem_append_left _ hx))) hwf hrw)) rfl ?_
  rintro _ _ ⟨r, hr, hans⟩
  obtain ⟨rfl, Y, rfl, hY⟩ := hans.form
  refine g_q (qv_assign rfl) rfl ?_
  refine g_nil ?_
  refine e_seq ?_
  refine c_cut (fun L' M' => ∃ b12 k6 x6 i6 s6 p6 n6 c6 q6 o6 e6 r2 mq, L' = [(2, .bool mg), (7, ptr b7), (9, ptr bn), (10, ptr bw), (11, .bool r.isSome), (12, ptr b12), (13, .bool (Option.isSome r2))] ∧ ChartR false 2 c es r2 ∧ (∀ re, r2 = some re → ∃ n md', RepD n (.tab re) (.agg (dCells k6 x6 i6 s6 (.slice p6 n6 c6) (.slice q6 o6 e6))) md' ∧ ∀ x, x ∈ md' → x ∈ mq) ∧ M' = (b12, .cells (dCells k6 x6 i6 s6 (.slice p6 n6 c6) (.slice q6 o6 e6)) 32 (0, 0)) :: (mq ++ (Y ++ ((b7, .cells (iCells c.name ki xi ii si (.slice ai1 bi1 ci1) (.slice ai2 bi2 ci2) (.slice ai3 bi3 ci3)) 51 (0, 0)) :: (m1' ++ (m2' ++ mn)))))) ?_ ?_
  · refine c_draw [(b7, .cells (iCells c.name ki xi ii si (.slice ai1 bi1 ci1) (.slice ai2 bi2 ci2) (.slice ai3 bi3 ci3)) 51 (0, 0))] (fun i => !(i == 8)) Try.mixed ?_
    refine d_take 0 rfl (by kernel_rfl) (by kernel_rfl) (by kernel_rfl) (by kernel_rfl) rfl (qv_loadA (vs := (iCells c.name ki xi ii si (.slice ai1 bi1 ci1) (.slice ai2 bi2 ci2) (.slice ai3 bi3 ci3)).toList) rfl Try.isAgg51 Try.sizeOf51 m0 (fun _ _ h => by simpa using h)) (fun z hz => by rw [List.mem_singleton.1 hz]; exact (List.mem_append_right _ m0)) ?_
    refine d_takeW 1 rfl (by kernel_rfl) (by kernel_rfl) (by kernel_rfl) rfl (fun _ => qv_move rfl) ?_
    refine d_or 2 7 (by kernel_rfl) ?_ ?_
    · refine di_run 2 rfl rfl (iv_call (vs := [ptr bn]) Try.call12 ⟨rfl, trivial⟩ (of_any 3 (.tab es) (ptr bn) mn _ hrn (fun x hx => (List.mem_append_right _ (.tail _ (List.mem_append_right _ (List.mem_append_right _ hx))))))) (by rintro _ _ ⟨_, _, rfl⟩ _ z hz; rw [List.mem_singleton.1 hz]; exact List.mem_append_left _ (List.mem_append_right _ m0)) ?_
      rintro dv _ ⟨mdv, hdv, rfl⟩
      refine d_or 3 7 (by kernel_rfl) ?_ ?_
      · refine di_run 3 rfl rfl (iv_call (vs := [.agg (iCells c.name ki xi ii si (.slice ai1 bi1 ci1) (.slice ai2 bi2 ci2) (.slice ai3 bi3 ci3)), dv]) Try.call23 ⟨rfl, rfl, trivial⟩ (implVals23_any 2 (by decide) c _ m1' es dv mdv _ hri (fun x hx => (List.mem_append_left _ (List.mem_append_right _ (.tail _ (List.mem_append_left _ hx))))) hwf hdv (fun x hx => (List.mem_append_right _ hx)))) (by rintro _ _ ⟨_, _, _, rfl, _⟩ _ z hz; rw [List.mem_singleton.1 hz]; exact List.mem_append_left _ (List.mem_append_left _ (List.mem_append_right _ m0))) ?_
        rintro vg _ ⟨r2, mq, hr2, rfl, hgot0⟩
        obtain ⟨k6, x6, i6, s6, p6, n6, c6, q6, o6, e6, rfl, hgot⟩ := Got.form hgot0
        refine d_takeW 4 rfl (by kernel_rfl) (by kernel_rfl) (by kernel_rfl) rfl (fun _ => qv_move rfl) ?_
        refine d_takeW 5 rfl (by kernel_rfl) (by kernel_rfl) (by kernel_rfl) rfl (fun _ => qv_extract rfl rfl) ?_
        refine d_takeW 6 rfl (by kernel_rfl) (by kernel_rfl) (by kernel_rfl) rfl (fun _ => qv_extract rfl rfl) ?_
        refine d_run 7 rfl (by kernel_rfl) rfl (iv_allocA (z := dCells 0 false 0 [] nilS nilS) Try.zeroValue32) (by rintro _ _ ⟨_, rfl, rfl⟩ _ z hz; rw [List.mem_singleton.1 hz]; exact .tail _ (List.mem_append_left _ (List.mem_append_left _ (List.mem_append_right _ m0)))) ?_
        rintro _ _ ⟨b12, rfl, rfl⟩
        refine d_to (M' := (b12, .cells (dCells 0 false 0 [] nilS nilS) 32 (0, 0)) :: (mq ++ (Y ++ ((b7, .cells (iCells c.name ki xi ii si (.slice ai1 bi1 ci1) (.slice ai2 bi2 ci2) (.slice ai3 bi3 ci3)) 51 (0, 0)) :: (m1' ++ (m2' ++ mn)))))) (fun f => by simp only [List.map_cons, List.sum_cons, List.map_append, List.sum_append]; omega) ?_
        refine d_run0 8 rfl (by kernel_rfl) (iv_storeA (i := 0) (b := b12) (vs := (dCells k6 x6 i6 s6 (.slice p6 n6 c6) (.slice q6 o6 e6))) rfl rfl all_dCells Try.sizeOf32 rfl rfl) (fun _ _ _ h => by cases h) ?_
        rintro _ _ rfl
        refine d_takeW 9 rfl (by kernel_rfl) (by kernel_rfl) (by kernel_rfl) rfl (fun _ => qv_assign rfl) ?_
        refine d_done (by kernel_rfl) ?_
        exact e_mid (L' := [(2, .bool mg), (7, ptr b7), (9, ptr bn), (10, ptr bw), (11, .bool r.isSome), (12, ptr b12), (13, .bool (Option.isSome r2))]) ⟨rfl, rfl, rfl, rfl, rfl, rfl, rfl, trivial⟩ ⟨b12, k6, x6, i6, s6, p6, n6, c6, q6, o6, e6, r2, mq, rfl, hr2, hgot, rfl⟩
      · refine di_run 7 rfl rfl (iv_allocA (z := dCells 0 false 0 [] nilS nilS) Try.zeroValue32) (by rintro _ _ ⟨_, rfl, rfl⟩ _ z hz; rw [List.mem_singleton.1 hz]; exact .tail _ (List.mem_append_left _ (List.mem_append_right _ m0))) ?_
        rintro _ _ ⟨b12, rfl, rfl⟩
        refine d_run 3 rfl (by kernel_rfl) rfl (iv_call (vs := [.agg (iCells c.name ki xi ii si (.slice ai1 bi1 ci1) (.slice ai2 bi2 ci2) (.slice ai3 bi3 ci3)), dv]) Try.call23 ⟨rfl, rfl, trivial⟩ (implVals23_any 2 (by decide) c _ m1' es dv mdv _ hri (fun x hx => (.tail _ (List.mem_append_left _ (List.mem_append_right _ (.tail _ (List.mem_append_left _ hx)))))) hwf hdv (fun x hx => (.tail _ (List.mem_append_right _ hx))))) (by rintro _ _ ⟨_, _, _, rfl, _⟩ _ z hz; rw [List.mem_singleton.1 hz]; exact List.mem_append_left _ (.tail _ (List.mem_append_left _ (List.mem_append_right _ m0)))) ?_
        rintro vg _ ⟨r2, mq, hr2, rfl, hgot0⟩
        obtain ⟨k6, x6, i6, s6, p6, n6, c6, q6, o6, e6, rfl, hgot⟩ := Got.form hgot0
        refine d_takeW 4 rfl (by kernel_rfl) (by kernel_rfl) (by kernel_rfl) rfl (fun _ => qv_move rfl) ?_
        refine d_takeW 5 rfl (by kernel_rfl) (by kernel_rfl) (by kernel_rfl) rfl (fun _ => qv_extract rfl rfl) ?_
        refine d_takeW 6 rfl (by kernel_rfl) (by kernel_rfl) (by kernel_rfl) rfl (fun _ => qv_extract rfl rfl) ?_
        refine d_to (M' := (b12, .cells (dCells 0 false 0 [] nilS nilS) 32 (0, 0)) :: (mq ++ (Y ++ ((b7, .cells (iCells c.name ki xi ii si (.slice ai1 bi1 ci1) (.slice ai2 bi2 ci2) (.slice ai3 bi3 ci3)) 51 (0, 0)) :: (m1' ++ (m2' ++ mn)))))) (fun f => by simp only [List.map_cons, List.sum_cons, List.map_append, List.sum_append, List.cons_append]; omega) ?_
        refine d_run0 8 rfl (by kernel_rfl) (iv_storeA (i := 0) (b := b12) (vs := (dCells k6 x6 i6 s6 (.slice p6 n6 c6) (.slice q6 o6 e6))) rfl rfl all_dCells Try.sizeOf32 rfl rfl) (fun _ _ _ h => by cases h) ?_
        rintro _ _ rfl
        refine d_takeW 9 rfl (by kernel_rfl) (by kernel_rfl) (by kernel_rfl) rfl (fun _ => qv_assign rfl) ?_
        refine d_done (by kernel_rfl) ?_
        exact e_mid (L' := [(2, .bool mg), (7, ptr b7), (9, ptr bn), (10, ptr bw), (11, .bool r.isSome), (12, ptr b12), (13, .bool (Option.isSome r2))]) ⟨rfl, rfl, rfl, rfl, rfl, rfl, rfl, trivial⟩ ⟨b12, k6, x6, i6, s6, p6, n6, c6, q6, o6, e6, r2, mq, rfl, hr2, hgot, rfl⟩
    · refine di_run 7 rfl rfl (iv_allocA (z := dCells 0 false 0 [] nilS nilS) Try.zeroValue32) (by rintro _ _ ⟨_, rfl, rfl⟩ _ z hz; rw [List.mem_singleton.1 hz]; exact .tail _ (List.mem_append_right _ m0)) ?_
      rintro _ _ ⟨b12, rfl, rfl⟩
      refine d_run 2 rfl (by kernel_rfl) rfl (iv_call (vs := [ptr bn]) Try.call12 ⟨rfl, trivial⟩ (of_any 3 (.tab es) (ptr bn) mn _ hrn (fun x hx => (.tail _ (List.mem_append_right _ (.tail _ (List.mem_append_right _ (List.mem_append_right _ hx)))))))) (by rintro _ _ ⟨_, _, rfl⟩ _ z hz; rw [List.mem_singleton.1 hz]; exact List.mem_append_left _ (.tail _ (List.mem_append_right _ m0))) ?_
      rintro dv _ ⟨mdv, hdv, rfl⟩
      refine d_run 3 rfl (by kernel_rfl) rfl (iv_call (vs := [.agg (iCells c.name ki xi ii si (.slice ai1 bi1 ci1) (.slice ai2 bi2 ci2) (.slice ai3 bi3 ci3)), dv]) Try.call23 ⟨rfl, rfl, trivial⟩ (implVals23_any 2 (by decide) c _ m1' es dv mdv _ hri (fun x hx => (List.mem_append_left _ (.tail _ (List.mem_append_right _ (.tail _ (List.mem_append_left _ hx)))))) hwf hdv (fun x hx => (List.mem_append_right _ hx)))) (by rintro _ _ ⟨_, _, _, rfl, _⟩ _ z hz; rw [List.mem_singleton.1 hz]; exact List.mem_append_left _ (List.mem_append_left _ (.tail _ (List.mem_append_right _ m0)))) ?_
      rintro vg _ ⟨r2, mq, hr2, rfl, hgot0⟩
      obtain ⟨k6, x6, i6, s6, p6, n6, c6, q6, o6, e6, rfl, hgot⟩ := Got.form hgot0
      refine d_takeW 4 rfl (by kernel_rfl) (by kernel_rfl) (by kernel_rfl) rfl (fun _ => qv_move rfl) ?_
      refine d_takeW 5 rfl (by kernel_rfl) (by kernel_rfl) (by kernel_rfl) rfl (fun _ => qv_extract rfl rfl) ?_
      refine d_takeW 6 rfl (by kernel_rfl) (by kernel_rfl) (by kernel_rfl) rfl (fun _ => qv_extract rfl rfl) ?_
      refine d_to (M' := (b12, .cells (dCells 0 false 0 [] nilS nilS) 32 (0, 0)) :: (mq ++ (Y ++ ((b7, .cells (iCells c.name ki xi ii si (.slice ai1 bi1 ci1) (.slice ai2 bi2 ci2) (.slice ai3 bi3 ci3)) 51 (0, 0)) :: (m1' ++ (m2' ++ mn)))))) (fun f => by simp only [List.map_cons, List.sum_cons, List.map_append, List.sum_append, List.cons_append]; omega) ?_
      refine d_run0 8 rfl (by kernel_rfl) (iv_storeA (i := 0) (b := b12) (vs := (dCells k6 x6 i6 s6 (.slice p6 n6 c6) (.slice q6 o6 e6))) rfl rfl all_dCells Try.sizeOf32 rfl rfl) (fun _ _ _ h => by cases h) ?_
      rintro _ _ rfl
      refine d_takeW 9 rfl (by kernel_rfl) (by kernel_rfl) (by kernel_rfl) rfl (fun _ => qv_assign rfl) ?_
      refine d_done (by kernel_rfl) ?_
      exact e_mid (L' := [(2, .bool mg), (7, ptr b7), (9, ptr bn), (10, ptr bw), (11, .bool r.isSome), (12, ptr b12), (13, .bool (Option.isSome r2))]) ⟨rfl, rfl, rfl, rfl, rfl, rfl, rfl, trivial⟩ ⟨b12, k6, x6, i6, s6, p6, n6, c6, q6, o6, e6, r2, mq, rfl, hr2, hgot, rfl⟩
  · rintro _ _ ⟨b12, k6, x6, i6, s6, p6, n6, c6, q6, o6, e6, r2, mq, rfl, hr2, hgot, rfl⟩
    refine c_cut (fun L' M' => ∃ b12 k6 x6 i6 s6 p6 n6 c6 q6 o6 e6 r2 mq, L' = [(2, .bool mg), (7, ptr b7), (9, ptr bn), (10, ptr bw), (11, .bool r.isSome), (12, ptr b12), (13, .bool (Option.isSome r2))] ∧ ChartR mg 2 c es r2 ∧ (∀ re, r2 = some re → ∃ n md', RepD n (.tab re) (.agg (dCells k6 x6 i6 s6 (.slice p6 n6 c6) (.slice q6 o6 e6))) md' ∧ ∀ x, x ∈ md' → x ∈ mq) ∧ M' = (b12, .cells (dCells k6 x6 i6 s6 (.slice p6 n6 c6) (.slice q6 o6 e6)) 32 (0, 0)) :: (mq ++ (Y ++ ((b7, .cells (iCells c.name ki xi ii si (.slice ai1 bi1 ci1) (.slice ai2 bi2 ci2) (.slice ai3 bi3 ci3)) 51 (0, 0)) :: (m1' ++ (m2' ++ mn)))))) ?_ ?_
    · refine c_seq ?_
      refine c_region ?_
      refine g_q (qv_move rfl) rfl ?_
      refine g_nil ?_
      refine e_seq ?_
      refine c_cond rfl (fun hc => ?_) (fun hc => ?_)
      · refine c_draw [(b7, .cells (iCells c.name ki xi ii si (.slice ai1 bi1 ci1) (.slice ai2 bi2 ci2) (.slice ai3 bi3 ci3)) 51 (0, 0))] (fun i => !(i == 7)) Try.mixed ?_
        refine d_take 0 rfl (by kernel_rfl) (by kernel_rfl) (by kernel_rfl) (by kernel_rfl) rfl (qv_loadA (vs := (iCells c.name ki xi ii si (.slice ai1 bi1 ci1) (.slice ai2 bi2 ci2) (.slice ai3 bi3 ci3)).toList) rfl Try.isAgg51 Try.sizeOf51 m0 (fun _ _ h => by simpa using h)) (fun z hz => by rw [List.mem_singleton.1 hz]; exact (.tail _ (List.mem_append_right _ (List.mem_append_right _ m0)))) ?_
        refine d_takeW 1 rfl (by kernel_rfl) (by kernel_rfl) (by kernel_rfl) rfl (fun _ => qv_move rfl) ?_
        refine d_run 2 rfl (by kernel_rfl) rfl (iv_call (vs := [ptr bn]) Try.call12 ⟨rfl, trivial⟩ (of_any 3 (.tab es) (ptr bn) mn _ hrn (fun x hx => (.tail _ (List.mem_append_right _ (List.mem_append_right _ (.tail _ (List.mem_append_right _ (List.mem_append_right _ hx))))))))) (by rintro _ _ ⟨_, _, rfl⟩ _ z hz; rw [List.mem_singleton.1 hz]; exact List.mem_append_left _ (.tail _ (List.mem_append_right _ (List.mem_append_right _ m0)))) ?_
        rintro dv _ ⟨mdv, hdv, rfl⟩
        refine d_run 3 rfl (by kernel_rfl) rfl (iv_call (vs := [.agg (iCells c.name ki xi ii si (.slice ai1 bi1 ci1) (.slice ai2 bi2 ci2) (.slice ai3 bi3 ci3)), dv]) Try.call24 ⟨rfl, rfl, trivial⟩ (implVals24_any 2 (by decide) c _ m1' es dv mdv _ hri (fun x hx => List.mem_append_left _ (.tail _ (List.mem_append_right _ (List.mem_append_right _ (.tail _ (List.mem_append_left _ hx)))))) hwf hdv (fun x hx => List.mem_append_right _ hx))) (by rintro _ _ ⟨_, _, _, rfl, _⟩ _ z hz; rw [List.mem_singleton.1 hz]; exact List.mem_append_left _ (List.mem_append_left _ (.tail _ (List.mem_append_right _ (List.mem_append_right _ m0))))) ?_
        rintro vg _ ⟨r3, mq3, hr3, rfl, hgot0⟩
        obtain ⟨k8, x8, i8, s8, p8, n8, c8, q8, o8, e8, rfl, hgot3⟩ := Got.form hgot0
        refine d_takeW 4 rfl (by kernel_rfl) (by kernel_rfl) (by kernel_rfl) rfl (fun _ => qv_move rfl) ?_
        refine d_takeW 5 rfl (by kernel_rfl) (by kernel_rfl) (by kernel_rfl) rfl (fun _ => qv_extract rfl rfl) ?_
        refine d_takeW 6 rfl (by kernel_rfl) (by kernel_rfl) (by kernel_rfl) rfl (fun _ => qv_extract rfl rfl) ?_
        refine d_to (M' := (b12, .cells (dCells k6 x6 i6 s6 (.slice p6 n6 c6) (.slice q6 o6 e6)) 32 (0, 0)) :: (mq3 ++ (Y ++ ((b7, .cells (iCells c.name ki xi ii si (.slice ai1 bi1 ci1) (.slice ai2 bi2 ci2) (.slice ai3 bi3 ci3)) 51 (0, 0)) :: (m1' ++ (m2' ++ mn)))))) (fun f => by simp only [List.map_cons, List.sum_cons, List.map_append, List.sum_append, List.cons_append]; omega) ?_
        refine d_run0 7 rfl (by kernel_rfl) (iv_storeA (i := 0) (b := b12) (vs := (dCells k8 x8 i8 s8 (.slice p8 n8 c8) (.slice q8 o8 e8))) rfl rfl all_dCells Try.sizeOf32 rfl rfl) (fun _ _ _ h => by cases h) ?_
        rintro _ _ rfl
        refine d_takeW 8 rfl (by kernel_rfl) (by kernel_rfl) (by kernel_rfl) rfl (fun _ => qv_assign rfl) ?_
        refine d_done (by kernel_rfl) ?_
        exact e_mid (L' := [(2, .bool mg), (7, ptr b7), (9, ptr bn), (10, ptr bw), (11, .bool r.isSome), (12, ptr b12), (13, .bool (Option.isSome r3))]) ⟨rfl, rfl, rfl, rfl, rfl, rfl, rfl, trivial⟩ ⟨b12, k8, x8, i8, s8, p8, n8, c8, q8, o8, e8, r3, mq3, rfl, by rw [hc]; exact hr3, hgot3, rfl⟩
      · refine c_skip ?_
        exact e_mid (L' := [(2, .bool mg), (7, ptr b7), (9, ptr bn), (10, ptr bw), (11, .bool r.isSome), (12, ptr b12), (13, .bool (Option.isSome r2))]) ⟨rfl, rfl, rfl, rfl, rfl, rfl, rfl, trivial⟩ ⟨b12, k6, x6, i6, s6, p6, n6, c6, q6, o6, e6, r2, mq, rfl, by rw [hc]; exact hr2, hgot, rfl⟩
    · rintro _ _ ⟨b12, k6, x6, i6, s6, p6, n6, c6, q6, o6, e6, r2, mq, rfl, hr2, hgot, rfl⟩
      obtain rfl : r2 = r := ChartR.det 2 c es r2 r hr2 hr
      refine c_seq ?_
      refine c_seq ?_
      refine c_region ?_
      refine g_q (qv_move rfl) rfl ?_
      refine g_q (qv_not rfl) rfl ?_
      refine g_nil ?_
      refine e_seq ?_
      cases r2 with
      | none =>
        refine c_true rfl ?_
        refine c_seq ?_
        refine c_region ?_
        refine g_q (qv_move rfl) rfl ?_
        refine g_q (qv_not rfl) rfl ?_
        refine g_q (qv_assign rfl) rfl ?_
        refine g_nil ?_
        refine e_seq ?_
        refine c_ret ?_
        refine e_ret_then ?_
        exact e_ret1 (.inl rfl) Try.results7 rfl rfl
      | some re =>
        obtain ⟨n3, md3, hd3, hm3⟩ := hgot re rfl
        obtain ⟨n4, hs4⟩ := hY re rfl
        refine c_false rfl ?_
        refine c_skip ?_
        refine e_seq ?_
        refine c_seq ?_
        refine c_region ?_
        refine g_q (qv_move rfl) rfl ?_
        refine g_q (qv_move rfl) rfl ?_
        refine g_on rfl rfl ?_
        refine g_q (qv_loadA (vs := (dCells k6 x6 i6 s6 (.slice p6 n6 c6) (.slice q6 o6 e6)).toList) rfl Try.isAgg32 Try.sizeOf32 m0 (fun _ _ h => by simpa using h)) rfl ?_
        refine g_on rfl rfl ?_
        refine g_q (qv_move rfl) rfl ?_
        refine g_on rfl rfl ?_
        refine g_i (iv_call (vs := [.agg (dCells k6 x6 i6 s6 (.slice p6 n6 c6) (.slice q6 o6 e6)), ptr bw]) Try.call14 ⟨rfl, rfl, trivial⟩ (is_any n3 n4 (.tab re) _ _ md3 Y _ hd3 hs4 (fun x hx => .tail _ (List.mem_append_left _ (hm3 x hx))) (fun x hx => .tail _ (List.mem_append_right _ (List.mem_append_left _ hx))))) rfl ?_
        rintro _ _ ⟨rfl, m9, rfl⟩
        refine g_q (qv_pick_t rfl rfl) rfl ?_
        refine g_q (qv_assign rfl) rfl ?_
        refine g_nil ?_
        refine e_seq ?_
        refine c_ret ?_
        exact e_ret1 (.inl rfl) Try.results7 rfl rfl

end Go.Proofs.Ytnnclcfklbeocaa

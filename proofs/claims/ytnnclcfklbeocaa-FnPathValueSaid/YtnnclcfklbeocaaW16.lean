/-
  The walks, part 16: laws.FnTables: the law answers true.
  Conditions: the numbers came in as arguments.
-/
import Derived.Test.YtnnclcfklbeocaaW15
namespace Go.Proofs.Ytnnclcfklbeocaa
open Go.RowKit

variable {W0 : World}

theorem fnTables_any (lv1 lv2 : Value) (xs1 xs2 : List Int) (mg : Bool) (M : Heap) (hl1 : ArgL W0 lv1 xs1) (hl2 : ArgL W0 lv2 xs2) : Tri Try.prog W0 5 [lv1, lv2, .bool mg] M fun v _ => v = .bool true := by
  obtain ⟨pl1, cl1, rfl⟩ : ∃ p c, lv1 = .slice p xs1.length c := by
    obtain ⟨p, c, h, _⟩ := hl1.form
    exact ⟨p, c, h⟩
  obtain ⟨pl2, cl2, rfl⟩ : ∃ p c, lv2 = .slice p xs2.length c := by
    obtain ⟨p, c, h, _⟩ := hl2.form
    exact ⟨p, c, h⟩
  refine tri_of 66 Try.func5 rfl Try.ntmps5 (Nat.le_of_ble_eq_true rfl) ?_
  refine c_seq ?_
  refine c_region ?_   -- region 0
  refine g_q (qv_assign rfl) rfl ?_
  refine g_nil ?_
  refine e_seq ?_
  refine c_seq ?_
  refine c_seq ?_
  refine c_region ?_   -- region 1
  refine g_q (qv_move rfl) rfl ?_
  refine g_q (qv_len_slice rfl Try.runUnderlying22) rfl ?_
  rcases Decidable.em ((2147483647 : Int) < (xs1.length : Int)) with hlt | hlt
  · refine g_q (QV.to (qv_gtr rfl rfl) (congrArg Value.bool (decide_eq_true hlt))) rfl ?_
    refine g_q (qv_move rfl) rfl ?_
    refine g_off rfl rfl rfl rfl ?_
    refine g_off rfl rfl rfl rfl ?_
    refine g_off rfl rfl rfl rfl ?_
    refine g_q (qv_pick_t rfl rfl) rfl ?_
    refine g_nil ?_
    refine e_seq ?_
    refine c_true rfl ?_
    refine c_seq ?_
    refine c_region ?_   -- region 2
    refine g_q (qv_assign rfl) rfl ?_
    refine g_nil ?_
    refine e_seq ?_
    refine c_ret ?_
    refine e_ret_then (?_)
    exact e_ret1 (.inl rfl) Try.results5 rfl rfl
  refine g_q (QV.to (qv_gtr rfl rfl) (congrArg Value.bool (decide_eq_false hlt))) rfl ?_
  refine g_q (qv_move rfl) rfl ?_
  -- GUARD ['3', 'Bool.false']: refine g_on rfl rfl ?_ | g_off rfl rfl rfl rfl ?_
  refine g_on rfl rfl ?_
  refine g_q (qv_move rfl) rfl ?_
  -- GUARD ['3', 'Bool.false']: refine g_on rfl rfl ?_ | g_off rfl rfl rfl rfl ?_
  refine g_on rfl rfl ?_
  refine g_q (qv_len_slice rfl Try.runUnderlying22) rfl ?_
  -- GUARD ['3', 'Bool.false']: refine g_on rfl rfl ?_ | g_off rfl rfl rfl rfl ?_
  refine g_on rfl rfl ?_
  refine g_q (qv_gtr rfl rfl) rfl ?_
  refine g_q (qv_pick_f rfl rfl) rfl ?_
  refine g_nil ?_
  refine e_seq ?_
  refine c_cond rfl (fun hc => ?_) (fun hc => ?_)   -- t20
  · -- true
    refine c_seq ?_
    refine c_region ?_   -- region 2
    refine g_q (qv_assign rfl) rfl ?_
    refine g_nil ?_
    refine e_seq ?_
    refine c_ret ?_
    refine e_ret_then (?_)
    exact e_ret1 (.inl rfl) Try.results5 rfl rfl
  · -- false
    refine c_skip ?_
    refine e_seq ?_
    refine c_seq ?_
    refine c_seq ?_
    refine c_region ?_   -- region 3
    refine g_q (qv_move rfl) rfl ?_
    refine g_q (qv_len_slice rfl Try.runUnderlying22) rfl ?_
    rcases Decidable.em ((1000 : Int) < (xs1.length : Int)) with hlt | hlt
    · refine g_q (QV.to (qv_gtr rfl rfl) (congrArg Value.bool (decide_eq_true hlt))) rfl ?_
      refine g_q (qv_move rfl) rfl ?_
      refine g_off rfl rfl rfl rfl ?_
      refine g_off rfl rfl rfl rfl ?_
      refine g_off rfl rfl rfl rfl ?_
      refine g_q (qv_pick_t rfl rfl) rfl ?_
      refine g_nil ?_
      refine e_seq ?_
      refine c_true rfl ?_
      refine c_seq ?_
      refine c_region ?_   -- region 4
      refine g_q (qv_assign rfl) rfl ?_
      refine g_nil ?_
      refine e_seq ?_
      refine c_ret ?_
      refine e_ret_then (?_)
      exact e_ret1 (.inl rfl) Try.results5 rfl rfl
    refine g_q (QV.to (qv_gtr rfl rfl) (congrArg Value.bool (decide_eq_false hlt))) rfl ?_
    refine g_q (qv_move rfl) rfl ?_
    -- GUARD ['3', 'Bool.false']: refine g_on rfl rfl ?_ | g_off rfl rfl rfl rfl ?_
    refine g_on rfl rfl ?_
    refine g_q (qv_move rfl) rfl ?_
    -- GUARD ['3', 'Bool.false']: refine g_on rfl rfl ?_ | g_off rfl rfl rfl rfl ?_
    refine g_on rfl rfl ?_
    refine g_q (qv_len_slice rfl Try.runUnderlying22) rfl ?_
    -- GUARD ['3', 'Bool.false']: refine g_on rfl rfl ?_ | g_off rfl rfl rfl rfl ?_
    refine g_on rfl rfl ?_
    refine g_q (qv_gtr rfl rfl) rfl ?_
    refine g_q (qv_pick_f rfl rfl) rfl ?_
    refine g_nil ?_
    refine e_seq ?_
    refine c_cond rfl (fun hc => ?_) (fun hc => ?_)   -- t28
    · -- true
      refine c_seq ?_
      refine c_region ?_   -- region 4
      refine g_q (qv_assign rfl) rfl ?_
      refine g_nil ?_
      refine e_seq ?_
      refine c_ret ?_
      refine e_ret_then (?_)
      exact e_ret1 (.inl rfl) Try.results5 rfl rfl
    · -- false
      refine c_skip ?_
      refine e_seq ?_
      refine c_seq ?_
      refine c_region ?_   -- region 5
      refine g_q (qv_move rfl) rfl ?_
      refine g_i (iv_call (vs := [.slice pl1 xs1.length cl1]) Try.call8 ⟨rfl, trivial⟩ (numbers_any _ xs1 M hl1)) rfl ?_
      rintro u1 _ ⟨es1, mu1, hu1, rfl⟩
      refine g_q (qv_move rfl) rfl ?_
      refine g_i (iv_call (vs := [.slice pl2 xs2.length cl2]) Try.call8 ⟨rfl, trivial⟩ (numbers_any _ xs2 _ hl2)) rfl ?_
      rintro u2 _ ⟨es2, mu2, hu2, rfl⟩
      refine g_q (qv_assign rfl) rfl ?_
      refine g_q (qv_assign rfl) rfl ?_
      refine g_nil ?_
      refine e_seq ?_
      refine c_seq ?_
      refine c_seq ?_
      refine c_region ?_   -- region 6
      refine g_q (qv_move rfl) rfl ?_
      refine g_nil ?_
      refine e_seq ?_
      refine c_cond rfl (fun hc => ?_) (fun hc => ?_)   -- t33
      · -- true
        refine c_seq ?_
        refine c_region ?_   -- region 7
        have hc' : mg = true := hc
        subst hc'
        refine g_q (qv_move rfl) rfl ?_
        refine g_i (iv_call (vs := [u1]) Try.call12 ⟨rfl, trivial⟩ (of_any 3 (.tab es1) u1 mu1 _ hu1 (fun x hx => by simp [hx]))) rfl ?_
        rintro d1 _ ⟨md1, hd1, rfl⟩
        refine g_q (qv_move rfl) rfl ?_
        refine g_i (iv_call (vs := [u2]) Try.call12 ⟨rfl, trivial⟩ (of_any 3 (.tab es2) u2 mu2 _ hu2 (fun x hx => by simp [hx]))) rfl ?_
        rintro d2 _ ⟨md2, hd2, rfl⟩
        refine g_i (iv_call (vs := [d1, d2]) Try.call17 ⟨rfl, rfl, trivial⟩ (implCoal17_any 3 (by decide) es1 es2 d1 d2 md1 md2 _ hd1 hd2 (fun x hx => by simp [hx]) (fun x hx => by simp [hx]))) rfl ?_
        rintro _ _ ⟨d3, re, m3', mm3, rfl, hd3, hok3, hco3, rfl, hm3⟩
        obtain ⟨k3, x3, i3, s3, p3, n3, c3, q3, o3, e3, rfl⟩ := hd3.agg
        refine g_q (qv_move rfl) rfl ?_
        refine g_q (qv_extract rfl rfl) rfl ?_
        refine g_q (qv_extract rfl rfl) rfl ?_
        refine g_i (iv_allocA Try.zeroValue32) rfl ?_
        rintro _ _ ⟨b9, rfl, rfl⟩
        refine g_i0 (iv_storeA (i := 0) (b := b9) (vs := (dCells k3 x3 i3 s3 (.slice p3 n3 c3) (.slice q3 o3 e3))) rfl rfl all_dCells Try.sizeOf32 rfl rfl) ?_
        rintro _ _ rfl
        refine g_q (qv_assign rfl) rfl ?_
        refine g_nil ?_
        refine e_seq ?_
        refine c_seq ?_
        refine c_drawM (fun _ => true) Try.mixed ?_
        refine d_takeW 0 rfl (by kernel_rfl) (by kernel_rfl) (by kernel_rfl) rfl (fun _ => qv_move rfl) ?_
        refine d_takeW 1 rfl (by kernel_rfl) (by kernel_rfl) (by kernel_rfl) rfl (fun _ => qv_move rfl) ?_
        -- GUARD ['1', 'Bool.true']: refine g_on rfl rfl ?_ | g_off rfl rfl rfl rfl ?_
        refine d_take_on 2 rfl rfl rfl (by kernel_rfl) (by kernel_rfl) (by kernel_rfl) (by kernel_rfl) rfl (qv_loadA (vs := (dCells k3 x3 i3 s3 (.slice p3 n3 c3) (.slice q3 o3 e3)).toList) rfl Try.isAgg32 Try.sizeOf32 m0 (fun _ _ h => by simpa using h)) (fun _ h => h) ?_
        -- GUARD ['1', 'Bool.true']: refine g_on rfl rfl ?_ | g_off rfl rfl rfl rfl ?_
        refine d_takeW_on 3 rfl rfl rfl (by kernel_rfl) (by kernel_rfl) (by kernel_rfl) rfl (fun _ => qv_move rfl) ?_
        -- GUARD ['1', 'Bool.true']: refine g_on rfl rfl ?_ | g_off rfl rfl rfl rfl ?_
        refine d_takeW_on 4 rfl rfl rfl (by kernel_rfl) (by kernel_rfl) (by kernel_rfl) rfl (fun _ => qv_move rfl) ?_
        -- GUARD ['1', 'Bool.true']: refine g_on rfl rfl ?_ | g_off rfl rfl rfl rfl ?_
        refine d_run_on 5 rfl rfl rfl (by kernel_rfl) rfl (iv_call (vs := [u1, u2, .bool true]) Try.call18 ⟨rfl, rfl, rfl, trivial⟩ (coalesced_any 3 es1 es2 u1 u2 mu1 mu2 true _ hu1 hu2 (fun x hx => by simp [hx]) (fun x hx => by simp [hx]))) (by rintro _ _ ⟨_, m', _, _, rfl⟩ _ x hx; exact List.mem_append_left _ hx) ?_
        rintro v4 _ ⟨re4, m4', hv4, hco4, rfl⟩
        obtain rfl : re4 = re := Coal.det hv4.ok hok3 hco4 hco3
        -- GUARD ['1', 'Bool.true']: refine g_on rfl rfl ?_ | g_off rfl rfl rfl rfl ?_
        refine d_run_on 6 rfl rfl rfl (by kernel_rfl) rfl (iv_call (vs := [.agg (dCells k3 x3 i3 s3 (.slice p3 n3 c3) (.slice q3 o3 e3)), v4]) Try.call14 ⟨rfl, rfl, trivial⟩ (is_any 3 3 (.tab _) _ _ m3' m4' _ hd3 hv4 (fun x hx => by simp [hm3 x hx]) (fun x hx => by simp [hx]))) (by rintro _ _ ⟨_, m', rfl⟩ _ x hx; exact List.mem_append_left _ (List.mem_append_left _ hx)) ?_
        rintro _ _ ⟨rfl, m9, rfl⟩
        refine d_takeW 7 rfl (by kernel_rfl) (by kernel_rfl) (by kernel_rfl) rfl (fun _ => qv_pick_t rfl rfl) ?_
        refine d_takeW 8 rfl (by kernel_rfl) (by kernel_rfl) (by kernel_rfl) rfl (fun _ => qv_assign rfl) ?_
        refine d_done (by kernel_rfl) ?_
        refine e_seq ?_
        refine c_ret ?_
        refine e_ret_then (?_)
        exact e_ret1 (.inl rfl) Try.results5 rfl rfl
      · -- false
        refine c_skip ?_
        refine e_seq ?_
        refine c_seq ?_
        refine c_region ?_   -- region 9
        have hc' : mg = false := hc
        subst hc'
        refine g_q (qv_move rfl) rfl ?_
        refine g_i (iv_call (vs := [u1]) Try.call12 ⟨rfl, trivial⟩ (of_any 3 (.tab es1) u1 mu1 _ hu1 (fun x hx => by simp [hx]))) rfl ?_
        rintro d1 _ ⟨md1, hd1, rfl⟩
        refine g_q (qv_move rfl) rfl ?_
        refine g_i (iv_call (vs := [u2]) Try.call12 ⟨rfl, trivial⟩ (of_any 3 (.tab es2) u2 mu2 _ hu2 (fun x hx => by simp [hx]))) rfl ?_
        rintro d2 _ ⟨md2, hd2, rfl⟩
        refine g_i (iv_call (vs := [d1, d2]) Try.call15 ⟨rfl, rfl, trivial⟩ (implCoal15_any 3 (by decide) es1 es2 d1 d2 md1 md2 _ hd1 hd2 (fun x hx => by simp [hx]) (fun x hx => by simp [hx]))) rfl ?_
        rintro _ _ ⟨d3, re, m3', mm3, rfl, hd3, hok3, hco3, rfl, hm3⟩
        obtain ⟨k3, x3, i3, s3, p3, n3, c3, q3, o3, e3, rfl⟩ := hd3.agg
        refine g_q (qv_move rfl) rfl ?_
        refine g_q (qv_extract rfl rfl) rfl ?_
        refine g_q (qv_extract rfl rfl) rfl ?_
        refine g_i (iv_allocA Try.zeroValue32) rfl ?_
        rintro _ _ ⟨b9, rfl, rfl⟩
        refine g_i0 (iv_storeA (i := 0) (b := b9) (vs := (dCells k3 x3 i3 s3 (.slice p3 n3 c3) (.slice q3 o3 e3))) rfl rfl all_dCells Try.sizeOf32 rfl rfl) ?_
        rintro _ _ rfl
        refine g_q (qv_assign rfl) rfl ?_
        refine g_nil ?_
        refine e_seq ?_
        refine c_seq ?_
        refine c_drawM (fun _ => true) Try.mixed ?_
        refine d_takeW 0 rfl (by kernel_rfl) (by kernel_rfl) (by kernel_rfl) rfl (fun _ => qv_move rfl) ?_
        refine d_takeW 1 rfl (by kernel_rfl) (by kernel_rfl) (by kernel_rfl) rfl (fun _ => qv_move rfl) ?_
        -- GUARD ['1', 'Bool.true']: refine g_on rfl rfl ?_ | g_off rfl rfl rfl rfl ?_
        refine d_take_on 2 rfl rfl rfl (by kernel_rfl) (by kernel_rfl) (by kernel_rfl) (by kernel_rfl) rfl (qv_loadA (vs := (dCells k3 x3 i3 s3 (.slice p3 n3 c3) (.slice q3 o3 e3)).toList) rfl Try.isAgg32 Try.sizeOf32 m0 (fun _ _ h => by simpa using h)) (fun _ h => h) ?_
        -- GUARD ['1', 'Bool.true']: refine g_on rfl rfl ?_ | g_off rfl rfl rfl rfl ?_
        refine d_takeW_on 3 rfl rfl rfl (by kernel_rfl) (by kernel_rfl) (by kernel_rfl) rfl (fun _ => qv_move rfl) ?_
        -- GUARD ['1', 'Bool.true']: refine g_on rfl rfl ?_ | g_off rfl rfl rfl rfl ?_
        refine d_takeW_on 4 rfl rfl rfl (by kernel_rfl) (by kernel_rfl) (by kernel_rfl) rfl (fun _ => qv_move rfl) ?_
        -- GUARD ['1', 'Bool.true']: refine g_on rfl rfl ?_ | g_off rfl rfl rfl rfl ?_
        refine d_run_on 5 rfl rfl rfl (by kernel_rfl) rfl (iv_call (vs := [u1, u2, .bool false]) Try.call18 ⟨rfl, rfl, rfl, trivial⟩ (coalesced_any 3 es1 es2 u1 u2 mu1 mu2 false _ hu1 hu2 (fun x hx => by simp [hx]) (fun x hx => by simp [hx]))) (by rintro _ _ ⟨_, m', _, _, rfl⟩ _ x hx; exact List.mem_append_left _ hx) ?_
        rintro v4 _ ⟨re4, m4', hv4, hco4, rfl⟩
        obtain rfl : re4 = re := Coal.det hv4.ok hok3 hco4 hco3
        -- GUARD ['1', 'Bool.true']: refine g_on rfl rfl ?_ | g_off rfl rfl rfl rfl ?_
        refine d_run_on 6 rfl rfl rfl (by kernel_rfl) rfl (iv_call (vs := [.agg (dCells k3 x3 i3 s3 (.slice p3 n3 c3) (.slice q3 o3 e3)), v4]) Try.call14 ⟨rfl, rfl, trivial⟩ (is_any 3 3 (.tab _) _ _ m3' m4' _ hd3 hv4 (fun x hx => by simp [hm3 x hx]) (fun x hx => by simp [hx]))) (by rintro _ _ ⟨_, m', rfl⟩ _ x hx; exact List.mem_append_left _ (List.mem_append_left _ hx)) ?_
        rintro _ _ ⟨rfl, m9, rfl⟩
        refine d_takeW 7 rfl (by kernel_rfl) (by kernel_rfl) (by kernel_rfl) rfl (fun _ => qv_pick_t rfl rfl) ?_
        refine d_takeW 8 rfl (by kernel_rfl) (by kernel_rfl) (by kernel_rfl) rfl (fun _ => qv_assign rfl) ?_
        refine d_done (by kernel_rfl) ?_
        refine e_seq ?_
        refine c_ret ?_
        refine ?_
        exact e_ret1 (.inl rfl) Try.results5 rfl rfl
end Go.Proofs.Ytnnclcfklbeocaa

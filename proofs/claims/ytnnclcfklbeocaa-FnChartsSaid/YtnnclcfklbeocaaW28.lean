/-
  The walks, part 28: CoalesceValues and MergeValues, the package's and impl's.
  Conditions: the chart and the values lie as RepH, RepI, RepA, RepD say.
-/
import Derived.Test.YtnnclcfklbeocaaW27
namespace Go.Proofs.Ytnnclcfklbeocaa
open Go.RowKit

variable {W0 : World}

theorem dok_of_hg {es : List (Key × T)} (h : Hg 3 (.tab es)) : Dok 2 es := fun k t hk => by
  rw [ite_self]
  exact h.look hk

theorem vals35_any (nh : Nat) (hnh : nh ≤ 20) (c : Ch) (b : Nat) (mh : Heap) (es : List (Key × T)) (rm : Nat) (ma M : Heap) (hc : RepH nh c #[ptr b] mh) (hmh : ∀ x, x ∈ mh → x ∈ M) (hwf : CWf nh c) (ha : RepA 3 (.tab es) (.iface 63 (.map (some rm))) ma) (hma : ∀ x, x ∈ ma → x ∈ M) :
    Tri Try.prog W0 35 [ptr b, .map (some rm)] M fun v M' => ∃ r r2, ChartR false nh c es r ∧ Ans [] r2 M v M' r := by
  refine tri_of 22 Try.func35 rfl Try.ntmps35 (Nat.le_of_ble_eq_true rfl) ?_
  refine c_seq ?_
  refine c_region ?_   -- region 0
  refine g_q (qv_assign rfl) rfl ?_
  refine g_q (qv_assign rfl) rfl ?_
  refine g_nil ?_
  refine e_seq ?_
  refine c_seq ?_
  refine c_region ?_   -- region 1
  refine g_q (qv_move rfl) rfl ?_
  refine g_i (iv_call (vs := [.map (some rm)]) Try.call48 ⟨rfl, trivial⟩ (copyValues_any 3 es rm ma M ha hma)) rfl ?_
  rintro _ _ ⟨r2, m1', rfl, hr1, rfl⟩
  refine g_q (qv_move rfl) rfl ?_
  refine g_q (qv_extract rfl rfl) rfl ?_
  refine g_q (qv_extract rfl rfl) rfl ?_
  refine g_q (qv_assign rfl) rfl ?_
  refine g_q (qv_assign rfl) rfl ?_
  refine g_nil ?_
  refine e_seq ?_
  refine c_seq ?_
  refine c_seq ?_
  refine c_region ?_   -- region 2
  refine g_q (qv_move rfl) rfl ?_
  refine g_q (qv_nen Try.runUnderlying68 rfl (Or.inl rfl)) rfl ?_
  refine g_nil ?_
  refine e_seq ?_
  refine c_false rfl ?_   -- t14
  refine c_skip ?_
  refine e_seq ?_
  refine c_seq ?_
  refine c_region ?_   -- region 4
  refine g_q (qv_move rfl) rfl ?_
  refine g_q (qv_move rfl) rfl ?_
  refine g_to (M' := m1' ++ M) (fun f => by simp <;> omega) ?_
  refine g_i (iv_call (vs := [.func (.func 44) #[] #[], ptr b, .map (some r2), str [], .bool false]) Try.call49 ⟨rfl, rfl, rfl, rfl, rfl, trivial⟩ (chart_any nh c b mh [] 3 es r2 m1' M [] false hc hmh hwf (hr1.toX [] .V) (dok_of_hg hr1.hg) (by simp only [List.length_nil]; omega))) rfl ?_
  rintro v3 _ ⟨r3, hr3, hans⟩
  have hshape : ∃ x y, v3 = .tuple #[x, y] := by
    cases r3 with
    | none => obtain ⟨⟨x, T3, u, h⟩, _⟩ := hans; exact ⟨_, _, h⟩
    | some re => exact ⟨_, _, hans.1⟩
  obtain ⟨x3, y3, rfl⟩ := hshape
  refine g_q (qv_extract rfl rfl) rfl ?_
  refine g_q (qv_extract rfl rfl) rfl ?_
  refine g_q (qv_assign rfl) rfl ?_
  refine g_q (qv_assign rfl) rfl ?_
  refine g_nil ?_
  refine e_seq ?_
  refine c_ret ?_
  refine ?_
  exact e_ret2 (.inl rfl) Try.results35 rfl rfl ⟨r3, r2, hr3, hans⟩
theorem vals36_any (nh : Nat) (hnh : nh ≤ 20) (c : Ch) (b : Nat) (mh : Heap) (es : List (Key × T)) (rm : Nat) (ma M : Heap) (hc : RepH nh c #[ptr b] mh) (hmh : ∀ x, x ∈ mh → x ∈ M) (hwf : CWf nh c) (ha : RepA 3 (.tab es) (.iface 63 (.map (some rm))) ma) (hma : ∀ x, x ∈ ma → x ∈ M) :
    Tri Try.prog W0 36 [ptr b, .map (some rm)] M fun v M' => ∃ r r2, ChartR true nh c es r ∧ Ans [] r2 M v M' r := by
  refine tri_of 22 Try.func36 rfl Try.ntmps36 (Nat.le_of_ble_eq_true rfl) ?_
  refine c_seq ?_
  refine c_region ?_   -- region 0
  refine g_q (qv_assign rfl) rfl ?_
  refine g_q (qv_assign rfl) rfl ?_
  refine g_nil ?_
  refine e_seq ?_
  refine c_seq ?_
  refine c_region ?_   -- region 1
  refine g_q (qv_move rfl) rfl ?_
  refine g_i (iv_call (vs := [.map (some rm)]) Try.call48 ⟨rfl, trivial⟩ (copyValues_any 3 es rm ma M ha hma)) rfl ?_
  rintro _ _ ⟨r2, m1', rfl, hr1, rfl⟩
  refine g_q (qv_move rfl) rfl ?_
  refine g_q (qv_extract rfl rfl) rfl ?_
  refine g_q (qv_extract rfl rfl) rfl ?_
  refine g_q (qv_assign rfl) rfl ?_
  refine g_q (qv_assign rfl) rfl ?_
  refine g_nil ?_
  refine e_seq ?_
  refine c_seq ?_
  refine c_seq ?_
  refine c_region ?_   -- region 2
  refine g_q (qv_move rfl) rfl ?_
  refine g_q (qv_nen Try.runUnderlying68 rfl (Or.inl rfl)) rfl ?_
  refine g_nil ?_
  refine e_seq ?_
  refine c_false rfl ?_   -- t14
  refine c_skip ?_
  refine e_seq ?_
  refine c_seq ?_
  refine c_region ?_   -- region 4
  refine g_q (qv_move rfl) rfl ?_
  refine g_q (qv_move rfl) rfl ?_
  refine g_to (M' := m1' ++ M) (fun f => by simp <;> omega) ?_
  refine g_i (iv_call (vs := [.func (.func 44) #[] #[], ptr b, .map (some r2), str [], .bool true]) Try.call49 ⟨rfl, rfl, rfl, rfl, rfl, trivial⟩ (chart_any nh c b mh [] 3 es r2 m1' M [] true hc hmh hwf (hr1.toX [] .V) (dok_of_hg hr1.hg) (by simp only [List.length_nil]; omega))) rfl ?_
  rintro v3 _ ⟨r3, hr3, hans⟩
  have hshape : ∃ x y, v3 = .tuple #[x, y] := by
    cases r3 with
    | none => obtain ⟨⟨x, T3, u, h⟩, _⟩ := hans; exact ⟨_, _, h⟩
    | some re => exact ⟨_, _, hans.1⟩
  obtain ⟨x3, y3, rfl⟩ := hshape
  refine g_q (qv_extract rfl rfl) rfl ?_
  refine g_q (qv_extract rfl rfl) rfl ?_
  refine g_q (qv_assign rfl) rfl ?_
  refine g_q (qv_assign rfl) rfl ?_
  refine g_nil ?_
  refine e_seq ?_
  refine c_ret ?_
  refine ?_
  exact e_ret2 (.inl rfl) Try.results36 rfl rfl ⟨r3, r2, hr3, hans⟩
theorem implVals23_any (nh : Nat) (hnh : nh ≤ 20) (c : Ch) (a : Array Value) (mi : Heap) (es : List (Key × T)) (d : Value) (md M : Heap) (hc : RepI nh c a mi) (hmi : ∀ x, x ∈ mi → x ∈ M) (hwf : CWf nh c) (hd : RepD 3 (.tab es) d md) (hmd : ∀ x, x ∈ md → x ∈ M) :
    Tri Try.prog W0 23 [.agg a, d] M fun v M' => ∃ r m', ChartR false nh c es r ∧ M' = M ++ m' ∧ ((r = none ∧ v = .tuple #[.agg (dCells 0 false 0 [] nilS nilS), .bool false]) ∨ ∃ re n d' md', r = some re ∧ KeysOk re ∧ v = .tuple #[d', .bool true] ∧ RepD n (.tab re) d' md' ∧ ∀ x, x ∈ md' → x ∈ m') := by
  obtain ⟨kk, x, i, s, p1, n1, c1, p2, n2, c2, rfl⟩ := hd.agg
  obtain ⟨k0, x0, i0, s0, p3, n3, c3, p4, n4, c4, p5, n5, c5, rfl⟩ := RepI.cells hc
  refine tri_of 41 Try.func23 rfl Try.ntmps23 (Nat.le_of_ble_eq_true rfl) ?_
  refine c_seq ?_
  refine c_region ?_   -- region 0
  refine g_i (iv_boxA rfl) rfl ?_
  rintro _ _ ⟨b2, rfl, rfl⟩
  refine g_i (iv_boxA rfl) rfl ?_
  rintro _ _ ⟨b3, rfl, rfl⟩
  refine g_i (iv_allocA (z := dCells 0 false 0 [] nilS nilS) Try.zeroValue32) rfl ?_
  rintro _ _ ⟨b4, rfl, rfl⟩
  refine g_q (qv_assign rfl) rfl ?_
  refine g_nil ?_
  refine e_seq ?_
  refine c_seq ?_
  refine c_region ?_   -- region 1
  refine g_q (qv_loadA (vs := (iCells c.name k0 x0 i0 s0 (.slice p3 n3 c3) (.slice p4 n4 c4) (.slice p5 n5 c5)).toList) rfl Try.isAgg51 Try.sizeOf51 m2 (fun _ _ h => by simpa using h)) rfl ?_
  refine g_i (iv_call (vs := [.agg (iCells c.name k0 x0 i0 s0 (.slice p3 n3 c3) (.slice p4 n4 c4) (.slice p5 n5 c5)), .int .i64 0]) Try.call34 ⟨rfl, rfl, trivial⟩ (made_any nh c _ mi _ 0 hc (fun x hx => by simp [hmi x hx]) hwf (by decide) (by omega))) rfl ?_
  rintro _ _ ⟨b, mh, rfl, hrh, rfl⟩
  refine g_q (qv_move rfl) rfl ?_
  refine g_q (qv_extract rfl rfl) rfl ?_
  refine g_q (qv_extract rfl rfl) rfl ?_
  refine g_q (qv_assign rfl) rfl ?_
  refine g_q (qv_assign rfl) rfl ?_
  refine g_nil ?_
  refine e_seq ?_
  refine c_seq ?_
  refine c_region ?_   -- region 2
  refine g_q (qv_loadA (vs := (dCells kk x i s (.slice p1 n1 c1) (.slice p2 n2 c2)).toList) rfl Try.isAgg32 Try.sizeOf32 (List.mem_append_left _ m1) (fun _ _ h => by simpa using h)) rfl ?_
  refine g_i (iv_call (vs := [.agg (dCells kk x i s (.slice p1 n1 c1) (.slice p2 n2 c2))]) Try.call26 ⟨rfl, trivial⟩ (table_any 3 (by decide) es _ md _ hd (fun x hx => by simp [hmd x hx]))) rfl ?_
  rintro _ _ ⟨rm, ma, rfl, hra, rfl⟩
  refine g_q (qv_move rfl) rfl ?_
  refine g_q (qv_extract rfl rfl) rfl ?_
  refine g_q (qv_extract rfl rfl) rfl ?_
  refine g_q (qv_assign rfl) rfl ?_
  refine g_q (qv_assign rfl) rfl ?_
  refine g_nil ?_
  refine e_seq ?_
  refine c_seq ?_
  refine c_seq ?_
  refine c_region ?_   -- region 3
  refine g_q (qv_move rfl) rfl ?_
  refine g_q (qv_not rfl) rfl ?_
  refine g_q (qv_move rfl) rfl ?_
  refine g_on rfl rfl ?_
  refine g_q (qv_move rfl) rfl ?_
  refine g_on rfl rfl ?_
  refine g_q (qv_not rfl) rfl ?_
  refine g_q (qv_pick_f rfl rfl) rfl ?_
  refine g_nil ?_
  refine e_seq ?_
  refine c_false rfl ?_   -- t27
  refine c_skip ?_
  refine e_seq ?_
  refine c_seq ?_
  refine c_region ?_   -- region 5
  refine g_q (qv_move rfl) rfl ?_
  refine g_q (qv_move rfl) rfl ?_
  refine g_i (iv_call (vs := [ptr b, .map (some rm)]) Try.call35 ⟨rfl, rfl, trivial⟩ (vals35_any nh hnh c b mh es rm ma _ hrh (fun x hx => by simp [hx]) hwf hra (fun x hx => by simp [hx]))) rfl ?_
  rintro v3 M3 ⟨r3, r2, hr3, hans⟩
  have hshape : ∃ x y, v3 = .tuple #[x, y] ∧ (y = .nilIface ∨ ∃ T u, y = .iface T u) := by
    cases r3 with
    | none => obtain ⟨⟨x, T3, u, h⟩, _⟩ := hans; exact ⟨_, _, h, Or.inr ⟨_, _, rfl⟩⟩
    | some re => exact ⟨_, _, hans.1, Or.inl rfl⟩
  obtain ⟨x3, y3, rfl, hy3⟩ := hshape
  refine g_q (qv_move rfl) rfl ?_
  refine g_q (qv_extract rfl rfl) rfl ?_
  refine g_q (qv_extract rfl rfl) rfl ?_
  refine g_q (qv_assign rfl) rfl ?_
  refine g_q (qv_assign rfl) rfl ?_
  refine g_nil ?_
  refine e_seq ?_
  refine c_seq ?_
  refine c_seq ?_
  refine c_region ?_   -- region 6
  refine g_q (qv_move rfl) rfl ?_
  refine g_q (qv_nen Try.runUnderlying68 rfl hy3) rfl ?_
  refine g_nil ?_
  refine e_seq ?_
  refine c_cond rfl (fun hc => ?_) (fun hc => ?_)   -- t36
  · -- true
    refine c_seq ?_
    obtain rfl : r3 = none := by
      cases r3 with
      | none => rfl
      | some re =>
        obtain ⟨_, rfl⟩ : x3 = .map (some r2) ∧ y3 = .nilIface := by simpa using hans.1
        cases hc
    obtain ⟨_, X, rfl⟩ := hans
    refine c_to (M' := (b4, .cells (dCells 0 false 0 [] nilS nilS) 32 (0, 0)) :: M) (fun f => by simp <;> omega) ?_
    refine c_region ?_   -- region 7
    refine g_q (qv_build (vs := []) (cs := dCells 0 false 0 [] nilS nilS) lay32 trivial rfl) rfl ?_
    refine g_i0 (iv_storeA (i := 0) (b := b4) (vs := dCells 0 false 0 [] nilS nilS) rfl rfl all_dCells Try.sizeOf32 rfl rfl) ?_
    rintro _ _ rfl
    refine g_q (qv_assign rfl) rfl ?_
    refine g_nil ?_
    refine e_seq ?_
    refine c_ret ?_
    refine e_ret_then (?_)
    refine e_to (M' := M ++ [(b4, .cells (dCells 0 false 0 [] nilS nilS) 32 (0, 0))]) (fun f => by simp <;> omega) ?_
    exact e_retc2 (vs := (dCells 0 false 0 [] nilS nilS).toList) (.inl rfl) Try.results23 Try.isAgg32 Try.sizeOf32 rfl rfl (List.mem_append_right _ m0) (fun _ _ h => by simpa using h) ⟨none, _, hr3, rfl, Or.inl ⟨rfl, rfl⟩⟩
  · -- false
    refine c_skip ?_
    refine e_seq ?_
    refine c_seq ?_
    obtain ⟨re, rfl⟩ : ∃ re, r3 = some re := by
      cases r3 with
      | some re => exact ⟨re, rfl⟩
      | none =>
        obtain ⟨⟨x, T3, u, h⟩, _⟩ := hans
        obtain ⟨_, rfl⟩ : x3 = x ∧ y3 = .iface T3 u := by simpa using h
        cases hc
    obtain ⟨he, hokr, n2', N, md2, hx, rfl⟩ := hans
    obtain ⟨rfl, rfl⟩ : x3 = .map (some r2) ∧ y3 = .nilIface := by simpa using he
    obtain ⟨m5, hra5, hm5⟩ := hx.toA
    refine c_region ?_   -- region 8
    refine g_q (qv_move rfl) rfl ?_
    refine g_q (qv_iface Try.runUnderlying66 (fun _ h => by cases h) rfl) rfl ?_
    refine g_i (iv_call (vs := [.iface 66 (.map (some r2))]) Try.call28 ⟨rfl, trivial⟩ (told_values n2' re r2 m5 _ hra5 (fun x hx => (hm5 x hx).elim (fun h => List.mem_append_left _ h) (fun h => List.mem_append_right _ (List.mem_append_left _ (by simpa using h)))))) rfl ?_
    rintro d3 _ ⟨m3', hd3, rfl⟩
    obtain ⟨k6, x6, i6, s6, p6, n6, c6, q6, o6, e6, rfl⟩ := hd3.agg
    refine g_to (M' := (b4, .cells (dCells 0 false 0 [] nilS nilS) 32 (0, 0)) :: (M ++ m3')) (fun f => by simp <;> omega) ?_
    refine g_i0 (iv_storeA (i := 0) (b := b4) (vs := dCells k6 x6 i6 s6 (.slice p6 n6 c6) (.slice q6 o6 e6)) rfl rfl all_dCells Try.sizeOf32 rfl rfl) ?_
    rintro _ _ rfl
    refine g_q (qv_assign rfl) rfl ?_
    refine g_nil ?_
    refine e_seq ?_
    refine c_ret ?_
    refine ?_
    refine e_to (M' := M ++ ((b4, .cells (dCells k6 x6 i6 s6 (.slice p6 n6 c6) (.slice q6 o6 e6)) 32 (0, 0)) :: m3')) (fun f => by simp <;> omega) ?_
    exact e_retc2 (vs := (dCells k6 x6 i6 s6 (.slice p6 n6 c6) (.slice q6 o6 e6)).toList) (.inl rfl) Try.results23 Try.isAgg32 Try.sizeOf32 rfl rfl (List.mem_append_right _ m0) (fun _ _ h => by simpa using h) ⟨some re, _, hr3, rfl, Or.inr ⟨re, n2', _, m3', rfl, hokr, rfl, hd3, fun x hx => .tail _ hx⟩⟩
theorem implVals24_any (nh : Nat) (hnh : nh ≤ 20) (c : Ch) (a : Array Value) (mi : Heap) (es : List (Key × T)) (d : Value) (md M : Heap) (hc : RepI nh c a mi) (hmi : ∀ x, x ∈ mi → x ∈ M) (hwf : CWf nh c) (hd : RepD 3 (.tab es) d md) (hmd : ∀ x, x ∈ md → x ∈ M) :
    Tri Try.prog W0 24 [.agg a, d] M fun v M' => ∃ r m', ChartR true nh c es r ∧ M' = M ++ m' ∧ ((r = none ∧ v = .tuple #[.agg (dCells 0 false 0 [] nilS nilS), .bool false]) ∨ ∃ re n d' md', r = some re ∧ KeysOk re ∧ v = .tuple #[d', .bool true] ∧ RepD n (.tab re) d' md' ∧ ∀ x, x ∈ md' → x ∈ m') := by
  obtain ⟨kk, x, i, s, p1, n1, c1, p2, n2, c2, rfl⟩ := hd.agg
  obtain ⟨k0, x0, i0, s0, p3, n3, c3, p4, n4, c4, p5, n5, c5, rfl⟩ := RepI.cells hc
  refine tri_of 41 Try.func24 rfl Try.ntmps24 (Nat.le_of_ble_eq_true rfl) ?_
  refine c_seq ?_
  refine c_region ?_   -- region 0
  refine g_i (iv_boxA rfl) rfl ?_
  rintro _ _ ⟨b2, rfl, rfl⟩
  refine g_i (iv_boxA rfl) rfl ?_
  rintro _ _ ⟨b3, rfl, rfl⟩
  refine g_i (iv_allocA (z := dCells 0 false 0 [] nilS nilS) Try.zeroValue32) rfl ?_
  rintro _ _ ⟨b4, rfl, rfl⟩
  refine g_q (qv_assign rfl) rfl ?_
  refine g_nil ?_
  refine e_seq ?_
  refine c_seq ?_
  refine c_region ?_   -- region 1
  refine g_q (qv_loadA (vs := (iCells c.name k0 x0 i0 s0 (.slice p3 n3 c3) (.slice p4 n4 c4) (.slice p5 n5 c5)).toList) rfl Try.isAgg51 Try.sizeOf51 m2 (fun _ _ h => by simpa using h)) rfl ?_
  refine g_i (iv_call (vs := [.agg (iCells c.name k0 x0 i0 s0 (.slice p3 n3 c3) (.slice p4 n4 c4) (.slice p5 n5 c5)), .int .i64 0]) Try.call34 ⟨rfl, rfl, trivial⟩ (made_any nh c _ mi _ 0 hc (fun x hx => by simp [hmi x hx]) hwf (by decide) (by omega))) rfl ?_
  rintro _ _ ⟨b, mh, rfl, hrh, rfl⟩
  refine g_q (qv_move rfl) rfl ?_
  refine g_q (qv_extract rfl rfl) rfl ?_
  refine g_q (qv_extract rfl rfl) rfl ?_
  refine g_q (qv_assign rfl) rfl ?_
  refine g_q (qv_assign rfl) rfl ?_
  refine g_nil ?_
  refine e_seq ?_
  refine c_seq ?_
  refine c_region ?_   -- region 2
  refine g_q (qv_loadA (vs := (dCells kk x i s (.slice p1 n1 c1) (.slice p2 n2 c2)).toList) rfl Try.isAgg32 Try.sizeOf32 (List.mem_append_left _ m1) (fun _ _ h => by simpa using h)) rfl ?_
  refine g_i (iv_call (vs := [.agg (dCells kk x i s (.slice p1 n1 c1) (.slice p2 n2 c2))]) Try.call26 ⟨rfl, trivial⟩ (table_any 3 (by decide) es _ md _ hd (fun x hx => by simp [hmd x hx]))) rfl ?_
  rintro _ _ ⟨rm, ma, rfl, hra, rfl⟩
  refine g_q (qv_move rfl) rfl ?_
  refine g_q (qv_extract rfl rfl) rfl ?_
  refine g_q (qv_extract rfl rfl) rfl ?_
  refine g_q (qv_assign rfl) rfl ?_
  refine g_q (qv_assign rfl) rfl ?_
  refine g_nil ?_
  refine e_seq ?_
  refine c_seq ?_
  refine c_seq ?_
  refine c_region ?_   -- region 3
  refine g_q (qv_move rfl) rfl ?_
  refine g_q (qv_not rfl) rfl ?_
  refine g_q (qv_move rfl) rfl ?_
  refine g_on rfl rfl ?_
  refine g_q (qv_move rfl) rfl ?_
  refine g_on rfl rfl ?_
  refine g_q (qv_not rfl) rfl ?_
  refine g_q (qv_pick_f rfl rfl) rfl ?_
  refine g_nil ?_
  refine e_seq ?_
  refine c_false rfl ?_   -- t27
  refine c_skip ?_
  refine e_seq ?_
  refine c_seq ?_
  refine c_region ?_   -- region 5
  refine g_q (qv_move rfl) rfl ?_
  refine g_q (qv_move rfl) rfl ?_
  refine g_i (iv_call (vs := [ptr b, .map (some rm)]) Try.call36 ⟨rfl, rfl, trivial⟩ (vals36_any nh hnh c b mh es rm ma _ hrh (fun x hx => by simp [hx]) hwf hra (fun x hx => by simp [hx]))) rfl ?_
  rintro v3 M3 ⟨r3, r2, hr3, hans⟩
  have hshape : ∃ x y, v3 = .tuple #[x, y] ∧ (y = .nilIface ∨ ∃ T u, y = .iface T u) := by
    cases r3 with
    | none => obtain ⟨⟨x, T3, u, h⟩, _⟩ := hans; exact ⟨_, _, h, Or.inr ⟨_, _, rfl⟩⟩
    | some re => exact ⟨_, _, hans.1, Or.inl rfl⟩
  obtain ⟨x3, y3, rfl, hy3⟩ := hshape
  refine g_q (qv_move rfl) rfl ?_
  refine g_q (qv_extract rfl rfl) rfl ?_
  refine g_q (qv_extract rfl rfl) rfl ?_
  refine g_q (qv_assign rfl) rfl ?_
  refine g_q (qv_assign rfl) rfl ?_
  refine g_nil ?_
  refine e_seq ?_
  refine c_seq ?_
  refine c_seq ?_
  refine c_region ?_   -- region 6
  refine g_q (qv_move rfl) rfl ?_
  refine g_q (qv_nen Try.runUnderlying68 rfl hy3) rfl ?_
  refine g_nil ?_
  refine e_seq ?_
  refine c_cond rfl (fun hc => ?_) (fun hc => ?_)   -- t36
  · -- true
    refine c_seq ?_
    obtain rfl : r3 = none := by
      cases r3 with
      | none => rfl
      | some re =>
        obtain ⟨_, rfl⟩ : x3 = .map (some r2) ∧ y3 = .nilIface := by simpa using hans.1
        cases hc
    obtain ⟨_, X, rfl⟩ := hans
    refine c_to (M' := (b4, .cells (dCells 0 false 0 [] nilS nilS) 32 (0, 0)) :: M) (fun f => by simp <;> omega) ?_
    refine c_region ?_   -- region 7
    refine g_q (qv_build (vs := []) (cs := dCells 0 false 0 [] nilS nilS) lay32 trivial rfl) rfl ?_
    refine g_i0 (iv_storeA (i := 0) (b := b4) (vs := dCells 0 false 0 [] nilS nilS) rfl rfl all_dCells Try.sizeOf32 rfl rfl) ?_
    rintro _ _ rfl
    refine g_q (qv_assign rfl) rfl ?_
    refine g_nil ?_
    refine e_seq ?_
    refine c_ret ?_
    refine e_ret_then (?_)
    refine e_to (M' := M ++ [(b4, .cells (dCells 0 false 0 [] nilS nilS) 32 (0, 0))]) (fun f => by simp <;> omega) ?_
    exact e_retc2 (vs := (dCells 0 false 0 [] nilS nilS).toList) (.inl rfl) Try.results24 Try.isAgg32 Try.sizeOf32 rfl rfl (List.mem_append_right _ m0) (fun _ _ h => by simpa using h) ⟨none, _, hr3, rfl, Or.inl ⟨rfl, rfl⟩⟩
  · -- false
    refine c_skip ?_
    refine e_seq ?_
    refine c_seq ?_
    obtain ⟨re, rfl⟩ : ∃ re, r3 = some re := by
      cases r3 with
      | some re => exact ⟨re, rfl⟩
      | none =>
        obtain ⟨⟨x, T3, u, h⟩, _⟩ := hans
        obtain ⟨_, rfl⟩ : x3 = x ∧ y3 = .iface T3 u := by simpa using h
        cases hc
    obtain ⟨he, hokr, n2', N, md2, hx, rfl⟩ := hans
    obtain ⟨rfl, rfl⟩ : x3 = .map (some r2) ∧ y3 = .nilIface := by simpa using he
    obtain ⟨m5, hra5, hm5⟩ := hx.toA
    refine c_region ?_   -- region 8
    refine g_q (qv_move rfl) rfl ?_
    refine g_q (qv_iface Try.runUnderlying66 (fun _ h => by cases h) rfl) rfl ?_
    refine g_i (iv_call (vs := [.iface 66 (.map (some r2))]) Try.call28 ⟨rfl, trivial⟩ (told_values n2' re r2 m5 _ hra5 (fun x hx => (hm5 x hx).elim (fun h => List.mem_append_left _ h) (fun h => List.mem_append_right _ (List.mem_append_left _ (by simpa using h)))))) rfl ?_
    rintro d3 _ ⟨m3', hd3, rfl⟩
    obtain ⟨k6, x6, i6, s6, p6, n6, c6, q6, o6, e6, rfl⟩ := hd3.agg
    refine g_to (M' := (b4, .cells (dCells 0 false 0 [] nilS nilS) 32 (0, 0)) :: (M ++ m3')) (fun f => by simp <;> omega) ?_
    refine g_i0 (iv_storeA (i := 0) (b := b4) (vs := dCells k6 x6 i6 s6 (.slice p6 n6 c6) (.slice q6 o6 e6)) rfl rfl all_dCells Try.sizeOf32 rfl rfl) ?_
    rintro _ _ rfl
    refine g_q (qv_assign rfl) rfl ?_
    refine g_nil ?_
    refine e_seq ?_
    refine c_ret ?_
    refine ?_
    refine e_to (M' := M ++ ((b4, .cells (dCells k6 x6 i6 s6 (.slice p6 n6 c6) (.slice q6 o6 e6)) 32 (0, 0)) :: m3')) (fun f => by simp <;> omega) ?_
    exact e_retc2 (vs := (dCells k6 x6 i6 s6 (.slice p6 n6 c6) (.slice q6 o6 e6)).toList) (.inl rfl) Try.results24 Try.isAgg32 Try.sizeOf32 rfl rfl (List.mem_append_right _ m0) (fun _ _ h => by simpa using h) ⟨some re, _, hr3, rfl, Or.inr ⟨re, n2', _, m3', rfl, hokr, rfl, hd3, fun x hx => .tail _ hx⟩⟩
end Go.Proofs.Ytnnclcfklbeocaa

/-
  The walks, part 27: AddDependency and impl.made: a chart as data becomes a chart of the package.
  Conditions: the chart lies as RepI says.
-/
import Derived.Test.YtnnclcfklbeocaaW26
namespace Go.Proofs.Ytnnclcfklbeocaa
open Go.RowKit

variable {W0 : World}

theorem info77 : Try.prog.info? 77 = some Try.t77 := by kernel_rfl
theorem lay97 : Lay Try.prog 97 #[str []] [(0, 1)] := ⟨Try.zeroValue97, _, Try.runUnderlying97, fun w => by simp [Try.sizeOf9]⟩
theorem lay100 : Lay Try.prog 100 #[.pointer none, nilM, nilS] [(0, 1), (1, 1), (2, 1)] := ⟨Try.zeroValue100, _, Try.runUnderlying100, fun w => by simp [Try.sizeOf95, Try.sizeOf63, Try.sizeOf98]⟩

/-- The cells of an impl.Chart. -/
def iCells (nm : Key) (k : Int) (b : Bool) (i : Int) (t : Key) (items keys dsl : Value) : Array Value := #[str nm, .int .i64 k, .bool b, .int .i64 i, .int .u64 0, str t, items, keys, dsl]
theorem all_iCells {nm : Key} {kk : Int} {x : Bool} {i : Int} {s : Key} {p1 p2 p3 : Option Addr} {n1 n2 c1 c2 n3 c3 : Nat} : (iCells nm kk x i s (.slice p1 n1 c1) (.slice p2 n2 c2) (.slice p3 n3 c3)).all (·.oneCell') = true := by simp [iCells, str, Value.oneCell']
theorem iCells_vals {nm : Key} {kk : Int} {x : Bool} {i : Int} {s : Key} {it ks dsl : Value} (j : Nat) (u : Value) (h : (dCells kk x i s it ks).toList[j]? = some u) : (iCells nm kk x i s it ks dsl)[0 + 1 + j]? = some u := by
  match j, h with
  | 0, h => exact h
  | 1, h => exact h
  | 2, h => exact h
  | 3, h => exact h
  | 4, h => exact h
  | 5, h => exact h
  | 6, h => exact h
  | j + 7, h => simp [dCells] at h
theorem rootI.cells {c : Ch} {dsl : Value} {a : Array Value} {m : Heap} (h : rootI c dsl a m) : ∃ kk x i s p1 n1 c1 p2 n2 c2, a = iCells c.name kk x i s (.slice p1 n1 c1) (.slice p2 n2 c2) dsl ∧ RepD 2 (.tab c.vals) (.agg (dCells kk x i s (.slice p1 n1 c1) (.slice p2 n2 c2))) m := by
  obtain ⟨dv, hs, rfl, hd⟩ := h
  obtain ⟨kk, x, i, s, p1, n1, c1, p2, n2, c2, e⟩ := hd.agg
  cases e
  exact ⟨kk, x, i, s, p1, n1, c1, p2, n2, c2, rfl, hd⟩
theorem RepI.cells {n : Nat} {c : Ch} {a : Array Value} {m : Heap} (h : RepI n c a m) : ∃ kk x i s p1 n1 c1 p2 n2 c2 p3 n3 c3, a = iCells c.name kk x i s (.slice p1 n1 c1) (.slice p2 n2 c2) (.slice p3 n3 c3) := by
  obtain ⟨dsl, cs, mr, md, mk, hroot, hrow, _, _⟩ := h.open
  obtain ⟨p3, c3, rfl⟩ := hrow.shape
  obtain ⟨kk, x, i, s, p1, n1, c1, p2, n2, c2, rfl, _⟩ := hroot.cells
  exact ⟨kk, x, i, s, p1, n1, c1, p2, n2, c2, p3, _, c3, rfl⟩
theorem RepC.close {E w : Nat} {root : Ch → Value → Array Value → Heap → Prop} {n : Nat} {c : Ch} {a : Array Value} {dsl : Value} {cs : List Value} {mr md mk : Heap} (h1 : root c dsl a mr) (h2 : Row E w dsl c.deps.length cs md) (h3 : CKids w (fun d a m => ∃ n', n = n' + 1 ∧ RepC E w root n' d a m) c.deps cs mk) : RepC E w root n c a (mr ++ (md ++ mk)) := by
  cases n with
  | zero => exact ⟨dsl, cs, mr, md, mk, h1, h2, h3.mono (fun _ _ _ ⟨_, e, _⟩ => by cases e), rfl⟩
  | succ n => exact ⟨dsl, cs, mr, md, mk, h1, h2, h3.mono (fun _ _ _ ⟨n', e, h⟩ => by cases e; exact h), rfl⟩
theorem take_snoc {α : Type} {l : List α} {j : Nat} {x : α} (h : l[j]? = some x) : l.take (j + 1) = l.take j ++ [x] := by
  rw [List.take_add_one, h]; rfl

theorem addDep_any (h b y : Nat) (x1 x2 dsl : Value) (n : Nat) (cs : List Value) (md F : Heap) (hrow : Row 77 1 dsl n cs md) (hn : n + 1 ≤ 1000000) :
    Tri Try.prog W0 47 [ptr b, .slice (some ⟨h, 0, none⟩) 1 1] ((h, .cells #[ptr y] 77 (0, 0)) :: (b, .cells #[x1, x2, dsl] 100 (0, 0)) :: (md ++ F)) fun _ M' => ∃ dsl' md', Row 77 1 dsl' (n + 1) (cs ++ [ptr y]) md' ∧ M' = (b, .cells #[x1, x2, dsl'] 100 (0, 0)) :: (md' ++ F) := by
  refine tri_of 13 Try.func47 rfl Try.ntmps47 (Nat.le_of_ble_eq_true rfl) ?_
  refine c_region ?_   -- region 0
  refine g_q (qv_move rfl) rfl ?_
  refine g_q (qv_move rfl) rfl ?_
  refine g_q (qv_nil rfl) rfl ?_
  refine g_q (qv_field rfl Try.runUnderlying100 rfl Try.sizeOf98 rfl) rfl ?_
  refine g_q (qv_load (v := dsl) rfl Try.isAgg98 m1 rfl) rfl ?_
  refine g_q (qv_move rfl) rfl ?_
  refine g_i (iv_append (pre := [(b, .cells #[x1, x2, dsl] 100 (0, 0))]) (m := md) (F := F) (k := 1) rfl rfl Try.underlying98 info77 rfl rfl rfl hrow rfl (by simp [Value.oneCell']) (by decide) (by decide) (by omega) rfl) rfl ?_
  rintro v1 _ ⟨m1', hrow1, rfl⟩
  obtain ⟨p2, c2, rfl⟩ := hrow1.shape
  refine g_q (qv_nil rfl) rfl ?_
  refine g_q (qv_field rfl Try.runUnderlying100 rfl Try.sizeOf98 rfl) rfl ?_
  refine g_i0 (iv_store (i := 0) (b := b) (v := .slice p2 (n + 1) c2) rfl rfl rfl Try.sizeOf98 rfl (Nat.le_of_ble_eq_true rfl)) ?_
  rintro _ _ rfl
  refine g_nil ?_
  exact e_ret0 (.inr rfl) Try.results47 ⟨_, m1', hrow1, rfl⟩
theorem made_step (nh : Nat) (c : Ch) (a : Array Value) (mi M : Heap) (depth : Int) (hc : RepI nh c a mi) (hmi : ∀ x, x ∈ mi → x ∈ M) (hd0 : 0 ≤ depth) (hd : depth ≤ 20) (hcl : c.deps.length ≤ 1000)
    (hsub : ∀ (d : Ch) (a' : Array Value) (m' M' : Heap), d ∈ c.deps → (∃ n', nh = n' + 1 ∧ RepI n' d a' m') → (∀ x, x ∈ m' → x ∈ M') → Tri Try.prog W0 34 [.agg a', .int .i64 (depth + 1)] M' fun v M2 => ∃ b m2, v = .tuple #[ptr b, .bool true] ∧ (∃ n', nh = n' + 1 ∧ RepH n' d #[ptr b] m2) ∧ M2 = M' ++ m2) :
    Tri Try.prog W0 34 [.agg a, .int .i64 depth] M fun v M' => ∃ b m', v = .tuple #[ptr b, .bool true] ∧ RepH nh c #[ptr b] m' ∧ M' = M ++ m' := by
  obtain ⟨dsl, cs, mr, md, mk, hroot, hrow, hck, rfl⟩ := hc.open
  obtain ⟨kk, x, i, s, p1, n1, c1, p2, n2, c2, rfl, hval⟩ := hroot.cells
  obtain ⟨p3, c3, rfl⟩ := hrow.shape
  have hmr : ∀ x, x ∈ mr → x ∈ M := fun x hx => hmi x (List.mem_append_left _ hx)
  have hmd : ∀ x, x ∈ md → x ∈ M := fun x hx => hmi x (List.mem_append_right _ (List.mem_append_left _ hx))
  have hmk : ∀ x, x ∈ mk → x ∈ M := fun x hx => hmi x (List.mem_append_right _ (List.mem_append_right _ hx))
  refine tri_of 54 Try.func34 rfl Try.ntmps34 (Nat.le_of_ble_eq_true rfl) ?_
  refine c_seq ?_
  refine c_region ?_   -- region 0
  refine g_i (iv_boxA rfl) rfl ?_
  rintro _ _ ⟨b2, rfl, rfl⟩
  refine g_q (qv_assign rfl) rfl ?_
  refine g_q (qv_assign rfl) rfl ?_
  refine g_nil ?_
  refine e_seq ?_
  refine c_seq ?_
  refine c_region ?_   -- region 1
  refine g_q (qv_field rfl Try.runUnderlying51 rfl Try.sizeOf32 rfl) rfl ?_
  refine g_q (qv_loadA (vs := (dCells kk x i s (.slice p1 n1 c1) (.slice p2 n2 c2)).toList) rfl Try.isAgg32 Try.sizeOf32 m0 iCells_vals) rfl ?_
  refine g_i (iv_call (vs := [.agg (dCells kk x i s (.slice p1 n1 c1) (.slice p2 n2 c2))]) Try.call26 ⟨rfl, trivial⟩ (table_any 2 (by decide) c.vals _ mr _ hval (fun x hx => .tail _ (hmr x hx)))) rfl ?_
  rintro _ _ ⟨rm, ma, rfl, hra, rfl⟩
  refine g_q (qv_move rfl) rfl ?_
  refine g_q (qv_extract rfl rfl) rfl ?_
  refine g_q (qv_extract rfl rfl) rfl ?_
  refine g_q (qv_assign rfl) rfl ?_
  refine g_q (qv_assign rfl) rfl ?_
  refine g_nil ?_
  refine e_seq ?_
  refine c_seq ?_
  refine c_seq ?_
  refine c_region ?_   -- region 2
  refine g_q (qv_move rfl) rfl ?_
  refine g_q (qv_not rfl) rfl ?_
  refine g_q (qv_move rfl) rfl ?_
  refine g_on rfl rfl ?_
  refine g_q (qv_move rfl) rfl ?_
  refine g_on rfl rfl ?_
  refine g_q (QV.to (qv_gtr rfl rfl) (congrArg Value.bool (decide_eq_false (show ¬ (20 : Int) < depth by omega)))) rfl ?_
  refine g_q (qv_pick_f rfl rfl) rfl ?_
  refine g_nil ?_
  refine e_seq ?_
  refine c_false rfl ?_   -- t24
  refine c_skip ?_
  refine e_seq ?_
  refine c_seq ?_
  refine c_region ?_   -- region 4
  refine g_q (qv_field rfl Try.runUnderlying51 rfl Try.sizeOf9 rfl) rfl ?_
  refine g_q (qv_load (v := str c.name) rfl Try.isAgg9 m0 rfl) rfl ?_
  refine g_q (qv_build (vs := [(0, str c.name)]) (cs := #[str c.name]) lay97 ⟨rfl, rfl, trivial⟩ (by kernel_rfl)) rfl ?_
  refine g_i (iv_boxA rfl) rfl ?_
  rintro _ _ ⟨bm, rfl, rfl⟩
  refine g_q (qv_move rfl) rfl ?_
  refine g_q (qv_build (vs := [(0, ptr bm), (1, .map (some rm))]) (cs := #[ptr bm, .map (some rm), nilS]) lay100 ⟨rfl, rfl, rfl, rfl, trivial⟩ (by kernel_rfl)) rfl ?_
  refine g_i (iv_boxA rfl) rfl ?_
  rintro _ _ ⟨b, rfl, rfl⟩
  refine g_q (qv_assign rfl) rfl ?_
  refine g_nil ?_
  refine e_seq ?_
  refine c_seq ?_
  refine c_seq ?_
  refine c_region ?_   -- region 5
  refine g_q (qv_field rfl Try.runUnderlying51 rfl Try.sizeOf49 rfl) rfl ?_
  refine g_q (qv_load (v := .slice p3 c.deps.length c3) rfl Try.isAgg49 m2 rfl) rfl ?_
  refine g_q (qv_len_slice rfl Try.runUnderlying49) rfl ?_
  refine g_q (qv_move rfl) rfl ?_
  refine g_nil ?_
  refine e_seq ?_
  refine c_block ?_
  refine c_keep (L' := [(1, .int .i64 depth), (8, ptr b), (33, .slice p3 c.deps.length c3), (34, .int .i64 (c.deps.length : Int)), (35, .int .i64 ((0 : Nat) : Int))]) ⟨rfl, rfl, rfl, rfl, rfl, trivial⟩ ?_
  refine c_to (M' := (b, .cells #[ptr bm, .map (some rm), nilS] 100 (0, 0)) :: ([] ++ ([] ++ ((bm, .cells #[str c.name] 97 (0, 0)) :: (M ++ ma))))) (fun f => by simp <;> omega) ?_
  refine c_loop (ι := Nat) (fun j L M' => ∃ dslj csj mdj mkj, L = [(1, .int .i64 depth), (8, ptr b), (33, .slice p3 c.deps.length c3), (34, .int .i64 (c.deps.length : Int)), (35, .int .i64 (j : Int))] ∧ j ≤ c.deps.length ∧ Row 77 1 dslj j csj mdj ∧ CKids 1 (fun d a m => ∃ n', nh = n' + 1 ∧ RepH n' d a m) (c.deps.take j) csj mkj ∧
    M' = (b, .cells #[ptr bm, .map (some rm), dslj] 100 (0, 0)) :: (mdj ++ (mkj ++ ((bm, .cells #[str c.name] 97 (0, 0)) :: (M ++ ma))))) (fun j => c.deps.length - j) 0 ⟨nilS, [], [], [], rfl, Nat.zero_le _, Row.nil _ _, ⟨rfl, rfl⟩, rfl⟩ ?_
  rintro j _ _ ⟨dslj, csj, mdj, mkj, rfl, hj, hrowj, hckj, rfl⟩
  refine c_seq ?_
  refine c_region ?_   -- region 6
  refine g_q (qv_lss rfl rfl) rfl ?_
  refine g_nil ?_
  refine e_seq ?_
  refine c_seq ?_
  refine c_cond rfl (fun hc => ?_) (fun hc => ?_)   -- t36
  · -- true
    refine c_skip ?_
    refine e_seq ?_
    refine c_seq ?_
    refine c_block ?_
    refine c_seq ?_
    refine c_region ?_   -- region 7
    have hlt : j < c.deps.length := by
      have := of_decide_eq_true hc
      omega
    obtain ⟨d, hdj⟩ : ∃ d, c.deps[j]? = some d := ⟨c.deps[j], List.getElem?_eq_getElem hlt⟩
    have hdm : d ∈ c.deps := List.mem_of_getElem? hdj
    obtain ⟨aj, mj, haj, ⟨n', hn', hrj⟩, hat, hin⟩ := hck.at hdj
    obtain ⟨kj, xj, ij, sj, pj1, nj1, cj1, pj2, nj2, cj2, pj3, nj3, cj3, rfl⟩ := RepI.cells hrj
    obtain ⟨g, cap, cells, he, rfl, hcell⟩ := hrow.block (by omega)
    cases he
    have hg := hmd _ m0
    refine g_q (qv_index rfl rfl Try.runUnderlying49 Try.sizeOf51 (by omega) (by omega)) rfl ?_
    refine g_q (qv_loadA (vs := (iCells d.name kj xj ij sj (.slice pj1 nj1 cj1) (.slice pj2 nj2 cj2) (.slice pj3 nj3 cj3)).toList) rfl Try.isAgg51 Try.sizeOf51 (.tail _ (List.mem_append_right _ (List.mem_append_right _ (.tail _ (List.mem_append_left _ hg))))) (fun i u h => by rw [Nat.zero_add]; exact hcell _ _ (hat i u h))) rfl ?_
    refine g_i (iv_allocA (z := iCells [] 0 false 0 [] nilS nilS nilS) Try.zeroValue51) rfl ?_
    rintro _ _ ⟨b10, rfl, rfl⟩
    refine g_i0 (iv_storeA (i := 0) (b := b10) (vs := iCells d.name kj xj ij sj (.slice pj1 nj1 cj1) (.slice pj2 nj2 cj2) (.slice pj3 nj3 cj3)) rfl rfl all_iCells Try.sizeOf51 rfl rfl) ?_
    rintro _ _ rfl
    refine g_nil ?_
    refine e_seq ?_
    refine c_seq ?_
    refine c_region ?_   -- region 8
    refine g_q (qv_loadA (vs := (iCells d.name kj xj ij sj (.slice pj1 nj1 cj1) (.slice pj2 nj2 cj2) (.slice pj3 nj3 cj3)).toList) rfl Try.isAgg51 Try.sizeOf51 m0 (fun _ _ h => by simpa using h)) rfl ?_
    refine g_q (qv_move rfl) rfl ?_
    refine g_q (qv_add (c := depth + 1) rfl rfl (wrap_i64 (by omega) (by omega))) rfl ?_
    refine g_i (iv_call (vs := [.agg (iCells d.name kj xj ij sj (.slice pj1 nj1 cj1) (.slice pj2 nj2 cj2) (.slice pj3 nj3 cj3)), .int .i64 (depth + 1)]) Try.call34 ⟨rfl, rfl, trivial⟩ (hsub d _ mj _ hdm ⟨n', hn', hrj⟩ (fun x hx => .tail _ (.tail _ (List.mem_append_right _ (List.mem_append_right _ (.tail _ (List.mem_append_left _ (hmk x (hin x hx)))))))))) rfl ?_
    rintro _ _ ⟨bn, m2', rfl, hrh, rfl⟩
    refine g_q (qv_move rfl) rfl ?_
    refine g_q (qv_extract rfl rfl) rfl ?_
    refine g_q (qv_extract rfl rfl) rfl ?_
    refine g_q (qv_assign rfl) rfl ?_
    refine g_q (qv_assign rfl) rfl ?_
    refine g_nil ?_
    refine e_seq ?_
    refine c_seq ?_
    refine c_seq ?_
    refine c_region ?_   -- region 9
    refine g_q (qv_move rfl) rfl ?_
    refine g_q (qv_not rfl) rfl ?_
    refine g_nil ?_
    refine e_seq ?_
    refine c_false rfl ?_   -- t47
    refine c_skip ?_
    refine e_seq ?_
    refine c_region ?_   -- region 11
    refine g_q (qv_move rfl) rfl ?_
    refine g_q (qv_move rfl) rfl ?_
    refine g_i (iv_buildSlice (vs := [(0, ptr bn)]) (cs := #[ptr bn]) Try.runUnderlying98 Try.sizeOf77 Try.zeroValue77 ⟨rfl, rfl, trivial⟩ rfl (by kernel_rfl) rfl) rfl ?_
    rintro _ _ ⟨bs, rfl, rfl⟩
    refine g_to (M' := (bs, .cells #[ptr bn] 77 (0, 0)) :: (b, .cells #[ptr bm, .map (some rm), dslj] 100 (0, 0)) :: (mdj ++ ((mkj ++ m2') ++ ((bm, .cells #[str c.name] 97 (0, 0)) :: (M ++ ma))))) (fun f => by simp <;> omega) ?_
    refine g_i (iv_call (vs := [ptr b, .slice (some ⟨bs, 0, none⟩) 1 1]) Try.call47 ⟨rfl, rfl, trivial⟩ (addDep_any bs b bn (ptr bm) (.map (some rm)) dslj j csj mdj _ hrowj (by omega))) rfl ?_
    rintro _ _ ⟨dsl2, md2, hrow2, rfl⟩
    refine g_nil ?_
    refine e_normal_block ?_
    refine e_seq ?_
    refine c_region ?_   -- region 12
    refine g_q (qv_add (c := ((j + 1 : Nat) : Int)) rfl rfl (by rw [wrap_i64 (by omega) (by omega)]; omega)) rfl ?_
    refine g_q (qv_move rfl) rfl ?_
    refine g_nil ?_
    exact e_again (j + 1) (by omega) (L' := [(1, .int .i64 depth), (8, ptr b), (33, .slice (some ⟨g, 0, none⟩) c.deps.length c3), (34, .int .i64 (c.deps.length : Int)), (35, .int .i64 ((j + 1 : Nat) : Int))]) ⟨rfl, rfl, rfl, rfl, rfl, trivial⟩ ⟨dsl2, _, md2, _, rfl, hlt, hrow2, by rw [take_snoc hdj]; exact hckj.snoc (c := #[ptr bn]) rfl hrh, rfl⟩
  · -- false
    refine c_exit ?_
    refine e_exit_then ?_
    refine e_exit_then ?_
    refine e_exit_block ?_
    refine e_seq ?_
    refine c_seq ?_
    refine c_region ?_   -- region 13
    obtain rfl : j = c.deps.length := by
      have := of_decide_eq_false hc
      omega
    refine g_q (qv_move rfl) rfl ?_
    refine g_q (qv_assign rfl) rfl ?_
    refine g_q (qv_assign rfl) rfl ?_
    refine g_nil ?_
    refine e_seq ?_
    refine c_ret ?_
    refine ?_
    rw [List.take_length] at hckj
    refine e_to (M' := M ++ (((b, .cells #[ptr bm, .map (some rm), dslj] 100 (0, 0)) :: (bm, .cells #[str c.name] 97 (0, 0)) :: ma) ++ (mdj ++ mkj))) (fun f => by simp <;> omega) ?_
    exact e_ret2 (.inl rfl) Try.results34 rfl rfl ⟨b, _, rfl, RepC.close ⟨b, bm, rm, ma, rfl, hra, rfl⟩ hrowj hckj, rfl⟩
def MadeSpec (W0 : World) (nh : Nat) : Prop := ∀ (c : Ch) (a : Array Value) (mi M : Heap) (depth : Int), RepI nh c a mi → (∀ x, x ∈ mi → x ∈ M) → CWf nh c → 0 ≤ depth → depth + nh ≤ 20 → Tri Try.prog W0 34 [.agg a, .int .i64 depth] M fun v M' => ∃ b m', v = .tuple #[ptr b, .bool true] ∧ RepH nh c #[ptr b] m' ∧ M' = M ++ m'
theorem made_any (nh : Nat) : MadeSpec W0 nh := by
  induction nh with
  | zero =>
    intro c a mi M depth hc hmi hwf h0 hd
    obtain ⟨_, _, _, h4⟩ := hwf
    exact made_step 0 c a mi M depth hc hmi h0 (by omega) (by rw [h4]; exact Nat.zero_le _) (fun d a' m' M' hdm => by rw [h4] at hdm; cases hdm)
  | succ nh ih =>
    intro c a mi M depth hc hmi hwf h0 hd
    obtain ⟨_, _, _, _, hcl, h5⟩ := hwf
    refine made_step (nh + 1) c a mi M depth hc hmi h0 (by omega) hcl (fun d a' m' M' hdm hr hm' => ?_)
    obtain ⟨n2, e, hr⟩ := hr
    cases e
    exact (ih d a' m' M' (depth + 1) hr hm' (h5 d hdm).2.2 (by omega) (by omega)).mono fun v M2 ⟨b, m2, h1, h2, h3⟩ => ⟨b, m2, h1, ⟨nh, rfl, h2⟩, h3⟩

end Go.Proofs.Ytnnclcfklbeocaa

/-
  The walks, part 21: a chart's small methods (Dependencies, Name), childChartMergeTrue, errors.New.
  Conditions: the chart's own blocks are known.
-/
import Derived.Test.YtnnclcfklbeocaaR5
import Derived.Test.YtnnclcfklbeocaaW20
namespace Go.Proofs.Ytnnclcfklbeocaa
open Go.RowKit

variable {W0 : World}

theorem lay117 : Lay Try.prog 117 #[str []] [(0, 1)] := ⟨Try.zeroValue117, _, Try.runUnderlying117, fun w => by simp [Try.sizeOf9]⟩

theorem deps_any {b : Nat} {x y dsl : Value} {M : Heap} (hb : (b, Obj.cells #[x, y, dsl] 100 (0, 0)) ∈ M) : Tri Try.prog W0 74 [ptr b] M fun v M' => v = dsl ∧ M' = M := by
  refine tri_of 7 Try.func74 rfl Try.ntmps74 (Nat.le_of_ble_eq_true rfl) ?_
  refine c_seq ?_
  refine c_region ?_   -- region 0
  refine g_q (qv_assign rfl) rfl ?_
  refine g_nil ?_
  refine e_seq ?_
  refine c_seq ?_
  refine c_region ?_   -- region 1
  refine g_q (qv_move rfl) rfl ?_
  refine g_q (qv_nil rfl) rfl ?_
  refine g_q (qv_field rfl Try.runUnderlying100 rfl Try.sizeOf98 rfl) rfl ?_
  refine g_q (qv_load (v := dsl) rfl Try.isAgg98 hb rfl) rfl ?_
  refine g_q (qv_assign rfl) rfl ?_
  refine g_nil ?_
  refine e_seq ?_
  refine c_ret ?_
  refine ?_
  exact e_ret1 (.inl rfl) Try.results74 rfl ⟨rfl, rfl⟩
theorem name_any {b bm : Nat} {y dsl : Value} {nm : Key} {M : Heap} (hb : (b, Obj.cells #[ptr bm, y, dsl] 100 (0, 0)) ∈ M) (hm : (bm, Obj.cells #[str nm] 97 (0, 0)) ∈ M) : Tri Try.prog W0 75 [ptr b] M fun v M' => v = str nm ∧ M' = M := by
  refine tri_of 15 Try.func75 rfl Try.ntmps75 (Nat.le_of_ble_eq_true rfl) ?_
  refine c_seq ?_
  refine c_region ?_   -- region 0
  refine g_q (qv_assign rfl) rfl ?_
  refine g_nil ?_
  refine e_seq ?_
  refine c_seq ?_
  refine c_seq ?_
  refine c_region ?_   -- region 1
  refine g_q (qv_move rfl) rfl ?_
  refine g_q (qv_nil rfl) rfl ?_
  refine g_q (qv_field rfl Try.runUnderlying100 rfl Try.sizeOf95 rfl) rfl ?_
  refine g_q (qv_load (v := ptr bm) rfl Try.isAgg95 hb rfl) rfl ?_
  refine g_q (qv_eqp Try.runUnderlying95 rfl) rfl ?_
  refine g_nil ?_
  refine e_seq ?_
  refine c_false rfl ?_   -- t7
  refine c_skip ?_
  refine e_seq ?_
  refine c_seq ?_
  refine c_region ?_   -- region 3
  refine g_q (qv_move rfl) rfl ?_
  refine g_q (qv_nil rfl) rfl ?_
  refine g_q (qv_field rfl Try.runUnderlying100 rfl Try.sizeOf95 rfl) rfl ?_
  refine g_q (qv_load (v := ptr bm) rfl Try.isAgg95 hb rfl) rfl ?_
  refine g_q (qv_nil rfl) rfl ?_
  refine g_q (qv_field rfl Try.runUnderlying97 rfl Try.sizeOf9 rfl) rfl ?_
  refine g_q (qv_load (v := str nm) rfl Try.isAgg9 hm rfl) rfl ?_
  refine g_q (qv_assign rfl) rfl ?_
  refine g_nil ?_
  refine e_seq ?_
  refine c_ret ?_
  refine ?_
  exact e_ret1 (.inl rfl) Try.results75 rfl ⟨rfl, rfl⟩
theorem err_any (s : Key) (M : Heap) : Tri Try.prog W0 45 [str s] M fun v M' => ∃ b m', v = .iface 115 (ptr b) ∧ M' = m' ++ M := by
  refine tri_of 7 Try.func45 rfl Try.ntmps45 (Nat.le_of_ble_eq_true rfl) ?_
  refine c_seq ?_
  refine c_region ?_   -- region 0
  refine g_q (qv_assign rfl) rfl ?_
  refine g_nil ?_
  refine e_seq ?_
  refine c_seq ?_
  refine c_region ?_   -- region 1
  refine g_q (qv_move rfl) rfl ?_
  refine g_q (qv_build (vs := [(0, str s)]) (cs := #[str s]) lay117 ⟨rfl, rfl, trivial⟩ (by kernel_rfl)) rfl ?_
  refine g_i (iv_boxA rfl) rfl ?_
  rintro _ _ ⟨b, rfl, rfl⟩
  refine g_q (qv_iface Try.runUnderlying115 (fun _ h => by cases h) rfl) rfl ?_
  refine g_q (qv_assign rfl) rfl ?_
  refine g_nil ?_
  refine e_seq ?_
  refine c_ret ?_
  refine ?_
  exact e_ret1 (.inl rfl) Try.results45 rfl ⟨_, [_], rfl, rfl⟩
/-- What a dependency shows: its block, its metadata's. -/
theorem RepH.shown {n : Nat} {d : Ch} {a : Array Value} {m : Heap} (h : RepH n d a m) : ∃ b bm y dsl, a = #[ptr b] ∧ (b, Obj.cells #[ptr bm, y, dsl] 100 (0, 0)) ∈ m ∧ (bm, Obj.cells #[str d.name] 97 (0, 0)) ∈ m := by
  obtain ⟨dsl, cs, mr, md, mk, ⟨b, bm, r, mv, rfl, _, rfl⟩, _, _, rfl⟩ := h.open
  exact ⟨b, bm, _, dsl, rfl, m0, m1⟩

theorem childMerge_any {b : Nat} {x y dsl : Value} {ds : List Ch} {cs : List Value} {md mk M : Heap} (hb : (b, Obj.cells #[x, y, dsl] 100 (0, 0)) ∈ M) (hrow : Row 77 1 dsl ds.length cs md) (hmd : ∀ x, x ∈ md → x ∈ M) (hk : CKids 1 (fun d a m => ∃ n, RepH n d a m) ds cs mk) (hmk : ∀ x, x ∈ mk → x ∈ M) (key : Key) (mg : Bool) (hl : ds.length ≤ 1000) :
    Tri Try.prog W0 73 [ptr b, str key, .bool mg] M fun v M' => v = .bool (mg || (ds.map Ch.name).contains key) ∧ M' = M := by
  obtain ⟨p, c, rfl⟩ := hrow.shape
  refine tri_of 22 Try.func73 rfl Try.ntmps73 (Nat.le_of_ble_eq_true rfl) ?_
  refine c_seq ?_
  refine c_region ?_   -- region 0
  refine g_q (qv_assign rfl) rfl ?_
  refine g_nil ?_
  refine e_seq ?_
  refine c_seq ?_
  refine c_seq ?_
  refine c_region ?_   -- region 1
  refine g_q (qv_move rfl) rfl ?_
  refine g_i (iv_call (vs := [ptr b]) Try.call74 ⟨rfl, trivial⟩ (deps_any hb)) rfl ?_
  rintro _ _ ⟨rfl, hM'⟩
  obtain rfl := hM'.symm
  refine g_q (qv_len_slice rfl Try.runUnderlying98) rfl ?_
  refine g_q (qv_move rfl) rfl ?_
  refine g_nil ?_
  refine e_seq ?_
  refine c_block ?_
  refine c_keep (L' := [(1, str key), (2, .bool mg), (6, .bool false), (10, .slice p ds.length c), (11, .int .i64 (ds.length : Int)), (12, .int .i64 ((0 : Nat) : Int))]) ⟨rfl, rfl, rfl, rfl, rfl, rfl, trivial⟩ ?_
  refine c_loop (ι := Nat) (fun j L M' => L = [(1, str key), (2, .bool mg), (6, .bool false), (10, .slice p ds.length c), (11, .int .i64 (ds.length : Int)), (12, .int .i64 (j : Int))] ∧ j ≤ ds.length ∧ (∀ d, d ∈ ds.take j → d.name ≠ key) ∧ M' = M) (fun j => ds.length - j) 0 ⟨rfl, Nat.zero_le _, fun d hd => (by simp at hd), rfl⟩ ?_
  rintro j _ _ ⟨rfl, hj, hno, hM'⟩
  obtain rfl := hM'.symm
  refine c_seq ?_
  refine c_region ?_   -- region 2
  refine g_q (qv_lss rfl rfl) rfl ?_
  refine g_nil ?_
  refine e_seq ?_
  refine c_seq ?_
  refine c_cond rfl (fun hc => ?_) (fun hc => ?_)   -- t13
  · -- true
    refine c_skip ?_
    refine e_seq ?_
    refine c_seq ?_
    refine c_block ?_
    refine c_seq ?_
    refine c_region ?_   -- region 3
    have hlt : j < ds.length := by
      have := of_decide_eq_true hc
      omega
    obtain ⟨d, hd⟩ : ∃ d, ds[j]? = some d := ⟨ds[j], List.getElem?_eq_getElem hlt⟩
    obtain ⟨a, m1, ha, ⟨nd, hrd⟩, hat, hin⟩ := hk.at hd
    obtain ⟨b2, bm, y2, dsl2, rfl, hb2, hbm⟩ := hrd.shown
    obtain ⟨g, cap, cells, he, hg, hcell⟩ := row_at (k := j) (u := ptr b2) hrow (by have := hat 0 (ptr b2) rfl; simpa using this)
    cases he
    refine g_q (qv_index rfl rfl Try.runUnderlying98 Try.sizeOf77 (by omega) (by omega)) rfl ?_
    refine g_q (qv_load (v := ptr b2) rfl Try.isAgg77 (hmd _ hg) hcell) rfl ?_
    refine g_q (qv_assign rfl) rfl ?_
    refine g_nil ?_
    refine e_seq ?_
    refine c_seq ?_
    refine c_region ?_   -- region 4
    refine g_q (qv_move rfl) rfl ?_
    refine g_i (iv_call (vs := [ptr b2]) Try.call75 ⟨rfl, trivial⟩ (name_any (hmk _ (hin _ hb2)) (hmk _ (hin _ hbm)))) rfl ?_
    rintro _ _ ⟨rfl, hM'⟩
    obtain rfl := hM'.symm
    refine g_q (qv_move rfl) rfl ?_
    refine g_q (qv_eqs rfl rfl) rfl ?_
    refine g_nil ?_
    refine e_seq ?_
    refine c_cond rfl (fun hc => ?_) (fun hc => ?_)   -- t19
    · -- true
      refine c_seq ?_
      refine c_region ?_   -- region 5
      refine g_q (qv_assign rfl) rfl ?_
      refine g_nil ?_
      refine e_seq ?_
      refine c_ret ?_
      refine e_ret_block (e_ret_then (e_ret_then (e_ret_block (e_ret_then (?_)))))
      have e : d.name = key := by simpa using hc
      exact e_ret1 (.inl rfl) Try.results73 rfl ⟨by
        have : (ds.map Ch.name).contains key = true := by
          simp only [List.contains_iff_mem, List.mem_map]
          exact ⟨d, List.mem_of_getElem? hd, e⟩
        rw [this, Bool.or_true], rfl⟩
    · -- false
      refine c_skip ?_
      refine e_normal_block ?_
      refine e_seq ?_
      refine c_region ?_   -- region 6
      refine g_q (qv_add (c := ((j + 1 : Nat) : Int)) rfl rfl (by rw [wrap_i64 (by omega) (by omega)]; omega)) rfl ?_
      refine g_q (qv_move rfl) rfl ?_
      refine g_nil ?_
      refine e_again (j + 1) (by omega) (L' := [(1, str key), (2, .bool mg), (6, .bool false), (10, .slice (some ⟨g, 0, none⟩) ds.length c), (11, .int .i64 (ds.length : Int)), (12, .int .i64 ((j + 1 : Nat) : Int))]) ⟨rfl, rfl, rfl, rfl, rfl, rfl, trivial⟩ ⟨rfl, hlt, fun d' hd' => ?_, rfl⟩
      rw [List.take_add_one, hd] at hd'
      rcases List.mem_append.1 hd' with h | h
      · exact hno d' h
      · have : d' = d := by simpa using h
        subst this
        have h2 : ¬ d'.name = key := by simpa using ‹(d'.name == key) = false›
        exact h2
  · -- false
    refine c_exit ?_
    refine e_exit_then ?_
    refine e_exit_then ?_
    refine e_exit_block ?_
    refine e_seq ?_
    refine c_seq ?_
    refine c_region ?_   -- region 7
    refine g_q (qv_move rfl) rfl ?_
    refine g_q (qv_assign rfl) rfl ?_
    refine g_nil ?_
    refine e_seq ?_
    refine c_ret ?_
    refine ?_
    obtain rfl : j = ds.length := by
      have := of_decide_eq_false hc
      omega
    exact e_ret1 (.inl rfl) Try.results73 rfl ⟨by
      have : (ds.map Ch.name).contains key = false := by
        rw [Bool.eq_false_iff]
        intro h
        simp only [List.contains_iff_mem, List.mem_map] at h
        obtain ⟨d, hd, e⟩ := h
        exact hno d (by rw [List.take_length]; exact hd) e
      rw [this, Bool.or_false], rfl⟩
end Go.Proofs.Ytnnclcfklbeocaa

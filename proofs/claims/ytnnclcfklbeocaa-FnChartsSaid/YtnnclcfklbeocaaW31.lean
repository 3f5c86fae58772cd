/-
  The walks, part 31: laws.chartOf: one chart of numbers, as data and as a spec.Chart.
  Conditions: the numbers came in as an argument, the place is small.
-/
import Derived.Test.YtnnclcfklbeocaaW30
namespace Go.Proofs.Ytnnclcfklbeocaa
open Go.RowKit

section
variable {P : Program} {W0 : World} {n : Nat} {ops : Array Oper} {Q : Exit → Act → World → Prop} {L : Slots} {M R : Heap} {need : Nat → Bool} {fuel : Nat} {listed : Array Bool}
/-- Of a region that draws: operation i comes up next. -/
structure DI (P : Program) (W0 : World) (n : Nat) (ops : Array Oper) (Q : Exit → Act → World → Prop) (R : Heap) (need : Nat → Bool) (fuel : Nat) (listed : Array Bool) (L : Slots) (M : Heap) (i : Nat) : Prop where
  run : ∀ a w, St n L a → Own W0 M w → wpOp P ops (NoPanic Q) i (fun a' w' => (need i = true → Rd W0 R w → Rd W0 R w') ∧ wpAnyG P ops (NoPanic Q) (Rd W0 R) need fuel (listed.setIfInBounds i true) a' w') a w
/-- Either of two. -/
theorem d_or (i j : Nat) (hr : Region.ready .any ops listed = [i, j]) (h1 : DI P W0 n ops Q R need fuel listed L M i) (h2 : DI P W0 n ops Q R need fuel listed L M j) : D P W0 n ops Q R need (fuel + 1) listed L M := by
  refine ⟨fun a w ha hw => ⟨fun h0 => (by rw [h0] at hr; cases hr), fun k hk => ?_⟩⟩
  rw [hr] at hk
  rcases List.mem_cons.1 hk with rfl | hk
  · exact h1.run a w ha hw
  · obtain rfl := List.mem_singleton.1 hk
    exact h2.run a w ha hw
theorem d_or3 (i j l : Nat) (hr : Region.ready .any ops listed = [i, j, l]) (h1 : DI P W0 n ops Q R need fuel listed L M i) (h2 : DI P W0 n ops Q R need fuel listed L M j) (h3 : DI P W0 n ops Q R need fuel listed L M l) : D P W0 n ops Q R need (fuel + 1) listed L M := by
  refine ⟨fun a w ha hw => ⟨fun h0 => (by rw [h0] at hr; cases hr), fun k hk => ?_⟩⟩
  rw [hr] at hk
  rcases List.mem_cons.1 hk with rfl | hk
  · exact h1.run a w ha hw
  rcases List.mem_cons.1 hk with rfl | hk
  · exact h2.run a w ha hw
  · obtain rfl := List.mem_singleton.1 hk
    exact h3.run a w ha hw
theorem di_run {op : Op} {Rl : Value → Heap → Prop} {d : Nat} {ty : TypeId} {pos : String} {aft : Array Edge} (i : Nat) (hi : ops[i]? = some ⟨some d, op, ty, pos, aft, none⟩) (hd : Nat.blt d n = true) (h : IV P W0 L M op Rl)
    (hR : ∀ v M', Rl v M' → need i = true → ∀ x, x ∈ R → x ∈ M') (k : ∀ v M', Rl v M' → D P W0 n ops Q R need fuel (listed.setIfInBounds i true) ((d, v) :: L) M') : DI P W0 n ops Q R need fuel listed L M i := by
  refine ⟨fun a w ha hw => ?_⟩
  unfold wpOp
  rw [hi]
  have hwt : Region.wanted (⟨some d, op, ty, pos, aft, none⟩ : Oper) (yielded ops a.tmps) = true := rfl
  simp only [hwt, if_true]
  exact Or.inl (h a w _ _ _ (fun x u hx => ha.eval hx) hw rfl fun v M' w' hl hO => ⟨fun hne _ => hO.rd.sub (hR v M' hl hne), (k v M' hl).run _ _ (ha.put hd v) hO⟩)
theorem di_to {M' : Heap} {i : Nat} (hp : Fits M M') (k : DI P W0 n ops Q R need fuel listed L M' i) : DI P W0 n ops Q R need fuel listed L M i := ⟨fun a w ha hw => k.run a w ha (hw.fits hp)⟩
/-- Two results, structs that lie in memory. -/
theorem e_retcc {fn : Func} {S : Value → Heap → Prop} {e : Exit} {t s : Tmp} {T U : TypeId} {b off b' off' : Nat} {cs cs' : Array Value} {E' E2 : TypeId} {fz fz' : Nat × Nat} {vs us : List Value}
    (he : e = .ret ∨ e = .normal) (hr : fn.results = #[.cell t T, .cell s U]) (hA : ∀ w, (isAgg T).run P w = .ok true w) (hS : ∀ w, (sizeOf T).run P w = .ok vs.length w) (hv : look L t = some (.pointer (some ⟨b, off, none⟩)))
    (hm : (b, Obj.cells cs E' fz) ∈ M) (hc : ∀ j u, vs[j]? = some u → cs[off + j]? = some u)
    (hA2 : ∀ w, (isAgg U).run P w = .ok true w) (hS2 : ∀ w, (sizeOf U).run P w = .ok us.length w) (hv2 : look L s = some (.pointer (some ⟨b', off', none⟩)))
    (hm2 : (b', Obj.cells cs' E2 fz') ∈ M) (hc2 : ∀ j u, us[j]? = some u → cs'[off' + j]? = some u) (h : S (.tuple #[.agg vs.toArray, .agg us.toArray]) M) : E W0 n (bodyPost P fn (TriPost W0 S)) L M e := by
  refine ⟨fun a w ha hw => ?_⟩
  have hg := ha.got _ _ hv
  have hg' := ha.got _ _ hv2
  have hl := run_loadVar_agg hw.rd (P := P) (off := off) hA hS hm hc
  have hl' := run_loadVar_agg hw.rd (P := P) (off := off') hA2 hS2 hm2 hc2
  have hp : a.defers = [] ∧ ∃ v, (results fn a.tmps).run P w = .ok v w ∧ TriPost W0 S (.returned v) w :=
    ⟨ha.defers, .tuple #[.agg vs.toArray, .agg us.toArray], by simp [results, hr, hg, hg', asAddr, hl, hl'], _, M, rfl, h, hw⟩
  rcases he with rfl | rfl <;> exact hp
end

variable {W0 : World}

theorem info51 : Try.prog.info? 51 = some Try.t51 := by kernel_rfl
theorem info54 : Try.prog.info? 54 = some Try.t54 := by kernel_rfl
theorem lay51 : Lay Try.prog 51 (iCells [] 0 false 0 [] nilS nilS nilS) [(0, 1), (1, 7), (8, 1)] := ⟨Try.zeroValue51, _, Try.runUnderlying51, fun w => by simp [Try.sizeOf9, Try.sizeOf32, Try.sizeOf49]⟩
theorem lay54 : Lay Try.prog 54 #[str [], .pointer none, nilS] [(0, 1), (1, 1), (2, 1)] := ⟨Try.zeroValue54, _, Try.runUnderlying54, fun w => by simp [Try.sizeOf9, Try.sizeOf24, Try.sizeOf52]⟩

def ks2 : List Key := [[115, 117, 98], [100]]
/-- What the charts that are needed keep. -/
def DepsOk (d0 j : Nat) (deps : List Ch) : Prop := (deps.map Ch.name).Nodup ∧ deps.length ≤ j ∧ ∀ d, d ∈ deps → d.name ∈ ks2.take j ∧ ∃ n', d0 = n' + 1 ∧ CWf n' d
theorem mem_take_succ {α : Type} {l : List α} {j : Nat} {x : α} (h : x ∈ l.take j) : x ∈ l.take (j + 1) := by
  rw [List.take_add_one]
  exact List.mem_append_left _ h
theorem DepsOk.succ {d0 j : Nat} {deps : List Ch} (h : DepsOk d0 j deps) : DepsOk d0 (j + 1) deps := ⟨h.1, Nat.le_succ_of_le h.2.1, fun d hd => ⟨mem_take_succ (h.2.2 d hd).1, (h.2.2 d hd).2⟩⟩
theorem ks2_fresh {j : Nat} {s : Key} (h : ks2[j]? = some s) : s ∉ ks2.take j := by
  match j, h with
  | 0, _ => intro h; cases h
  | 1, h =>
    cases h
    decide
  | j + 2, h => cases h
theorem DepsOk.snoc {d0 d1 j : Nat} {deps : List Ch} {c : Ch} {s : Key} (h : DepsOk d0 j deps) (hs : ks2[j]? = some s) (hn : c.name = s) (hd : d0 = d1 + 1) (hc : CWf d1 c) : DepsOk d0 (j + 1) (deps ++ [c]) := by
  refine ⟨?_, ?_, fun d hm => ?_⟩
  · rw [List.map_append, List.nodup_append]
    refine ⟨h.1, by simp, fun a ha b hb e => ?_⟩
    obtain ⟨d, hd, rfl⟩ := List.mem_map.1 ha
    have hb' : b = c.name := by simpa using hb
    rw [hb', hn] at e
    have := (h.2.2 d hd).1
    rw [e] at this
    exact ks2_fresh hs this
  · have := h.2.1
    simp only [List.length_append, List.length_cons, List.length_nil]
    omega
  · rcases List.mem_append.1 hm with hm | hm
    · exact ⟨mem_take_succ (h.2.2 d hm).1, (h.2.2 d hm).2⟩
    · obtain rfl := List.mem_singleton.1 hm
      refine ⟨?_, d1, hd, hc⟩
      rw [take_snoc hs, hn]
      exact List.mem_append_right _ List.mem_cons_self
theorem DepsOk.wf {d0 : Nat} {deps : List Ch} (h : DepsOk d0 2 deps) {nm : Key} {es : List (Key × T)} (hn : nm.length ≤ 6) (hok : KeysOk es) (hg : Hg 2 (.tab es)) : CWf d0 (.mk nm es deps) := by
  cases d0 with
  | zero =>
    refine ⟨hn, hok, hg, ?_⟩
    cases deps with
    | nil => rfl
    | cons d deps => obtain ⟨_, n', e, _⟩ := h.2.2 d List.mem_cons_self; cases e
  | succ d0 =>
    refine ⟨hn, hok, hg, h.1, Nat.le_trans h.2.1 (by decide), fun d hd => ?_⟩
    obtain ⟨h1, n', e, h2⟩ := h.2.2 d hd
    cases e
    have h3 : d.name = [115, 117, 98] ∨ d.name = [100] := by simpa [ks2] using h1
    refine ⟨?_, ?_, h2⟩
    · rcases h3 with e | e <;> rw [e] <;> simp [Nm, names]
    · rcases h3 with e | e <;> rw [e] <;> decide

def cbud : Nat → Nat
  | 0 => 25
  | d + 1 => 31 + cbud d
def ChartOfSpec (W0 : World) (d0 : Nat) : Prop := ∀ (k : Nat) (lv : Value) (xs : List Int) (nm : Key) (M0 : Heap), ArgL W0 lv xs → nm.length ≤ 6 → k + cbud d0 ≤ 999999999 → d0 ≤ 100 →
  Tri Try.prog W0 20 [lv, .int .i64 (k : Int), .int .i64 (d0 : Int), str nm] M0 fun v M' => ∃ c a1 a2 m1 m2 mx, v = .tuple #[.agg a1, .agg a2] ∧ c.name = nm ∧ CWf d0 c ∧ RepI d0 c a1 m1 ∧ RepP d0 c a2 m2 ∧ M' = M0 ++ (m1 ++ (m2 ++ mx))

set_option maxHeartbeats 16000000 in
theorem chartOf_step (d0 : Nat) (hsub : ∀ d1, d0 = d1 + 1 → ChartOfSpec W0 d1) : ChartOfSpec W0 d0 := by
  intro k lv xs nm M0 hl hnm hk hd0
  obtain ⟨pl, cl, rfl, hcell⟩ := hl.form
  have hcb : 25 ≤ cbud d0 := by
    cases d0 with
    | zero => exact Nat.le_refl _
    | succ d => simp only [cbud]; omega
  refine tri_of 87 Try.func20 rfl Try.ntmps20 (Nat.le_of_ble_eq_true rfl) ?_
  refine c_seq ?_
  refine c_region ?_
  refine g_i (iv_allocA (z := iCells [] 0 false 0 [] nilS nilS nilS) Try.zeroValue51) rfl ?_
  rintro _ _ ⟨b8, rfl, rfl⟩
  refine g_i (iv_allocA (z := #[str [], .pointer none, nilS]) Try.zeroValue54) rfl ?_
  rintro _ _ ⟨b9, rfl, rfl⟩
  refine g_nil ?_
  refine e_seq ?_
  refine c_seq ?_
  refine c_region ?_
  refine g_q (qv_move rfl) rfl ?_
  refine g_i (iv_alloc1 Try.zeroValue3 rfl) rfl ?_
  rintro _ _ ⟨b10, rfl, rfl⟩
  refine g_i0 (iv_store (i := 0) (b := b10) (v := .int .i64 (k : Int)) rfl rfl rfl Try.sizeOf3 rfl (Nat.le_of_ble_eq_true rfl)) ?_
  rintro _ _ rfl
  refine g_nil ?_
  refine e_seq ?_
  refine c_seq ?_
  refine c_region ?_
  refine g_q (qv_move rfl) rfl ?_
  refine g_to (M' := (b10, .cells #[.int .i64 (k : Int)] 3 (0, 0)) :: ((b8, .cells (iCells [] 0 false 0 [] nilS nilS nilS) 51 (0, 0)) :: (b9, .cells #[str [], .pointer none, nilS] 54 (0, 0)) :: M0)) (fun f => by simp only [List.set_cons_zero, List.map_cons, List.sum_cons]; have : ∀ y : Value, (#[y].setIfInBounds 0 (.int .i64 (k : Int))) = #[.int .i64 (k : Int)] := fun _ => rfl; rw [this]; omega) ?_
  refine g_i (iv_call (vs := [.slice pl xs.length cl, ptr b10, .int .i64 ((1 : Nat) : Int)]) Try.call25 ⟨rfl, rfl, rfl, trivial⟩ (tableOf_any 1 b10 k _ xs _ hl (by decide) (by simp only [bud]; omega))) rfl ?_
  rintro _ _ ⟨_, k', ms, hrs, ⟨es, rfl⟩, hk1, hk2, rfl⟩
  rw [show bud 1 = 25 from rfl] at hk2
  obtain ⟨bs, _, _, _, _, _, _, rfl, _⟩ := hrs.kind
  refine g_q (qv_assign rfl) rfl ?_
  refine g_nil ?_
  refine e_seq ?_
  refine c_seq ?_
  refine c_region ?_
  refine g_q (qv_move rfl) rfl ?_
  refine g_q (qv_move rfl) rfl ?_
  refine g_i (iv_call (vs := [ptr bs]) Try.call12 ⟨rfl, trivial⟩ (of_any 2 (.tab es) (ptr bs) ms _ hrs (fun x hx => .tail _ (List.mem_append_right _ hx)))) rfl ?_
  rintro _ _ ⟨mdv, hrd, rfl⟩
  obtain ⟨kk, x, i, s, p1, n1, c1, p2, n2, c2, rfl⟩ := hrd.agg
  refine g_q (qv_build (vs := [(0, str nm), (1, .agg (dCells kk x i s (.slice p1 n1 c1) (.slice p2 n2 c2)))]) (cs := iCells nm kk x i s (.slice p1 n1 c1) (.slice p2 n2 c2) nilS) lay51 ⟨rfl, rfl, rfl, rfl, trivial⟩ (by kernel_rfl)) rfl ?_
  refine g_q (qv_move rfl) rfl ?_
  refine g_q (qv_move rfl) rfl ?_
  refine g_q (qv_build (vs := [(0, str nm), (1, ptr bs)]) (cs := #[str nm, ptr bs, nilS]) lay54 ⟨rfl, rfl, rfl, rfl, trivial⟩ (by kernel_rfl)) rfl ?_
  refine g_i (iv_allocA (z := iCells [] 0 false 0 [] nilS nilS nilS) Try.zeroValue51) rfl ?_
  rintro _ _ ⟨b12, rfl, rfl⟩
  refine g_i (iv_allocA (z := #[str [], .pointer none, nilS]) Try.zeroValue54) rfl ?_
  rintro _ _ ⟨b13, rfl, rfl⟩
  refine g_i0 (iv_storeA (i := 1) (b := b12) (vs := iCells nm kk x i s (.slice p1 n1 c1) (.slice p2 n2 c2) nilS) rfl rfl all_iCells Try.sizeOf51 rfl rfl) ?_
  rintro _ _ rfl
  refine g_i0 (iv_storeA (i := 0) (b := b13) (vs := #[str nm, ptr bs, nilS]) rfl rfl all_pCells Try.sizeOf54 rfl rfl) ?_
  rintro _ _ rfl
  refine g_nil ?_
  refine e_seq ?_
  refine c_seq ?_
  refine c_region ?_
  refine g_q (qv_move rfl) rfl ?_
  refine g_q (qv_conv rfl Try.runUnderlying3 Try.runUnderlying23 rfl) rfl ?_
  refine g_q (qv_assign rfl) rfl ?_
  refine g_nil ?_
  refine e_seq ?_
  refine c_to (M' := (b12, .cells (iCells nm kk x i s (.slice p1 n1 c1) (.slice p2 n2 c2) nilS) 51 (0, 0)) :: (b13, .cells #[str nm, ptr bs, nilS] 54 (0, 0)) :: (b10, .cells #[.int .i64 ((k' : Nat) : Int)] 3 (0, 0)) :: (b8, .cells (iCells [] 0 false 0 [] nilS nilS nilS) 51 (0, 0)) :: (b9, .cells #[str [], .pointer none, nilS] 54 (0, 0)) :: (ms ++ (mdv ++ M0))) (fun f => by simp only [List.set_cons_succ, List.set_cons_zero, List.map_cons, List.sum_cons, List.map_append, List.sum_append, List.cons_append]; omega) ?_
  refine c_cut (fun L' M' => ∃ w : Int, L' = [(0, .slice pl xs.length cl), (2, .int .i64 (d0 : Int)), (8, ptr b8), (9, ptr b9), (10, ptr b10), (12, ptr b12), (13, ptr b13), (14, .int .u32 w)] ∧ M' = (b12, .cells (iCells nm kk x i s (.slice p1 n1 c1) (.slice p2 n2 c2) nilS) 51 (0, 0)) :: (b13, .cells #[str nm, ptr bs, nilS] 54 (0, 0)) :: (b10, .cells #[.int .i64 ((k' : Nat) : Int)] 3 (0, 0)) :: (b8, .cells (iCells [] 0 false 0 [] nilS nilS nilS) 51 (0, 0)) :: (b9, .cells #[str [], .pointer none, nilS] 54 (0, 0)) :: (ms ++ (mdv ++ M0))) ?_ ?_
  · refine c_seq ?_
    refine c_region ?_
    refine g_q (qv_move rfl) rfl ?_
    refine g_q (qv_len_slice rfl Try.runUnderlying22) rfl ?_
    refine g_q (qv_gtr rfl rfl) rfl ?_
    refine g_nil ?_
    refine e_seq ?_
    refine c_cond rfl (fun hc => ?_) (fun hc => ?_)
    · have hlen : 0 < xs.length := by
        have := of_decide_eq_true hc
        omega
      obtain ⟨bl, off, hpl, hbl, hcl⟩ := hcell hlen
      have hm0 := Int.tmod_nonneg (a := (k : Int)) (xs.length : Int) (by omega)
      have hm1 := Int.tmod_lt_of_pos (k : Int) (show (0 : Int) < (xs.length : Int) by omega)
      generalize hq : ((k : Int)).tmod (xs.length : Int) = qq at hm0 hm1
      have hql : qq.toNat < xs.length := by omega
      obtain ⟨u, hu⟩ : ∃ u, xs[qq.toNat]? = some u := ⟨_, List.getElem?_eq_getElem hql⟩
      have hcu := hcl qq.toNat u hu
      refine c_region ?_
      refine g_q (qv_move rfl) rfl ?_
      refine g_q (qv_move rfl) rfl ?_
      refine g_q (qv_move rfl) rfl ?_
      refine g_q (qv_move rfl) rfl ?_
      refine g_q (qv_len_slice rfl Try.runUnderlying22) rfl ?_
      refine g_q (qv_rem (c := qq) rfl rfl (by omega) hq) rfl ?_
      refine g_q (qv_index (congrArg (fun z => some (Value.slice z xs.length cl)) hpl) rfl Try.runUnderlying22 Try.sizeOf23 hm0 hm1) rfl ?_
      refine g_q (qv_load_old (v := .int .u32 u) rfl Try.isAgg23 hbl (by rw [Nat.mul_one]; exact hcu)) rfl ?_
      refine g_q (qv_add rfl rfl rfl) rfl ?_
      refine g_q (qv_assign rfl) rfl ?_
      refine g_nil ?_
      exact e_mid (L' := [(0, .slice pl xs.length cl), (2, .int .i64 (d0 : Int)), (8, ptr b8), (9, ptr b9), (10, ptr b10), (12, ptr b12), (13, ptr b13), (14, .int .u32 _)]) ⟨rfl, rfl, rfl, rfl, rfl, rfl, rfl, rfl, trivial⟩ ⟨_, rfl, rfl⟩
    · refine c_skip ?_
      exact e_mid (L' := [(0, .slice pl xs.length cl), (2, .int .i64 (d0 : Int)), (8, ptr b8), (9, ptr b9), (10, ptr b10), (12, ptr b12), (13, ptr b13), (14, .int .u32 _)]) ⟨rfl, rfl, rfl, rfl, rfl, rfl, rfl, rfl, trivial⟩ ⟨_, rfl, rfl⟩
  · rintro _ _ ⟨w, rfl, rfl⟩
    refine c_seq ?_
    refine c_seq ?_
    refine c_region ?_
    refine g_i (iv_buildSlice (vs := [(0, str [115, 117, 98]), (1, str [100])]) (cs := #[str [115, 117, 98], str [100]]) Try.runUnderlying27 Try.sizeOf9 Try.zeroValue9 ⟨rfl, rfl, rfl, rfl, trivial⟩ rfl (by kernel_rfl) rfl) rfl ?_
    rintro _ _ ⟨g, rfl, rfl⟩
    refine g_q (qv_len_slice rfl Try.runUnderlying27) rfl ?_
    refine g_q (qv_move rfl) rfl ?_
    refine g_nil ?_
    refine e_seq ?_
    refine c_block ?_
    refine c_keep (L' := [(0, .slice pl xs.length cl), (2, .int .i64 (d0 : Int)), (8, ptr b8), (9, ptr b9), (10, ptr b10), (12, ptr b12), (13, ptr b13), (14, .int .u32 w), (43, .slice (some ⟨g, 0, none⟩) 2 2), (44, .int .i64 2), (45, .int .i64 (((0 : Nat)) : Int))]) ⟨rfl, rfl, rfl, rfl, rfl, rfl, rfl, rfl, rfl, rfl, rfl, trivial⟩ ?_
    refine c_to (M' := (b12, .cells (iCells nm kk x i s (.slice p1 n1 c1) (.slice p2 n2 c2) nilS) 51 (0, 0)) :: (b13, .cells #[str nm, ptr bs, nilS] 54 (0, 0)) :: (b10, .cells #[.int .i64 ((k' : Nat) : Int)] 3 (0, 0)) :: (g, .cells #[str [115, 117, 98], str [100]] 9 (0, 0)) :: (b8, .cells (iCells [] 0 false 0 [] nilS nilS nilS) 51 (0, 0)) :: (b9, .cells #[str [], .pointer none, nilS] 54 (0, 0)) :: ([] ++ ([] ++ ([] ++ ([] ++ (ms ++ (mdv ++ M0))))))) (fun f => by simp only [List.nil_append, List.map_cons, List.sum_cons, List.map_append, List.sum_append]; omega) ?_
    refine c_loop (ι := Nat) (fun j L M' => ∃ deps cs1 cs2 md1 mk1 md2 mk2 q1 e1 q2 e2, L = [(0, .slice pl xs.length cl), (2, .int .i64 (d0 : Int)), (8, ptr b8), (9, ptr b9), (10, ptr b10), (12, ptr b12), (13, ptr b13), (14, .int .u32 w), (43, .slice (some ⟨g, 0, none⟩) 2 2), (44, .int .i64 2), (45, .int .i64 (j : Int))] ∧ j ≤ 2 ∧ DepsOk d0 j deps ∧ Row 51 9 (.slice q1 (List.length deps) e1) deps.length cs1 md1 ∧ CKids 9 (fun d a m => ∃ n', d0 = n' + 1 ∧ RepI n' d a m) deps cs1 mk1 ∧ Row 54 3 (.slice q2 (List.length deps) e2) deps.length cs2 md2 ∧ CKids 3 (fun d a m => ∃ n', d0 = n' + 1 ∧ RepP n' d a m) deps cs2 mk2 ∧ M' = (b12, .cells (iCells nm kk x i s (.slice p1 n1 c1) (.slice p2 n2 c2) (.slice q1 deps.length e1)) 51 (0, 0)) :: (b13, .cells #[str nm, ptr bs, (.slice q2 deps.length e2)] 54 (0, 0)) :: (b10, .cells #[.int .i64 ((k' : Nat) : Int)] 3 (0, 0)) :: (g, .cells #[str [115, 117, 98], str [100]] 9 (0, 0)) :: (b8, .cells (iCells [] 0 false 0 [] nilS nilS nilS) 51 (0, 0)) :: (b9, .cells #[str [], .pointer none, nilS] 54 (0, 0)) :: (md1 ++ (mk1 ++ (md2 ++ (mk2 ++ (ms ++ (mdv ++ M0))))))) (fun j => 2 - j) 0 ⟨[], [], [], [], [], [], [], none, 0, none, 0, rfl, by decide, ⟨List.Pairwise.nil, Nat.zero_le _, fun d hd => (by cases hd)⟩, Row.nil _ _, ⟨rfl, rfl⟩, Row.nil _ _, ⟨rfl, rfl⟩, rfl⟩ ?_
    rintro j _ _ ⟨deps, cs1, cs2, md1, mk1, md2, mk2, q1, e1, q2, e2, rfl, hj, hok, hrow1, hck1, hrow2, hck2, rfl⟩
    refine c_seq ?_
    refine c_region ?_
    refine g_q (qv_lss rfl rfl) rfl ?_
    refine g_nil ?_
    refine e_seq ?_
    refine c_seq ?_
    refine c_cond rfl (fun hc => ?_) (fun hc => ?_)
    · have hlt : j < 2 := by
        have := of_decide_eq_true hc
        omega
      obtain ⟨sn, hsj⟩ : ∃ s, ks2[j]? = some s := ⟨_, List.getElem?_eq_getElem (show j < ks2.length from hlt)⟩
      have hsl : sn.length ≤ 6 := by
        have hm : sn = [115, 117, 98] ∨ sn = [100] := by simpa [ks2] using List.mem_of_getElem? hsj
        rcases hm with e | e <;> rw [e] <;> decide
      have hdl := hok.2.1
      have hss : (#[str [115, 117, 98], str [100]] : Array Value).toList[0 + j * 1]? = some (str sn) := by
        have h2 : (ks2.map str)[j]? = some (str sn) := by rw [List.getElem?_map, hsj]; rfl
        rw [Nat.zero_add, Nat.mul_one]
        exact h2
      refine c_skip ?_
      refine e_seq ?_
      refine c_seq ?_
      refine c_block ?_
      refine c_seq ?_
      refine c_region ?_
      refine g_q (qv_move rfl) rfl ?_
      refine g_q (qv_index rfl rfl Try.runUnderlying27 Try.sizeOf9 (by omega) (by omega)) rfl ?_
      refine g_q (qv_load (v := str sn) rfl Try.isAgg9 m3 hss) rfl ?_
      refine g_q (qv_assign rfl) rfl ?_
      refine g_q (qv_assign rfl) rfl ?_
      refine g_nil ?_
      refine e_seq ?_
      rcases Nat.eq_zero_or_pos d0 with hz | hz
      · refine c_seq ?_
        refine c_region ?_
        refine g_q (qv_move rfl) rfl ?_
        refine g_q (QV.to (v' := .bool false) (qv_gtr rfl rfl) (congrArg Value.bool (decide_eq_false (by omega)))) rfl ?_
        refine g_q (qv_move rfl) rfl ?_
        refine g_off rfl rfl rfl rfl ?_
        refine g_off rfl rfl rfl rfl ?_
        refine g_off rfl rfl rfl rfl ?_
        refine g_off rfl rfl rfl rfl ?_
        refine g_off rfl rfl rfl rfl ?_
        refine g_off rfl rfl rfl rfl ?_
        refine g_q (qv_pick_f rfl rfl) rfl ?_
        refine g_nil ?_
        refine e_seq ?_
        refine c_false rfl ?_
        refine c_skip ?_
        refine e_normal_block ?_
        refine e_seq ?_
        refine c_region ?_
        refine g_q (qv_add (c := ((j + 1 : Nat) : Int)) rfl rfl (by rw [wrap_i64 (by omega) (by omega)]; omega)) rfl ?_
        refine g_q (qv_move rfl) rfl ?_
        refine g_nil ?_
        exact e_again (j + 1) (by omega) (L' := [(0, .slice pl xs.length cl), (2, .int .i64 (d0 : Int)), (8, ptr b8), (9, ptr b9), (10, ptr b10), (12, ptr b12), (13, ptr b13), (14, .int .u32 w), (43, .slice (some ⟨g, 0, none⟩) 2 2), (44, .int .i64 2), (45, .int .i64 (((j + 1 : Nat)) : Int))]) ⟨rfl, rfl, rfl, rfl, rfl, rfl, rfl, rfl, rfl, rfl, rfl, trivial⟩ ⟨deps, cs1, cs2, md1, mk1, md2, mk2, q1, e1, q2, e2, rfl, by omega, hok.succ, hrow1, hck1, hrow2, hck2, rfl⟩
      · obtain ⟨d1, hd1⟩ : ∃ d1, d0 = d1 + 1 := ⟨d0 - 1, by omega⟩
        refine c_seq ?_
        refine c_region ?_
        refine g_q (qv_move rfl) rfl ?_
        refine g_q (QV.to (v' := .bool true) (qv_gtr rfl rfl) (congrArg Value.bool (decide_eq_true (by omega)))) rfl ?_
        refine g_q (qv_move rfl) rfl ?_
        refine g_on rfl rfl ?_
        refine g_q (qv_move rfl) rfl ?_
        refine g_on rfl rfl ?_
        refine g_q (qv_move rfl) rfl ?_
        refine g_on rfl rfl ?_
        refine g_q (qv_add (c := ((4 + j : Nat) : Int)) rfl rfl (by rw [wrap_i64 (by omega) (by omega)]; omega)) rfl ?_
        refine g_on rfl rfl ?_
        refine g_q (qv_shr rfl rfl (by omega) rfl) rfl ?_
        refine g_on rfl rfl ?_
        refine g_q (qv_and rfl rfl (fun _ => rfl)) rfl ?_
        refine g_on rfl rfl ?_
        refine g_q (qv_eqi rfl rfl) rfl ?_
        generalize decide (_ = (1 : Int)) = tb
        refine g_q (qv_pick_t rfl rfl) rfl ?_
        refine g_nil ?_
        refine e_seq ?_
        refine c_cond rfl (fun hc2 => ?_) (fun hc2 => ?_)
        · refine c_seq ?_
          refine c_region ?_
          refine g_q (qv_move rfl) rfl ?_
          refine g_q (qv_load (v := .int .i64 ((k' : Nat) : Int)) rfl Try.isAgg3 m2 rfl) rfl ?_
          refine g_q (qv_add (c := ((k' + 5 : Nat) : Int)) rfl rfl (by rw [wrap_i64 (by omega) (by omega)]; omega)) rfl ?_
          refine g_q (qv_move rfl) rfl ?_
          refine g_q (qv_add (c := ((k' + 5 + j : Nat) : Int)) rfl rfl (by rw [wrap_i64 (by omega) (by omega)]; omega)) rfl ?_
          refine g_q (qv_move rfl) rfl ?_
          refine g_q (qv_sub (c := ((d1 : Nat) : Int)) rfl rfl (by rw [wrap_i64 (by omega) (by omega)]; omega)) rfl ?_
          refine g_q (qv_move rfl) rfl ?_
          refine g_i (iv_call (vs := [.slice pl xs.length cl, .int .i64 ((k' + 5 + j : Nat) : Int), .int .i64 ((d1 : Nat) : Int), str sn]) Try.call20 ⟨rfl, rfl, rfl, rfl, trivial⟩ (hsub d1 hd1 (k' + 5 + j) _ xs sn _ hl hsl (by rw [hd1] at hk; simp only [cbud] at hk; omega) (by omega))) rfl ?_
          rintro _ _ ⟨c2', a1, a2, mi1, mp1, mx1, rfl, hn2, hwf2, hri, hrp, rfl⟩
          obtain ⟨ki, xi, ii, si, ai1, bi1, ci1, ai2, bi2, ci2, ai3, bi3, ci3, rfl⟩ := RepI.cells hri
          obtain ⟨bj, aj1, bj1, cj1, rfl⟩ := RepP.cells hrp
          rw [hn2] at hri hrp ⊢
          refine g_q (qv_move rfl) rfl ?_
          refine g_q (qv_extract rfl rfl) rfl ?_
          refine g_q (qv_extract rfl rfl) rfl ?_
          refine g_i (iv_allocA (z := iCells [] 0 false 0 [] nilS nilS nilS) Try.zeroValue51) rfl ?_
          rintro _ _ ⟨b17, rfl, rfl⟩
          refine g_i (iv_allocA (z := #[str [], .pointer none, nilS]) Try.zeroValue54) rfl ?_
          rintro _ _ ⟨b18, rfl, rfl⟩
          refine g_i0 (iv_storeA (i := 1) (b := b17) (vs := (iCells sn ki xi ii si (.slice ai1 bi1 ci1) (.slice ai2 bi2 ci2) (.slice ai3 bi3 ci3))) rfl rfl all_iCells Try.sizeOf51 rfl rfl) ?_
          rintro _ _ rfl
          refine g_i0 (iv_storeA (i := 0) (b := b18) (vs := #[str sn, ptr bj, .slice aj1 bj1 cj1]) rfl rfl all_pCells Try.sizeOf54 rfl rfl) ?_
          rintro _ _ rfl
          refine g_nil ?_
          refine e_seq ?_
          obtain ⟨x12, hx12⟩ : ∃ y : Nat × Obj, y = (b12, .cells (iCells nm kk x i s (.slice p1 n1 c1) (.slice p2 n2 c2) (.slice q1 deps.length e1)) 51 (0, 0)) := ⟨_, rfl⟩
          obtain ⟨x13, hx13⟩ : ∃ y : Nat × Obj, y = (b13, .cells #[str nm, ptr bs, (.slice q2 deps.length e2)] 54 (0, 0)) := ⟨_, rfl⟩
          obtain ⟨x17, hx17⟩ : ∃ y : Nat × Obj, y = (b17, .cells (iCells sn ki xi ii si (.slice ai1 bi1 ci1) (.slice ai2 bi2 ci2) (.slice ai3 bi3 ci3)) 51 (0, 0)) := ⟨_, rfl⟩
          obtain ⟨x18, hx18⟩ : ∃ y : Nat × Obj, y = (b18, .cells #[str sn, ptr bj, .slice aj1 bj1 cj1] 54 (0, 0)) := ⟨_, rfl⟩
          obtain ⟨oth, hoth⟩ : ∃ o : Heap, o = (b10, .cells #[.int .i64 ((k' : Nat) : Int)] 3 (0, 0)) :: (g, .cells #[str [115, 117, 98], str [100]] 9 (0, 0)) :: (b8, .cells (iCells [] 0 false 0 [] nilS nilS nilS) 51 (0, 0)) :: (b9, .cells #[str [], .pointer none, nilS] 54 (0, 0)) :: (mk1 ++ (mk2 ++ (mi1 ++ (mp1 ++ (ms ++ (mdv ++ M0)))))) := ⟨_, rfl⟩
          refine c_to (M' := md1 ++ (md2 ++ (x12 :: x13 :: x17 :: x18 :: oth))) (fun f => by rw [hx12, hx13, hx17, hx18, hoth]; simp only [List.set_cons_succ, List.set_cons_zero, List.map_cons, List.sum_cons, List.map_append, List.sum_append, List.cons_append]; omega) ?_
          have hRB : ∀ z, z ∈ (x13 :: x17 :: x18 :: []) → z ∈ (x12 :: x13 :: x17 :: x18 :: oth) := fun z hz => by
            simp only [List.mem_cons, List.not_mem_nil, or_false] at hz ⊢
            rcases hz with h | h | h
            · exact Or.inr (Or.inl h)
            · exact Or.inr (Or.inr (Or.inl h))
            · exact Or.inr (Or.inr (Or.inr (Or.inl h)))
          have hm13 : (b13, Obj.cells #[str nm, ptr bs, (.slice q2 deps.length e2)] 54 (0, 0)) ∈ (x13 :: x17 :: x18 :: []) := by rw [hx13]; exact m0
          have hm17 : (b17, Obj.cells (iCells sn ki xi ii si (.slice ai1 bi1 ci1) (.slice ai2 bi2 ci2) (.slice ai3 bi3 ci3)) 51 (0, 0)) ∈ (x13 :: x17 :: x18 :: []) := by rw [hx17]; exact m1
          have hm18 : (b18, Obj.cells #[str sn, ptr bj, .slice aj1 bj1 cj1] 54 (0, 0)) ∈ (x13 :: x17 :: x18 :: []) := by rw [hx18]; exact m2
          have hm12 : (b12, Obj.cells (iCells nm kk x i s (.slice p1 n1 c1) (.slice p2 n2 c2) (.slice q1 deps.length e1)) 51 (0, 0)) ∈ (x12 :: x13 :: x17 :: x18 :: oth) := by rw [hx12]; exact m0
          refine c_draw (x13 :: x17 :: x18 :: []) (fun i => !(i == 13)) Try.mixed ?_
          refine d_takeW 0 rfl (by kernel_rfl) (by kernel_rfl) (by kernel_rfl) rfl (fun _ => qv_field rfl Try.runUnderlying51 rfl Try.sizeOf49 rfl) ?_
          refine d_take 2 rfl (by kernel_rfl) (by kernel_rfl) (by kernel_rfl) (by kernel_rfl) rfl (qv_loadA (vs := (iCells sn ki xi ii si (.slice ai1 bi1 ci1) (.slice ai2 bi2 ci2) (.slice ai3 bi3 ci3)).toList) rfl Try.isAgg51 Try.sizeOf51 hm17 (fun _ _ h => by simpa using h)) (fun x hx => List.mem_append_right _ (List.mem_append_right _ (hRB x hx))) ?_
          refine d_takeW 5 rfl (by kernel_rfl) (by kernel_rfl) (by kernel_rfl) rfl (fun _ => qv_field rfl Try.runUnderlying54 rfl Try.sizeOf52 rfl) ?_
          refine d_take 6 rfl (by kernel_rfl) (by kernel_rfl) (by kernel_rfl) (by kernel_rfl) rfl (qv_load (v := .slice q2 deps.length e2) rfl Try.isAgg52 hm13 rfl) (fun x hx => List.mem_append_right _ (List.mem_append_right _ (hRB x hx))) ?_
          refine d_take 7 rfl (by kernel_rfl) (by kernel_rfl) (by kernel_rfl) (by kernel_rfl) rfl (qv_loadA (vs := #[str sn, ptr bj, .slice aj1 bj1 cj1].toList) rfl Try.isAgg54 Try.sizeOf54 hm18 (fun _ _ h => by simpa using h)) (fun x hx => List.mem_append_right _ (List.mem_append_right _ (hRB x hx))) ?_
          refine d_or3 1 3 8 (by kernel_rfl) ?_ ?_ ?_
          · refine di_to (M' := md1 ++ (md2 ++ (x12 :: x13 :: x17 :: x18 :: oth))) (fun f => by simp only [List.map_cons, List.sum_cons, List.map_append, List.sum_append]; omega) ?_
            refine di_run 1 rfl rfl (qv_load (v := .slice q1 deps.length e1) rfl Try.isAgg49 (List.mem_append_right _ (List.mem_append_right _ hm12)) rfl).iv (by rintro _ _ ⟨rfl, rfl⟩ _ z hz; exact List.mem_append_right _ (List.mem_append_right _ (hRB z hz))) ?_
            rintro _ _ ⟨rfl, rfl⟩
            refine d_or 3 8 (by kernel_rfl) ?_ ?_
            · refine di_to (M' := md1 ++ (md2 ++ (x12 :: x13 :: x17 :: x18 :: oth))) (fun f => by simp only [List.map_cons, List.sum_cons, List.map_append, List.sum_append]; omega) ?_
              refine di_run 3 rfl rfl (iv_buildSlice (vs := [(0, .agg (iCells sn ki xi ii si (.slice ai1 bi1 ci1) (.slice ai2 bi2 ci2) (.slice ai3 bi3 ci3)))]) (cs := (iCells sn ki xi ii si (.slice ai1 bi1 ci1) (.slice ai2 bi2 ci2) (.slice ai3 bi3 ci3))) Try.runUnderlying49 Try.sizeOf51 Try.zeroValue51 ⟨rfl, rfl, trivial⟩ rfl (by kernel_rfl) rfl) (by rintro _ _ ⟨_, _, rfl⟩ _ x hx; exact .tail _ (List.mem_append_right _ (List.mem_append_right _ (hRB x hx)))) ?_
              rintro _ _ ⟨bs1, rfl, rfl⟩
              refine d_or 4 8 (by kernel_rfl) ?_ ?_
              · refine di_to (M' := ((bs1, .cells (iCells sn ki xi ii si (.slice ai1 bi1 ci1) (.slice ai2 bi2 ci2) (.slice ai3 bi3 ci3)) 51 (0, 0)) :: md1) ++ (md2 ++ (x12 :: x13 :: x17 :: x18 :: oth))) (fun f => by simp only [List.map_cons, List.sum_cons, List.map_append, List.sum_append, List.cons_append]; omega) ?_
                refine di_run 4 rfl rfl (iv_append (pre := []) (m := md1) (F := md2 ++ (x12 :: x13 :: x17 :: x18 :: oth)) (k := 1) rfl rfl Try.underlying49 info51 rfl rfl rfl hrow1 rfl all_iCells (by decide) (by decide) (by omega) rfl) (by rintro _ _ ⟨_, _, rfl⟩ _ x hx; exact List.mem_append_right _ (List.mem_append_right _ (List.mem_append_right _ (hRB x hx)))) ?_
                rintro v1 _ ⟨md1', hrow1', rfl⟩
                obtain ⟨q1', e1', rfl⟩ := hrow1'.shape
                refine d_takeW 10 rfl (by kernel_rfl) (by kernel_rfl) (by kernel_rfl) rfl (fun _ => qv_field rfl Try.runUnderlying51 rfl Try.sizeOf49 rfl) ?_
                refine d_to (M' := md2 ++ (md1' ++ (x12 :: x13 :: x17 :: x18 :: oth))) (fun f => by simp only [List.nil_append, List.map_cons, List.sum_cons, List.map_append, List.sum_append]; omega) ?_
                refine d_run 8 rfl (by kernel_rfl) rfl (iv_buildSlice (vs := [(0, .agg #[str sn, ptr bj, .slice aj1 bj1 cj1])]) (cs := #[str sn, ptr bj, .slice aj1 bj1 cj1]) Try.runUnderlying52 Try.sizeOf54 Try.zeroValue54 ⟨rfl, rfl, trivial⟩ rfl (by kernel_rfl) rfl) (by rintro _ _ ⟨_, _, rfl⟩ _ x hx; exact .tail _ (List.mem_append_right _ (List.mem_append_right _ (hRB x hx)))) ?_
                rintro _ _ ⟨bs2, rfl, rfl⟩
                refine d_to (M' := ((bs2, .cells #[str sn, ptr bj, .slice aj1 bj1 cj1] 54 (0, 0)) :: md2) ++ (md1' ++ (x12 :: x13 :: x17 :: x18 :: oth))) (fun f => by simp only [List.map_cons, List.sum_cons, List.map_append, List.sum_append, List.cons_append]; omega) ?_
                refine d_run 9 rfl (by kernel_rfl) rfl (iv_append (pre := []) (m := md2) (F := md1' ++ (x12 :: x13 :: x17 :: x18 :: oth)) (k := 1) rfl rfl Try.underlying52 info54 rfl rfl rfl hrow2 rfl all_pCells (by decide) (by decide) (by omega) rfl) (by rintro _ _ ⟨_, _, rfl⟩ _ x hx; exact List.mem_append_right _ (List.mem_append_right _ (List.mem_append_right _ (hRB x hx)))) ?_
                rintro v2 _ ⟨md2', hrow2', rfl⟩
                obtain ⟨q2', e2', rfl⟩ := hrow2'.shape
                refine d_to (M' := (b12, .cells (iCells nm kk x i s (.slice p1 n1 c1) (.slice p2 n2 c2) (.slice q1 deps.length e1)) 51 (0, 0)) :: (b13, .cells #[str nm, ptr bs, (.slice q2 deps.length e2)] 54 (0, 0)) :: x17 :: x18 :: (md1' ++ (md2' ++ oth))) (fun f => by rw [hx12, hx13]; simp only [List.nil_append, List.map_cons, List.sum_cons, List.map_append, List.sum_append]; omega) ?_
                refine d_run0 11 rfl (by kernel_rfl) (iv_store (i := 0) (b := b12) (v := (.slice q1' (deps.length + 1) e1')) rfl rfl rfl Try.sizeOf49 rfl (Nat.le_of_ble_eq_true rfl)) (by rintro _ _ rfl _ z hz; rw [hx13] at hz; simp only [List.set_cons_zero, List.mem_cons, List.not_mem_nil, or_false] at hz ⊢; rcases hz with h | h | h; exact Or.inr (Or.inl h); exact Or.inr (Or.inr (Or.inl h)); exact Or.inr (Or.inr (Or.inr (Or.inl h)))) ?_
                rintro _ _ rfl
                refine d_takeW 12 rfl (by kernel_rfl) (by kernel_rfl) (by kernel_rfl) rfl (fun _ => qv_field rfl Try.runUnderlying54 rfl Try.sizeOf52 rfl) ?_
                refine d_run0 13 rfl (by kernel_rfl) (iv_store (i := 1) (b := b13) (v := (.slice q2' (deps.length + 1) e2')) rfl rfl rfl Try.sizeOf52 rfl (Nat.le_of_ble_eq_true rfl)) (fun _ _ _ h => by cases h) ?_
                rintro _ _ rfl
                refine d_done (by kernel_rfl) ?_
                refine e_normal_block ?_
                refine e_seq ?_
                refine c_region ?_
                refine g_q (qv_add (c := ((j + 1 : Nat) : Int)) rfl rfl (by rw [wrap_i64 (by omega) (by omega)]; omega)) rfl ?_
                refine g_q (qv_move rfl) rfl ?_
                refine g_nil ?_
                have hl2 : (deps ++ [c2']).length = deps.length + 1 := by simp
                refine e_to (M' := (b12, .cells (iCells nm kk x i s (.slice p1 n1 c1) (.slice p2 n2 c2) (.slice q1' (deps.length + 1) e1')) 51 (0, 0)) :: (b13, .cells #[str nm, ptr bs, (.slice q2' (deps.length + 1) e2')] 54 (0, 0)) :: x17 :: x18 :: (md1' ++ (md2' ++ oth))) (Fits.refl _) ?_
                refine e_to (M' := (b12, .cells (iCells nm kk x i s (.slice p1 n1 c1) (.slice p2 n2 c2) (.slice q1' (deps ++ [c2']).length e1')) 51 (0, 0)) :: (b13, .cells #[str nm, ptr bs, (.slice q2' (deps ++ [c2']).length e2')] 54 (0, 0)) :: (b10, .cells #[.int .i64 ((k' : Nat) : Int)] 3 (0, 0)) :: (g, .cells #[str [115, 117, 98], str [100]] 9 (0, 0)) :: (b8, .cells (iCells [] 0 false 0 [] nilS nilS nilS) 51 (0, 0)) :: (b9, .cells #[str [], .pointer none, nilS] 54 (0, 0)) :: (md1' ++ ((mk1 ++ mi1) ++ (md2' ++ ((mk2 ++ mp1) ++ (ms ++ (mdv ++ M0))))))) (fun f => by rw [hl2, hoth]; simp only [List.map_cons, List.sum_cons, List.map_append, List.sum_append]; omega) ?_
                exact e_again (j + 1) (by omega) (L' := [(0, .slice pl xs.length cl), (2, .int .i64 (d0 : Int)), (8, ptr b8), (9, ptr b9), (10, ptr b10), (12, ptr b12), (13, ptr b13), (14, .int .u32 w), (43, .slice (some ⟨g, 0, none⟩) 2 2), (44, .int .i64 2), (45, .int .i64 (((j + 1 : Nat)) : Int))]) ⟨rfl, rfl, rfl, rfl, rfl, rfl, rfl, rfl, rfl, rfl, rfl, trivial⟩ ⟨deps ++ [c2'], _, _, md1', mk1 ++ mi1, md2', mk2 ++ mp1, q1', e1', q2', e2', rfl, by omega, hok.snoc hsj hn2 hd1 hwf2, by rw [hl2]; exact hrow1', hck1.snoc (c := (iCells sn ki xi ii si (.slice ai1 bi1 ci1) (.slice ai2 bi2 ci2) (.slice ai3 bi3 ci3))) rfl ⟨d1, hd1, hri⟩, by rw [hl2]; exact hrow2', hck2.snoc (c := #[str sn, ptr bj, .slice aj1 bj1 cj1]) rfl ⟨d1, hd1, hrp⟩, rfl⟩
              · refine di_to (M' := md2 ++ (((bs1, .cells (iCells sn ki xi ii si (.slice ai1 bi1 ci1) (.slice ai2 bi2 ci2) (.slice ai3 bi3 ci3)) 51 (0, 0)) :: md1) ++ (x12 :: x13 :: x17 :: x18 :: oth))) (fun f => by simp only [List.map_cons, List.sum_cons, List.map_append, List.sum_append, List.cons_append]; omega) ?_
                refine di_run 8 rfl rfl (iv_buildSlice (vs := [(0, .agg #[str sn, ptr bj, .slice aj1 bj1 cj1])]) (cs := #[str sn, ptr bj, .slice aj1 bj1 cj1]) Try.runUnderlying52 Try.sizeOf54 Try.zeroValue54 ⟨rfl, rfl, trivial⟩ rfl (by kernel_rfl) rfl) (by rintro _ _ ⟨_, _, rfl⟩ _ x hx; exact .tail _ (List.mem_append_right _ (List.mem_append_right _ (hRB x hx)))) ?_
                rintro _ _ ⟨bs2, rfl, rfl⟩
                refine d_to (M' := ((bs1, .cells (iCells sn ki xi ii si (.slice ai1 bi1 ci1) (.slice ai2 bi2 ci2) (.slice ai3 bi3 ci3)) 51 (0, 0)) :: md1) ++ (((bs2, .cells #[str sn, ptr bj, .slice aj1 bj1 cj1] 54 (0, 0)) :: md2) ++ (x12 :: x13 :: x17 :: x18 :: oth))) (fun f => by simp only [List.map_cons, List.sum_cons, List.map_append, List.sum_append, List.cons_append]; omega) ?_
                refine d_run 4 rfl (by kernel_rfl) rfl (iv_append (pre := []) (m := md1) (F := ((bs2, .cells #[str sn, ptr bj, .slice aj1 bj1 cj1] 54 (0, 0)) :: md2) ++ (x12 :: x13 :: x17 :: x18 :: oth)) (k := 1) rfl rfl Try.underlying49 info51 rfl rfl rfl hrow1 rfl all_iCells (by decide) (by decide) (by omega) rfl) (by rintro _ _ ⟨_, _, rfl⟩ _ x hx; exact List.mem_append_right _ (List.mem_append_right _ (List.mem_append_right _ (hRB x hx)))) ?_
                rintro v1 _ ⟨md1', hrow1', rfl⟩
                obtain ⟨q1', e1', rfl⟩ := hrow1'.shape
                refine d_takeW 10 rfl (by kernel_rfl) (by kernel_rfl) (by kernel_rfl) rfl (fun _ => qv_field rfl Try.runUnderlying51 rfl Try.sizeOf49 rfl) ?_
                refine d_to (M' := ((bs2, .cells #[str sn, ptr bj, .slice aj1 bj1 cj1] 54 (0, 0)) :: md2) ++ (md1' ++ (x12 :: x13 :: x17 :: x18 :: oth))) (fun f => by simp only [List.nil_append, List.map_cons, List.sum_cons, List.map_append, List.sum_append, List.cons_append]; omega) ?_
                refine d_run 9 rfl (by kernel_rfl) rfl (iv_append (pre := []) (m := md2) (F := md1' ++ (x12 :: x13 :: x17 :: x18 :: oth)) (k := 1) rfl rfl Try.underlying52 info54 rfl rfl rfl hrow2 rfl all_pCells (by decide) (by decide) (by omega) rfl) (by rintro _ _ ⟨_, _, rfl⟩ _ x hx; exact List.mem_append_right _ (List.mem_append_right _ (List.mem_append_right _ (hRB x hx)))) ?_
                rintro v2 _ ⟨md2', hrow2', rfl⟩
                obtain ⟨q2', e2', rfl⟩ := hrow2'.shape
                refine d_to (M' := (b12, .cells (iCells nm kk x i s (.slice p1 n1 c1) (.slice p2 n2 c2) (.slice q1 deps.length e1)) 51 (0, 0)) :: (b13, .cells #[str nm, ptr bs, (.slice q2 deps.length e2)] 54 (0, 0)) :: x17 :: x18 :: (md1' ++ (md2' ++ oth))) (fun f => by rw [hx12, hx13]; simp only [List.nil_append, List.map_cons, List.sum_cons, List.map_append, List.sum_append]; omega) ?_
                refine d_run0 11 rfl (by kernel_rfl) (iv_store (i := 0) (b := b12) (v := (.slice q1' (deps.length + 1) e1')) rfl rfl rfl Try.sizeOf49 rfl (Nat.le_of_ble_eq_true rfl)) (by rintro _ _ rfl _ z hz; rw [hx13] at hz; simp only [List.set_cons_zero, List.mem_cons, List.not_mem_nil, or_false] at hz ⊢; rcases hz with h | h | h; exact Or.inr (Or.inl h); exact Or.inr (Or.inr (Or.inl h)); exact Or.inr (Or.inr (Or.inr (Or.inl h)))) ?_
                rintro _ _ rfl
                refine d_takeW 12 rfl (by kernel_rfl) (by kernel_rfl) (by kernel_rfl) rfl (fun _ => qv_field rfl Try.runUnderlying54 rfl Try.sizeOf52 rfl) ?_
                refine d_run0 13 rfl (by kernel_rfl) (iv_store (i := 1) (b := b13) (v := (.slice q2' (deps.length + 1) e2')) rfl rfl rfl Try.sizeOf52 rfl (Nat.le_of_ble_eq_true rfl)) (fun _ _ _ h => by cases h) ?_
                rintro _ _ rfl
                refine d_done (by kernel_rfl) ?_
                refine e_normal_block ?_
                refine e_seq ?_
                refine c_region ?_
                refine g_q (qv_add (c := ((j + 1 : Nat) : Int)) rfl rfl (by rw [wrap_i64 (by omega) (by omega)]; omega)) rfl ?_
                refine g_q (qv_move rfl) rfl ?_
                refine g_nil ?_
                have hl2 : (deps ++ [c2']).length = deps.length + 1 := by simp
                refine e_to (M' := (b12, .cells (iCells nm kk x i s (.slice p1 n1 c1) (.slice p2 n2 c2) (.slice q1' (deps.length + 1) e1')) 51 (0, 0)) :: (b13, .cells #[str nm, ptr bs, (.slice q2' (deps.length + 1) e2')] 54 (0, 0)) :: x17 :: x18 :: (md1' ++ (md2' ++ oth))) (Fits.refl _) ?_
                refine e_to (M' := (b12, .cells (iCells nm kk x i s (.slice p1 n1 c1) (.slice p2 n2 c2) (.slice q1' (deps ++ [c2']).length e1')) 51 (0, 0)) :: (b13, .cells #[str nm, ptr bs, (.slice q2' (deps ++ [c2']).length e2')] 54 (0, 0)) :: (b10, .cells #[.int .i64 ((k' : Nat) : Int)] 3 (0, 0)) :: (g, .cells #[str [115, 117, 98], str [100]] 9 (0, 0)) :: (b8, .cells (iCells [] 0 false 0 [] nilS nilS nilS) 51 (0, 0)) :: (b9, .cells #[str [], .pointer none, nilS] 54 (0, 0)) :: (md1' ++ ((mk1 ++ mi1) ++ (md2' ++ ((mk2 ++ mp1) ++ (ms ++ (mdv ++ M0))))))) (fun f => by rw [hl2, hoth]; simp only [List.map_cons, List.sum_cons, List.map_append, List.sum_append]; omega) ?_
                exact e_again (j + 1) (by omega) (L' := [(0, .slice pl xs.length cl), (2, .int .i64 (d0 : Int)), (8, ptr b8), (9, ptr b9), (10, ptr b10), (12, ptr b12), (13, ptr b13), (14, .int .u32 w), (43, .slice (some ⟨g, 0, none⟩) 2 2), (44, .int .i64 2), (45, .int .i64 (((j + 1 : Nat)) : Int))]) ⟨rfl, rfl, rfl, rfl, rfl, rfl, rfl, rfl, rfl, rfl, rfl, trivial⟩ ⟨deps ++ [c2'], _, _, md1', mk1 ++ mi1, md2', mk2 ++ mp1, q1', e1', q2', e2', rfl, by omega, hok.snoc hsj hn2 hd1 hwf2, by rw [hl2]; exact hrow1', hck1.snoc (c := (iCells sn ki xi ii si (.slice ai1 bi1 ci1) (.slice ai2 bi2 ci2) (.slice ai3 bi3 ci3))) rfl ⟨d1, hd1, hri⟩, by rw [hl2]; exact hrow2', hck2.snoc (c := #[str sn, ptr bj, .slice aj1 bj1 cj1]) rfl ⟨d1, hd1, hrp⟩, rfl⟩
            · refine di_to (M' := md2 ++ (md1 ++ (x12 :: x13 :: x17 :: x18 :: oth))) (fun f => by simp only [List.map_cons, List.sum_cons, List.map_append, List.sum_append]; omega) ?_
              refine di_run 8 rfl rfl (iv_buildSlice (vs := [(0, .agg #[str sn, ptr bj, .slice aj1 bj1 cj1])]) (cs := #[str sn, ptr bj, .slice aj1 bj1 cj1]) Try.runUnderlying52 Try.sizeOf54 Try.zeroValue54 ⟨rfl, rfl, trivial⟩ rfl (by kernel_rfl) rfl) (by rintro _ _ ⟨_, _, rfl⟩ _ x hx; exact .tail _ (List.mem_append_right _ (List.mem_append_right _ (hRB x hx)))) ?_
              rintro _ _ ⟨bs2, rfl, rfl⟩
              refine d_to (M' := md1 ++ (((bs2, .cells #[str sn, ptr bj, .slice aj1 bj1 cj1] 54 (0, 0)) :: md2) ++ (x12 :: x13 :: x17 :: x18 :: oth))) (fun f => by simp only [List.map_cons, List.sum_cons, List.map_append, List.sum_append, List.cons_append]; omega) ?_
              refine d_run 3 rfl (by kernel_rfl) rfl (iv_buildSlice (vs := [(0, .agg (iCells sn ki xi ii si (.slice ai1 bi1 ci1) (.slice ai2 bi2 ci2) (.slice ai3 bi3 ci3)))]) (cs := (iCells sn ki xi ii si (.slice ai1 bi1 ci1) (.slice ai2 bi2 ci2) (.slice ai3 bi3 ci3))) Try.runUnderlying49 Try.sizeOf51 Try.zeroValue51 ⟨rfl, rfl, trivial⟩ rfl (by kernel_rfl) rfl) (by rintro _ _ ⟨_, _, rfl⟩ _ x hx; exact .tail _ (List.mem_append_right _ (List.mem_append_right _ (hRB x hx)))) ?_
              rintro _ _ ⟨bs1, rfl, rfl⟩
              refine d_to (M' := ((bs1, .cells (iCells sn ki xi ii si (.slice ai1 bi1 ci1) (.slice ai2 bi2 ci2) (.slice ai3 bi3 ci3)) 51 (0, 0)) :: md1) ++ (((bs2, .cells #[str sn, ptr bj, .slice aj1 bj1 cj1] 54 (0, 0)) :: md2) ++ (x12 :: x13 :: x17 :: x18 :: oth))) (fun f => by simp only [List.map_cons, List.sum_cons, List.map_append, List.sum_append, List.cons_append]; omega) ?_
              refine d_run 4 rfl (by kernel_rfl) rfl (iv_append (pre := []) (m := md1) (F := ((bs2, .cells #[str sn, ptr bj, .slice aj1 bj1 cj1] 54 (0, 0)) :: md2) ++ (x12 :: x13 :: x17 :: x18 :: oth)) (k := 1) rfl rfl Try.underlying49 info51 rfl rfl rfl hrow1 rfl all_iCells (by decide) (by decide) (by omega) rfl) (by rintro _ _ ⟨_, _, rfl⟩ _ x hx; exact List.mem_append_right _ (List.mem_append_right _ (List.mem_append_right _ (hRB x hx)))) ?_
              rintro v1 _ ⟨md1', hrow1', rfl⟩
              obtain ⟨q1', e1', rfl⟩ := hrow1'.shape
              refine d_takeW 10 rfl (by kernel_rfl) (by kernel_rfl) (by kernel_rfl) rfl (fun _ => qv_field rfl Try.runUnderlying51 rfl Try.sizeOf49 rfl) ?_
              refine d_to (M' := ((bs2, .cells #[str sn, ptr bj, .slice aj1 bj1 cj1] 54 (0, 0)) :: md2) ++ (md1' ++ (x12 :: x13 :: x17 :: x18 :: oth))) (fun f => by simp only [List.nil_append, List.map_cons, List.sum_cons, List.map_append, List.sum_append, List.cons_append]; omega) ?_
              refine d_run 9 rfl (by kernel_rfl) rfl (iv_append (pre := []) (m := md2) (F := md1' ++ (x12 :: x13 :: x17 :: x18 :: oth)) (k := 1) rfl rfl Try.underlying52 info54 rfl rfl rfl hrow2 rfl all_pCells (by decide) (by decide) (by omega) rfl) (by rintro _ _ ⟨_, _, rfl⟩ _ x hx; exact List.mem_append_right _ (List.mem_append_right _ (List.mem_append_right _ (hRB x hx)))) ?_
              rintro v2 _ ⟨md2', hrow2', rfl⟩
              obtain ⟨q2', e2', rfl⟩ := hrow2'.shape
              refine d_to (M' := (b12, .cells (iCells nm kk x i s (.slice p1 n1 c1) (.slice p2 n2 c2) (.slice q1 deps.length e1)) 51 (0, 0)) :: (b13, .cells #[str nm, ptr bs, (.slice q2 deps.length e2)] 54 (0, 0)) :: x17 :: x18 :: (md1' ++ (md2' ++ oth))) (fun f => by rw [hx12, hx13]; simp only [List.nil_append, List.map_cons, List.sum_cons, List.map_append, List.sum_append]; omega) ?_
              refine d_run0 11 rfl (by kernel_rfl) (iv_store (i := 0) (b := b12) (v := (.slice q1' (deps.length + 1) e1')) rfl rfl rfl Try.sizeOf49 rfl (Nat.le_of_ble_eq_true rfl)) (by rintro _ _ rfl _ z hz; rw [hx13] at hz; simp only [List.set_cons_zero, List.mem_cons, List.not_mem_nil, or_false] at hz ⊢; rcases hz with h | h | h; exact Or.inr (Or.inl h); exact Or.inr (Or.inr (Or.inl h)); exact Or.inr (Or.inr (Or.inr (Or.inl h)))) ?_
              rintro _ _ rfl
              refine d_takeW 12 rfl (by kernel_rfl) (by kernel_rfl) (by kernel_rfl) rfl (fun _ => qv_field rfl Try.runUnderlying54 rfl Try.sizeOf52 rfl) ?_
              refine d_run0 13 rfl (by kernel_rfl) (iv_store (i := 1) (b := b13) (v := (.slice q2' (deps.length + 1) e2')) rfl rfl rfl Try.sizeOf52 rfl (Nat.le_of_ble_eq_true rfl)) (fun _ _ _ h => by cases h) ?_
              rintro _ _ rfl
              refine d_done (by kernel_rfl) ?_
              refine e_normal_block ?_
              refine e_seq ?_
              refine c_region ?_
              refine g_q (qv_add (c := ((j + 1 : Nat) : Int)) rfl rfl (by rw [wrap_i64 (by omega) (by omega)]; omega)) rfl ?_
              refine g_q (qv_move rfl) rfl ?_
              refine g_nil ?_
              have hl2 : (deps ++ [c2']).length = deps.length + 1 := by simp
              refine e_to (M' := (b12, .cells (iCells nm kk x i s (.slice p1 n1 c1) (.slice p2 n2 c2) (.slice q1' (deps.length + 1) e1')) 51 (0, 0)) :: (b13, .cells #[str nm, ptr bs, (.slice q2' (deps.length + 1) e2')] 54 (0, 0)) :: x17 :: x18 :: (md1' ++ (md2' ++ oth))) (Fits.refl _) ?_
              refine e_to (M' := (b12, .cells (iCells nm kk x i s (.slice p1 n1 c1) (.slice p2 n2 c2) (.slice q1' (deps ++ [c2']).length e1')) 51 (0, 0)) :: (b13, .cells #[str nm, ptr bs, (.slice q2' (deps ++ [c2']).length e2')] 54 (0, 0)) :: (b10, .cells #[.int .i64 ((k' : Nat) : Int)] 3 (0, 0)) :: (g, .cells #[str [115, 117, 98], str [100]] 9 (0, 0)) :: (b8, .cells (iCells [] 0 false 0 [] nilS nilS nilS) 51 (0, 0)) :: (b9, .cells #[str [], .pointer none, nilS] 54 (0, 0)) :: (md1' ++ ((mk1 ++ mi1) ++ (md2' ++ ((mk2 ++ mp1) ++ (ms ++ (mdv ++ M0))))))) (fun f => by rw [hl2, hoth]; simp only [List.map_cons, List.sum_cons, List.map_append, List.sum_append]; omega) ?_
              exact e_again (j + 1) (by omega) (L' := [(0, .slice pl xs.length cl), (2, .int .i64 (d0 : Int)), (8, ptr b8), (9, ptr b9), (10, ptr b10), (12, ptr b12), (13, ptr b13), (14, .int .u32 w), (43, .slice (some ⟨g, 0, none⟩) 2 2), (44, .int .i64 2), (45, .int .i64 (((j + 1 : Nat)) : Int))]) ⟨rfl, rfl, rfl, rfl, rfl, rfl, rfl, rfl, rfl, rfl, rfl, trivial⟩ ⟨deps ++ [c2'], _, _, md1', mk1 ++ mi1, md2', mk2 ++ mp1, q1', e1', q2', e2', rfl, by omega, hok.snoc hsj hn2 hd1 hwf2, by rw [hl2]; exact hrow1', hck1.snoc (c := (iCells sn ki xi ii si (.slice ai1 bi1 ci1) (.slice ai2 bi2 ci2) (.slice ai3 bi3 ci3))) rfl ⟨d1, hd1, hri⟩, by rw [hl2]; exact hrow2', hck2.snoc (c := #[str sn, ptr bj, .slice aj1 bj1 cj1]) rfl ⟨d1, hd1, hrp⟩, rfl⟩
          · refine di_to (M' := md1 ++ (md2 ++ (x12 :: x13 :: x17 :: x18 :: oth))) (fun f => by simp only [List.map_cons, List.sum_cons, List.map_append, List.sum_append]; omega) ?_
            refine di_run 3 rfl rfl (iv_buildSlice (vs := [(0, .agg (iCells sn ki xi ii si (.slice ai1 bi1 ci1) (.slice ai2 bi2 ci2) (.slice ai3 bi3 ci3)))]) (cs := (iCells sn ki xi ii si (.slice ai1 bi1 ci1) (.slice ai2 bi2 ci2) (.slice ai3 bi3 ci3))) Try.runUnderlying49 Try.sizeOf51 Try.zeroValue51 ⟨rfl, rfl, trivial⟩ rfl (by kernel_rfl) rfl) (by rintro _ _ ⟨_, _, rfl⟩ _ x hx; exact .tail _ (List.mem_append_right _ (List.mem_append_right _ (hRB x hx)))) ?_
            rintro _ _ ⟨bs1, rfl, rfl⟩
            refine d_or 1 8 (by kernel_rfl) ?_ ?_
            · refine di_to (M' := ((bs1, .cells (iCells sn ki xi ii si (.slice ai1 bi1 ci1) (.slice ai2 bi2 ci2) (.slice ai3 bi3 ci3)) 51 (0, 0)) :: md1) ++ (md2 ++ (x12 :: x13 :: x17 :: x18 :: oth))) (fun f => by simp only [List.map_cons, List.sum_cons, List.map_append, List.sum_append, List.cons_append]; omega) ?_
              refine di_run 1 rfl rfl (qv_load (v := .slice q1 deps.length e1) rfl Try.isAgg49 (List.mem_append_right _ (List.mem_append_right _ hm12)) rfl).iv (by rintro _ _ ⟨rfl, rfl⟩ _ z hz; exact List.mem_append_right _ (List.mem_append_right _ (hRB z hz))) ?_
              rintro _ _ ⟨rfl, rfl⟩
              refine d_or 4 8 (by kernel_rfl) ?_ ?_
              · refine di_to (M' := ((bs1, .cells (iCells sn ki xi ii si (.slice ai1 bi1 ci1) (.slice ai2 bi2 ci2) (.slice ai3 bi3 ci3)) 51 (0, 0)) :: md1) ++ (md2 ++ (x12 :: x13 :: x17 :: x18 :: oth))) (fun f => by simp only [List.map_cons, List.sum_cons, List.map_append, List.sum_append, List.cons_append]; omega) ?_
                refine di_run 4 rfl rfl (iv_append (pre := []) (m := md1) (F := md2 ++ (x12 :: x13 :: x17 :: x18 :: oth)) (k := 1) rfl rfl Try.underlying49 info51 rfl rfl rfl hrow1 rfl all_iCells (by decide) (by decide) (by omega) rfl) (by rintro _ _ ⟨_, _, rfl⟩ _ x hx; exact List.mem_append_right _ (List.mem_append_right _ (List.mem_append_right _ (hRB x hx)))) ?_
                rintro v1 _ ⟨md1', hrow1', rfl⟩
                obtain ⟨q1', e1', rfl⟩ := hrow1'.shape
                refine d_takeW 10 rfl (by kernel_rfl) (by kernel_rfl) (by kernel_rfl) rfl (fun _ => qv_field rfl Try.runUnderlying51 rfl Try.sizeOf49 rfl) ?_
                refine d_to (M' := md2 ++ (md1' ++ (x12 :: x13 :: x17 :: x18 :: oth))) (fun f => by simp only [List.nil_append, List.map_cons, List.sum_cons, List.map_append, List.sum_append]; omega) ?_
                refine d_run 8 rfl (by kernel_rfl) rfl (iv_buildSlice (vs := [(0, .agg #[str sn, ptr bj, .slice aj1 bj1 cj1])]) (cs := #[str sn, ptr bj, .slice aj1 bj1 cj1]) Try.runUnderlying52 Try.sizeOf54 Try.zeroValue54 ⟨rfl, rfl, trivial⟩ rfl (by kernel_rfl) rfl) (by rintro _ _ ⟨_, _, rfl⟩ _ x hx; exact .tail _ (List.mem_append_right _ (List.mem_append_right _ (hRB x hx)))) ?_
                rintro _ _ ⟨bs2, rfl, rfl⟩
                refine d_to (M' := ((bs2, .cells #[str sn, ptr bj, .slice aj1 bj1 cj1] 54 (0, 0)) :: md2) ++ (md1' ++ (x12 :: x13 :: x17 :: x18 :: oth))) (fun f => by simp only [List.map_cons, List.sum_cons, List.map_append, List.sum_append, List.cons_append]; omega) ?_
                refine d_run 9 rfl (by kernel_rfl) rfl (iv_append (pre := []) (m := md2) (F := md1' ++ (x12 :: x13 :: x17 :: x18 :: oth)) (k := 1) rfl rfl Try.underlying52 info54 rfl rfl rfl hrow2 rfl all_pCells (by decide) (by decide) (by omega) rfl) (by rintro _ _ ⟨_, _, rfl⟩ _ x hx; exact List.mem_append_right _ (List.mem_append_right _ (List.mem_append_right _ (hRB x hx)))) ?_
                rintro v2 _ ⟨md2', hrow2', rfl⟩
                obtain ⟨q2', e2', rfl⟩ := hrow2'.shape
                refine d_to (M' := (b12, .cells (iCells nm kk x i s (.slice p1 n1 c1) (.slice p2 n2 c2) (.slice q1 deps.length e1)) 51 (0, 0)) :: (b13, .cells #[str nm, ptr bs, (.slice q2 deps.length e2)] 54 (0, 0)) :: x17 :: x18 :: (md1' ++ (md2' ++ oth))) (fun f => by rw [hx12, hx13]; simp only [List.nil_append, List.map_cons, List.sum_cons, List.map_append, List.sum_append]; omega) ?_
                refine d_run0 11 rfl (by kernel_rfl) (iv_store (i := 0) (b := b12) (v := (.slice q1' (deps.length + 1) e1')) rfl rfl rfl Try.sizeOf49 rfl (Nat.le_of_ble_eq_true rfl)) (by rintro _ _ rfl _ z hz; rw [hx13] at hz; simp only [List.set_cons_zero, List.mem_cons, List.not_mem_nil, or_false] at hz ⊢; rcases hz with h | h | h; exact Or.inr (Or.inl h); exact Or.inr (Or.inr (Or.inl h)); exact Or.inr (Or.inr (Or.inr (Or.inl h)))) ?_
                rintro _ _ rfl
                refine d_takeW 12 rfl (by kernel_rfl) (by kernel_rfl) (by kernel_rfl) rfl (fun _ => qv_field rfl Try.runUnderlying54 rfl Try.sizeOf52 rfl) ?_
                refine d_run0 13 rfl (by kernel_rfl) (iv_store (i := 1) (b := b13) (v := (.slice q2' (deps.length + 1) e2')) rfl rfl rfl Try.sizeOf52 rfl (Nat.le_of_ble_eq_true rfl)) (fun _ _ _ h => by cases h) ?_
                rintro _ _ rfl
                refine d_done (by kernel_rfl) ?_
                refine e_normal_block ?_
                refine e_seq ?_
                refine c_region ?_
                refine g_q (qv_add (c := ((j + 1 : Nat) : Int)) rfl rfl (by rw [wrap_i64 (by omega) (by omega)]; omega)) rfl ?_
                refine g_q (qv_move rfl) rfl ?_
                refine g_nil ?_
                have hl2 : (deps ++ [c2']).length = deps.length + 1 := by simp
                refine e_to (M' := (b12, .cells (iCells nm kk x i s (.slice p1 n1 c1) (.slice p2 n2 c2) (.slice q1' (deps.length + 1) e1')) 51 (0, 0)) :: (b13, .cells #[str nm, ptr bs, (.slice q2' (deps.length + 1) e2')] 54 (0, 0)) :: x17 :: x18 :: (md1' ++ (md2' ++ oth))) (Fits.refl _) ?_
                refine e_to (M' := (b12, .cells (iCells nm kk x i s (.slice p1 n1 c1) (.slice p2 n2 c2) (.slice q1' (deps ++ [c2']).length e1')) 51 (0, 0)) :: (b13, .cells #[str nm, ptr bs, (.slice q2' (deps ++ [c2']).length e2')] 54 (0, 0)) :: (b10, .cells #[.int .i64 ((k' : Nat) : Int)] 3 (0, 0)) :: (g, .cells #[str [115, 117, 98], str [100]] 9 (0, 0)) :: (b8, .cells (iCells [] 0 false 0 [] nilS nilS nilS) 51 (0, 0)) :: (b9, .cells #[str [], .pointer none, nilS] 54 (0, 0)) :: (md1' ++ ((mk1 ++ mi1) ++ (md2' ++ ((mk2 ++ mp1) ++ (ms ++ (mdv ++ M0))))))) (fun f => by rw [hl2, hoth]; simp only [List.map_cons, List.sum_cons, List.map_append, List.sum_append]; omega) ?_
                exact e_again (j + 1) (by omega) (L' := [(0, .slice pl xs.length cl), (2, .int .i64 (d0 : Int)), (8, ptr b8), (9, ptr b9), (10, ptr b10), (12, ptr b12), (13, ptr b13), (14, .int .u32 w), (43, .slice (some ⟨g, 0, none⟩) 2 2), (44, .int .i64 2), (45, .int .i64 (((j + 1 : Nat)) : Int))]) ⟨rfl, rfl, rfl, rfl, rfl, rfl, rfl, rfl, rfl, rfl, rfl, trivial⟩ ⟨deps ++ [c2'], _, _, md1', mk1 ++ mi1, md2', mk2 ++ mp1, q1', e1', q2', e2', rfl, by omega, hok.snoc hsj hn2 hd1 hwf2, by rw [hl2]; exact hrow1', hck1.snoc (c := (iCells sn ki xi ii si (.slice ai1 bi1 ci1) (.slice ai2 bi2 ci2) (.slice ai3 bi3 ci3))) rfl ⟨d1, hd1, hri⟩, by rw [hl2]; exact hrow2', hck2.snoc (c := #[str sn, ptr bj, .slice aj1 bj1 cj1]) rfl ⟨d1, hd1, hrp⟩, rfl⟩
              · refine di_to (M' := md2 ++ (((bs1, .cells (iCells sn ki xi ii si (.slice ai1 bi1 ci1) (.slice ai2 bi2 ci2) (.slice ai3 bi3 ci3)) 51 (0, 0)) :: md1) ++ (x12 :: x13 :: x17 :: x18 :: oth))) (fun f => by simp only [List.map_cons, List.sum_cons, List.map_append, List.sum_append, List.cons_append]; omega) ?_
                refine di_run 8 rfl rfl (iv_buildSlice (vs := [(0, .agg #[str sn, ptr bj, .slice aj1 bj1 cj1])]) (cs := #[str sn, ptr bj, .slice aj1 bj1 cj1]) Try.runUnderlying52 Try.sizeOf54 Try.zeroValue54 ⟨rfl, rfl, trivial⟩ rfl (by kernel_rfl) rfl) (by rintro _ _ ⟨_, _, rfl⟩ _ x hx; exact .tail _ (List.mem_append_right _ (List.mem_append_right _ (hRB x hx)))) ?_
                rintro _ _ ⟨bs2, rfl, rfl⟩
                refine d_to (M' := ((bs1, .cells (iCells sn ki xi ii si (.slice ai1 bi1 ci1) (.slice ai2 bi2 ci2) (.slice ai3 bi3 ci3)) 51 (0, 0)) :: md1) ++ (((bs2, .cells #[str sn, ptr bj, .slice aj1 bj1 cj1] 54 (0, 0)) :: md2) ++ (x12 :: x13 :: x17 :: x18 :: oth))) (fun f => by simp only [List.map_cons, List.sum_cons, List.map_append, List.sum_append, List.cons_append]; omega) ?_
                refine d_run 4 rfl (by kernel_rfl) rfl (iv_append (pre := []) (m := md1) (F := ((bs2, .cells #[str sn, ptr bj, .slice aj1 bj1 cj1] 54 (0, 0)) :: md2) ++ (x12 :: x13 :: x17 :: x18 :: oth)) (k := 1) rfl rfl Try.underlying49 info51 rfl rfl rfl hrow1 rfl all_iCells (by decide) (by decide) (by omega) rfl) (by rintro _ _ ⟨_, _, rfl⟩ _ x hx; exact List.mem_append_right _ (List.mem_append_right _ (List.mem_append_right _ (hRB x hx)))) ?_
                rintro v1 _ ⟨md1', hrow1', rfl⟩
                obtain ⟨q1', e1', rfl⟩ := hrow1'.shape
                refine d_takeW 10 rfl (by kernel_rfl) (by kernel_rfl) (by kernel_rfl) rfl (fun _ => qv_field rfl Try.runUnderlying51 rfl Try.sizeOf49 rfl) ?_
                refine d_to (M' := ((bs2, .cells #[str sn, ptr bj, .slice aj1 bj1 cj1] 54 (0, 0)) :: md2) ++ (md1' ++ (x12 :: x13 :: x17 :: x18 :: oth))) (fun f => by simp only [List.nil_append, List.map_cons, List.sum_cons, List.map_append, List.sum_append, List.cons_append]; omega) ?_
                refine d_run 9 rfl (by kernel_rfl) rfl (iv_append (pre := []) (m := md2) (F := md1' ++ (x12 :: x13 :: x17 :: x18 :: oth)) (k := 1) rfl rfl Try.underlying52 info54 rfl rfl rfl hrow2 rfl all_pCells (by decide) (by decide) (by omega) rfl) (by rintro _ _ ⟨_, _, rfl⟩ _ x hx; exact List.mem_append_right _ (List.mem_append_right _ (List.mem_append_right _ (hRB x hx)))) ?_
                rintro v2 _ ⟨md2', hrow2', rfl⟩
                obtain ⟨q2', e2', rfl⟩ := hrow2'.shape
                refine d_to (M' := (b12, .cells (iCells nm kk x i s (.slice p1 n1 c1) (.slice p2 n2 c2) (.slice q1 deps.length e1)) 51 (0, 0)) :: (b13, .cells #[str nm, ptr bs, (.slice q2 deps.length e2)] 54 (0, 0)) :: x17 :: x18 :: (md1' ++ (md2' ++ oth))) (fun f => by rw [hx12, hx13]; simp only [List.nil_append, List.map_cons, List.sum_cons, List.map_append, List.sum_append]; omega) ?_
                refine d_run0 11 rfl (by kernel_rfl) (iv_store (i := 0) (b := b12) (v := (.slice q1' (deps.length + 1) e1')) rfl rfl rfl Try.sizeOf49 rfl (Nat.le_of_ble_eq_true rfl)) (by rintro _ _ rfl _ z hz; rw [hx13] at hz; simp only [List.set_cons_zero, List.mem_cons, List.not_mem_nil, or_false] at hz ⊢; rcases hz with h | h | h; exact Or.inr (Or.inl h); exact Or.inr (Or.inr (Or.inl h)); exact Or.inr (Or.inr (Or.inr (Or.inl h)))) ?_
                rintro _ _ rfl
                refine d_takeW 12 rfl (by kernel_rfl) (by kernel_rfl) (by kernel_rfl) rfl (fun _ => qv_field rfl Try.runUnderlying54 rfl Try.sizeOf52 rfl) ?_
                refine d_run0 13 rfl (by kernel_rfl) (iv_store (i := 1) (b := b13) (v := (.slice q2' (deps.length + 1) e2')) rfl rfl rfl Try.sizeOf52 rfl (Nat.le_of_ble_eq_true rfl)) (fun _ _ _ h => by cases h) ?_
                rintro _ _ rfl
                refine d_done (by kernel_rfl) ?_
                refine e_normal_block ?_
                refine e_seq ?_
                refine c_region ?_
                refine g_q (qv_add (c := ((j + 1 : Nat) : Int)) rfl rfl (by rw [wrap_i64 (by omega) (by omega)]; omega)) rfl ?_
                refine g_q (qv_move rfl) rfl ?_
                refine g_nil ?_
                have hl2 : (deps ++ [c2']).length = deps.length + 1 := by simp
                refine e_to (M' := (b12, .cells (iCells nm kk x i s (.slice p1 n1 c1) (.slice p2 n2 c2) (.slice q1' (deps.length + 1) e1')) 51 (0, 0)) :: (b13, .cells #[str nm, ptr bs, (.slice q2' (deps.length + 1) e2')] 54 (0, 0)) :: x17 :: x18 :: (md1' ++ (md2' ++ oth))) (Fits.refl _) ?_
                refine e_to (M' := (b12, .cells (iCells nm kk x i s (.slice p1 n1 c1) (.slice p2 n2 c2) (.slice q1' (deps ++ [c2']).length e1')) 51 (0, 0)) :: (b13, .cells #[str nm, ptr bs, (.slice q2' (deps ++ [c2']).length e2')] 54 (0, 0)) :: (b10, .cells #[.int .i64 ((k' : Nat) : Int)] 3 (0, 0)) :: (g, .cells #[str [115, 117, 98], str [100]] 9 (0, 0)) :: (b8, .cells (iCells [] 0 false 0 [] nilS nilS nilS) 51 (0, 0)) :: (b9, .cells #[str [], .pointer none, nilS] 54 (0, 0)) :: (md1' ++ ((mk1 ++ mi1) ++ (md2' ++ ((mk2 ++ mp1) ++ (ms ++ (mdv ++ M0))))))) (fun f => by rw [hl2, hoth]; simp only [List.map_cons, List.sum_cons, List.map_append, List.sum_append]; omega) ?_
                exact e_again (j + 1) (by omega) (L' := [(0, .slice pl xs.length cl), (2, .int .i64 (d0 : Int)), (8, ptr b8), (9, ptr b9), (10, ptr b10), (12, ptr b12), (13, ptr b13), (14, .int .u32 w), (43, .slice (some ⟨g, 0, none⟩) 2 2), (44, .int .i64 2), (45, .int .i64 (((j + 1 : Nat)) : Int))]) ⟨rfl, rfl, rfl, rfl, rfl, rfl, rfl, rfl, rfl, rfl, rfl, trivial⟩ ⟨deps ++ [c2'], _, _, md1', mk1 ++ mi1, md2', mk2 ++ mp1, q1', e1', q2', e2', rfl, by omega, hok.snoc hsj hn2 hd1 hwf2, by rw [hl2]; exact hrow1', hck1.snoc (c := (iCells sn ki xi ii si (.slice ai1 bi1 ci1) (.slice ai2 bi2 ci2) (.slice ai3 bi3 ci3))) rfl ⟨d1, hd1, hri⟩, by rw [hl2]; exact hrow2', hck2.snoc (c := #[str sn, ptr bj, .slice aj1 bj1 cj1]) rfl ⟨d1, hd1, hrp⟩, rfl⟩
            · refine di_to (M' := md2 ++ (((bs1, .cells (iCells sn ki xi ii si (.slice ai1 bi1 ci1) (.slice ai2 bi2 ci2) (.slice ai3 bi3 ci3)) 51 (0, 0)) :: md1) ++ (x12 :: x13 :: x17 :: x18 :: oth))) (fun f => by simp only [List.map_cons, List.sum_cons, List.map_append, List.sum_append, List.cons_append]; omega) ?_
              refine di_run 8 rfl rfl (iv_buildSlice (vs := [(0, .agg #[str sn, ptr bj, .slice aj1 bj1 cj1])]) (cs := #[str sn, ptr bj, .slice aj1 bj1 cj1]) Try.runUnderlying52 Try.sizeOf54 Try.zeroValue54 ⟨rfl, rfl, trivial⟩ rfl (by kernel_rfl) rfl) (by rintro _ _ ⟨_, _, rfl⟩ _ x hx; exact .tail _ (List.mem_append_right _ (List.mem_append_right _ (hRB x hx)))) ?_
              rintro _ _ ⟨bs2, rfl, rfl⟩
              refine d_to (M' := ((bs1, .cells (iCells sn ki xi ii si (.slice ai1 bi1 ci1) (.slice ai2 bi2 ci2) (.slice ai3 bi3 ci3)) 51 (0, 0)) :: md1) ++ (((bs2, .cells #[str sn, ptr bj, .slice aj1 bj1 cj1] 54 (0, 0)) :: md2) ++ (x12 :: x13 :: x17 :: x18 :: oth))) (fun f => by simp only [List.map_cons, List.sum_cons, List.map_append, List.sum_append, List.cons_append]; omega) ?_
              refine d_run 1 rfl (by kernel_rfl) rfl (qv_load (v := .slice q1 deps.length e1) rfl Try.isAgg49 (List.mem_append_right _ (List.mem_append_right _ hm12)) rfl).iv (by rintro _ _ ⟨rfl, rfl⟩ _ z hz; exact List.mem_append_right _ (List.mem_append_right _ (hRB z hz))) ?_
              rintro _ _ ⟨rfl, rfl⟩
              refine d_to (M' := ((bs1, .cells (iCells sn ki xi ii si (.slice ai1 bi1 ci1) (.slice ai2 bi2 ci2) (.slice ai3 bi3 ci3)) 51 (0, 0)) :: md1) ++ (((bs2, .cells #[str sn, ptr bj, .slice aj1 bj1 cj1] 54 (0, 0)) :: md2) ++ (x12 :: x13 :: x17 :: x18 :: oth))) (fun f => by simp only [List.map_cons, List.sum_cons, List.map_append, List.sum_append, List.cons_append]; omega) ?_
              refine d_run 4 rfl (by kernel_rfl) rfl (iv_append (pre := []) (m := md1) (F := ((bs2, .cells #[str sn, ptr bj, .slice aj1 bj1 cj1] 54 (0, 0)) :: md2) ++ (x12 :: x13 :: x17 :: x18 :: oth)) (k := 1) rfl rfl Try.underlying49 info51 rfl rfl rfl hrow1 rfl all_iCells (by decide) (by decide) (by omega) rfl) (by rintro _ _ ⟨_, _, rfl⟩ _ x hx; exact List.mem_append_right _ (List.mem_append_right _ (List.mem_append_right _ (hRB x hx)))) ?_
              rintro v1 _ ⟨md1', hrow1', rfl⟩
              obtain ⟨q1', e1', rfl⟩ := hrow1'.shape
              refine d_takeW 10 rfl (by kernel_rfl) (by kernel_rfl) (by kernel_rfl) rfl (fun _ => qv_field rfl Try.runUnderlying51 rfl Try.sizeOf49 rfl) ?_
              refine d_to (M' := ((bs2, .cells #[str sn, ptr bj, .slice aj1 bj1 cj1] 54 (0, 0)) :: md2) ++ (md1' ++ (x12 :: x13 :: x17 :: x18 :: oth))) (fun f => by simp only [List.nil_append, List.map_cons, List.sum_cons, List.map_append, List.sum_append, List.cons_append]; omega) ?_
              refine d_run 9 rfl (by kernel_rfl) rfl (iv_append (pre := []) (m := md2) (F := md1' ++ (x12 :: x13 :: x17 :: x18 :: oth)) (k := 1) rfl rfl Try.underlying52 info54 rfl rfl rfl hrow2 rfl all_pCells (by decide) (by decide) (by omega) rfl) (by rintro _ _ ⟨_, _, rfl⟩ _ x hx; exact List.mem_append_right _ (List.mem_append_right _ (List.mem_append_right _ (hRB x hx)))) ?_
              rintro v2 _ ⟨md2', hrow2', rfl⟩
              obtain ⟨q2', e2', rfl⟩ := hrow2'.shape
              refine d_to (M' := (b12, .cells (iCells nm kk x i s (.slice p1 n1 c1) (.slice p2 n2 c2) (.slice q1 deps.length e1)) 51 (0, 0)) :: (b13, .cells #[str nm, ptr bs, (.slice q2 deps.length e2)] 54 (0, 0)) :: x17 :: x18 :: (md1' ++ (md2' ++ oth))) (fun f => by rw [hx12, hx13]; simp only [List.nil_append, List.map_cons, List.sum_cons, List.map_append, List.sum_append]; omega) ?_
              refine d_run0 11 rfl (by kernel_rfl) (iv_store (i := 0) (b := b12) (v := (.slice q1' (deps.length + 1) e1')) rfl rfl rfl Try.sizeOf49 rfl (Nat.le_of_ble_eq_true rfl)) (by rintro _ _ rfl _ z hz; rw [hx13] at hz; simp only [List.set_cons_zero, List.mem_cons, List.not_mem_nil, or_false] at hz ⊢; rcases hz with h | h | h; exact Or.inr (Or.inl h); exact Or.inr (Or.inr (Or.inl h)); exact Or.inr (Or.inr (Or.inr (Or.inl h)))) ?_
              rintro _ _ rfl
              refine d_takeW 12 rfl (by kernel_rfl) (by kernel_rfl) (by kernel_rfl) rfl (fun _ => qv_field rfl Try.runUnderlying54 rfl Try.sizeOf52 rfl) ?_
              refine d_run0 13 rfl (by kernel_rfl) (iv_store (i := 1) (b := b13) (v := (.slice q2' (deps.length + 1) e2')) rfl rfl rfl Try.sizeOf52 rfl (Nat.le_of_ble_eq_true rfl)) (fun _ _ _ h => by cases h) ?_
              rintro _ _ rfl
              refine d_done (by kernel_rfl) ?_
              refine e_normal_block ?_
              refine e_seq ?_
              refine c_region ?_
              refine g_q (qv_add (c := ((j + 1 : Nat) : Int)) rfl rfl (by rw [wrap_i64 (by omega) (by omega)]; omega)) rfl ?_
              refine g_q (qv_move rfl) rfl ?_
              refine g_nil ?_
              have hl2 : (deps ++ [c2']).length = deps.length + 1 := by simp
              refine e_to (M' := (b12, .cells (iCells nm kk x i s (.slice p1 n1 c1) (.slice p2 n2 c2) (.slice q1' (deps.length + 1) e1')) 51 (0, 0)) :: (b13, .cells #[str nm, ptr bs, (.slice q2' (deps.length + 1) e2')] 54 (0, 0)) :: x17 :: x18 :: (md1' ++ (md2' ++ oth))) (Fits.refl _) ?_
              refine e_to (M' := (b12, .cells (iCells nm kk x i s (.slice p1 n1 c1) (.slice p2 n2 c2) (.slice q1' (deps ++ [c2']).length e1')) 51 (0, 0)) :: (b13, .cells #[str nm, ptr bs, (.slice q2' (deps ++ [c2']).length e2')] 54 (0, 0)) :: (b10, .cells #[.int .i64 ((k' : Nat) : Int)] 3 (0, 0)) :: (g, .cells #[str [115, 117, 98], str [100]] 9 (0, 0)) :: (b8, .cells (iCells [] 0 false 0 [] nilS nilS nilS) 51 (0, 0)) :: (b9, .cells #[str [], .pointer none, nilS] 54 (0, 0)) :: (md1' ++ ((mk1 ++ mi1) ++ (md2' ++ ((mk2 ++ mp1) ++ (ms ++ (mdv ++ M0))))))) (fun f => by rw [hl2, hoth]; simp only [List.map_cons, List.sum_cons, List.map_append, List.sum_append]; omega) ?_
              exact e_again (j + 1) (by omega) (L' := [(0, .slice pl xs.length cl), (2, .int .i64 (d0 : Int)), (8, ptr b8), (9, ptr b9), (10, ptr b10), (12, ptr b12), (13, ptr b13), (14, .int .u32 w), (43, .slice (some ⟨g, 0, none⟩) 2 2), (44, .int .i64 2), (45, .int .i64 (((j + 1 : Nat)) : Int))]) ⟨rfl, rfl, rfl, rfl, rfl, rfl, rfl, rfl, rfl, rfl, rfl, trivial⟩ ⟨deps ++ [c2'], _, _, md1', mk1 ++ mi1, md2', mk2 ++ mp1, q1', e1', q2', e2', rfl, by omega, hok.snoc hsj hn2 hd1 hwf2, by rw [hl2]; exact hrow1', hck1.snoc (c := (iCells sn ki xi ii si (.slice ai1 bi1 ci1) (.slice ai2 bi2 ci2) (.slice ai3 bi3 ci3))) rfl ⟨d1, hd1, hri⟩, by rw [hl2]; exact hrow2', hck2.snoc (c := #[str sn, ptr bj, .slice aj1 bj1 cj1]) rfl ⟨d1, hd1, hrp⟩, rfl⟩
          · refine di_to (M' := md2 ++ (md1 ++ (x12 :: x13 :: x17 :: x18 :: oth))) (fun f => by simp only [List.map_cons, List.sum_cons, List.map_append, List.sum_append]; omega) ?_
            refine di_run 8 rfl rfl (iv_buildSlice (vs := [(0, .agg #[str sn, ptr bj, .slice aj1 bj1 cj1])]) (cs := #[str sn, ptr bj, .slice aj1 bj1 cj1]) Try.runUnderlying52 Try.sizeOf54 Try.zeroValue54 ⟨rfl, rfl, trivial⟩ rfl (by kernel_rfl) rfl) (by rintro _ _ ⟨_, _, rfl⟩ _ x hx; exact .tail _ (List.mem_append_right _ (List.mem_append_right _ (hRB x hx)))) ?_
            rintro _ _ ⟨bs2, rfl, rfl⟩
            refine d_or 1 3 (by kernel_rfl) ?_ ?_
            · refine di_to (M' := md1 ++ (((bs2, .cells #[str sn, ptr bj, .slice aj1 bj1 cj1] 54 (0, 0)) :: md2) ++ (x12 :: x13 :: x17 :: x18 :: oth))) (fun f => by simp only [List.map_cons, List.sum_cons, List.map_append, List.sum_append, List.cons_append]; omega) ?_
              refine di_run 1 rfl rfl (qv_load (v := .slice q1 deps.length e1) rfl Try.isAgg49 (List.mem_append_right _ (List.mem_append_right _ hm12)) rfl).iv (by rintro _ _ ⟨rfl, rfl⟩ _ z hz; exact List.mem_append_right _ (List.mem_append_right _ (hRB z hz))) ?_
              rintro _ _ ⟨rfl, rfl⟩
              refine d_to (M' := md1 ++ (((bs2, .cells #[str sn, ptr bj, .slice aj1 bj1 cj1] 54 (0, 0)) :: md2) ++ (x12 :: x13 :: x17 :: x18 :: oth))) (fun f => by simp only [List.map_cons, List.sum_cons, List.map_append, List.sum_append, List.cons_append]; omega) ?_
              refine d_run 3 rfl (by kernel_rfl) rfl (iv_buildSlice (vs := [(0, .agg (iCells sn ki xi ii si (.slice ai1 bi1 ci1) (.slice ai2 bi2 ci2) (.slice ai3 bi3 ci3)))]) (cs := (iCells sn ki xi ii si (.slice ai1 bi1 ci1) (.slice ai2 bi2 ci2) (.slice ai3 bi3 ci3))) Try.runUnderlying49 Try.sizeOf51 Try.zeroValue51 ⟨rfl, rfl, trivial⟩ rfl (by kernel_rfl) rfl) (by rintro _ _ ⟨_, _, rfl⟩ _ x hx; exact .tail _ (List.mem_append_right _ (List.mem_append_right _ (hRB x hx)))) ?_
              rintro _ _ ⟨bs1, rfl, rfl⟩
              refine d_to (M' := ((bs1, .cells (iCells sn ki xi ii si (.slice ai1 bi1 ci1) (.slice ai2 bi2 ci2) (.slice ai3 bi3 ci3)) 51 (0, 0)) :: md1) ++ (((bs2, .cells #[str sn, ptr bj, .slice aj1 bj1 cj1] 54 (0, 0)) :: md2) ++ (x12 :: x13 :: x17 :: x18 :: oth))) (fun f => by simp only [List.map_cons, List.sum_cons, List.map_append, List.sum_append, List.cons_append]; omega) ?_
              refine d_run 4 rfl (by kernel_rfl) rfl (iv_append (pre := []) (m := md1) (F := ((bs2, .cells #[str sn, ptr bj, .slice aj1 bj1 cj1] 54 (0, 0)) :: md2) ++ (x12 :: x13 :: x17 :: x18 :: oth)) (k := 1) rfl rfl Try.underlying49 info51 rfl rfl rfl hrow1 rfl all_iCells (by decide) (by decide) (by omega) rfl) (by rintro _ _ ⟨_, _, rfl⟩ _ x hx; exact List.mem_append_right _ (List.mem_append_right _ (List.mem_append_right _ (hRB x hx)))) ?_
              rintro v1 _ ⟨md1', hrow1', rfl⟩
              obtain ⟨q1', e1', rfl⟩ := hrow1'.shape
              refine d_takeW 10 rfl (by kernel_rfl) (by kernel_rfl) (by kernel_rfl) rfl (fun _ => qv_field rfl Try.runUnderlying51 rfl Try.sizeOf49 rfl) ?_
              refine d_to (M' := ((bs2, .cells #[str sn, ptr bj, .slice aj1 bj1 cj1] 54 (0, 0)) :: md2) ++ (md1' ++ (x12 :: x13 :: x17 :: x18 :: oth))) (fun f => by simp only [List.nil_append, List.map_cons, List.sum_cons, List.map_append, List.sum_append, List.cons_append]; omega) ?_
              refine d_run 9 rfl (by kernel_rfl) rfl (iv_append (pre := []) (m := md2) (F := md1' ++ (x12 :: x13 :: x17 :: x18 :: oth)) (k := 1) rfl rfl Try.underlying52 info54 rfl rfl rfl hrow2 rfl all_pCells (by decide) (by decide) (by omega) rfl) (by rintro _ _ ⟨_, _, rfl⟩ _ x hx; exact List.mem_append_right _ (List.mem_append_right _ (List.mem_append_right _ (hRB x hx)))) ?_
              rintro v2 _ ⟨md2', hrow2', rfl⟩
              obtain ⟨q2', e2', rfl⟩ := hrow2'.shape
              refine d_to (M' := (b12, .cells (iCells nm kk x i s (.slice p1 n1 c1) (.slice p2 n2 c2) (.slice q1 deps.length e1)) 51 (0, 0)) :: (b13, .cells #[str nm, ptr bs, (.slice q2 deps.length e2)] 54 (0, 0)) :: x17 :: x18 :: (md1' ++ (md2' ++ oth))) (fun f => by rw [hx12, hx13]; simp only [List.nil_append, List.map_cons, List.sum_cons, List.map_append, List.sum_append]; omega) ?_
              refine d_run0 11 rfl (by kernel_rfl) (iv_store (i := 0) (b := b12) (v := (.slice q1' (deps.length + 1) e1')) rfl rfl rfl Try.sizeOf49 rfl (Nat.le_of_ble_eq_true rfl)) (by rintro _ _ rfl _ z hz; rw [hx13] at hz; simp only [List.set_cons_zero, List.mem_cons, List.not_mem_nil, or_false] at hz ⊢; rcases hz with h | h | h; exact Or.inr (Or.inl h); exact Or.inr (Or.inr (Or.inl h)); exact Or.inr (Or.inr (Or.inr (Or.inl h)))) ?_
              rintro _ _ rfl
              refine d_takeW 12 rfl (by kernel_rfl) (by kernel_rfl) (by kernel_rfl) rfl (fun _ => qv_field rfl Try.runUnderlying54 rfl Try.sizeOf52 rfl) ?_
              refine d_run0 13 rfl (by kernel_rfl) (iv_store (i := 1) (b := b13) (v := (.slice q2' (deps.length + 1) e2')) rfl rfl rfl Try.sizeOf52 rfl (Nat.le_of_ble_eq_true rfl)) (fun _ _ _ h => by cases h) ?_
              rintro _ _ rfl
              refine d_done (by kernel_rfl) ?_
              refine e_normal_block ?_
              refine e_seq ?_
              refine c_region ?_
              refine g_q (qv_add (c := ((j + 1 : Nat) : Int)) rfl rfl (by rw [wrap_i64 (by omega) (by omega)]; omega)) rfl ?_
              refine g_q (qv_move rfl) rfl ?_
              refine g_nil ?_
              have hl2 : (deps ++ [c2']).length = deps.length + 1 := by simp
              refine e_to (M' := (b12, .cells (iCells nm kk x i s (.slice p1 n1 c1) (.slice p2 n2 c2) (.slice q1' (deps.length + 1) e1')) 51 (0, 0)) :: (b13, .cells #[str nm, ptr bs, (.slice q2' (deps.length + 1) e2')] 54 (0, 0)) :: x17 :: x18 :: (md1' ++ (md2' ++ oth))) (Fits.refl _) ?_
              refine e_to (M' := (b12, .cells (iCells nm kk x i s (.slice p1 n1 c1) (.slice p2 n2 c2) (.slice q1' (deps ++ [c2']).length e1')) 51 (0, 0)) :: (b13, .cells #[str nm, ptr bs, (.slice q2' (deps ++ [c2']).length e2')] 54 (0, 0)) :: (b10, .cells #[.int .i64 ((k' : Nat) : Int)] 3 (0, 0)) :: (g, .cells #[str [115, 117, 98], str [100]] 9 (0, 0)) :: (b8, .cells (iCells [] 0 false 0 [] nilS nilS nilS) 51 (0, 0)) :: (b9, .cells #[str [], .pointer none, nilS] 54 (0, 0)) :: (md1' ++ ((mk1 ++ mi1) ++ (md2' ++ ((mk2 ++ mp1) ++ (ms ++ (mdv ++ M0))))))) (fun f => by rw [hl2, hoth]; simp only [List.map_cons, List.sum_cons, List.map_append, List.sum_append]; omega) ?_
              exact e_again (j + 1) (by omega) (L' := [(0, .slice pl xs.length cl), (2, .int .i64 (d0 : Int)), (8, ptr b8), (9, ptr b9), (10, ptr b10), (12, ptr b12), (13, ptr b13), (14, .int .u32 w), (43, .slice (some ⟨g, 0, none⟩) 2 2), (44, .int .i64 2), (45, .int .i64 (((j + 1 : Nat)) : Int))]) ⟨rfl, rfl, rfl, rfl, rfl, rfl, rfl, rfl, rfl, rfl, rfl, trivial⟩ ⟨deps ++ [c2'], _, _, md1', mk1 ++ mi1, md2', mk2 ++ mp1, q1', e1', q2', e2', rfl, by omega, hok.snoc hsj hn2 hd1 hwf2, by rw [hl2]; exact hrow1', hck1.snoc (c := (iCells sn ki xi ii si (.slice ai1 bi1 ci1) (.slice ai2 bi2 ci2) (.slice ai3 bi3 ci3))) rfl ⟨d1, hd1, hri⟩, by rw [hl2]; exact hrow2', hck2.snoc (c := #[str sn, ptr bj, .slice aj1 bj1 cj1]) rfl ⟨d1, hd1, hrp⟩, rfl⟩
            · refine di_to (M' := md1 ++ (((bs2, .cells #[str sn, ptr bj, .slice aj1 bj1 cj1] 54 (0, 0)) :: md2) ++ (x12 :: x13 :: x17 :: x18 :: oth))) (fun f => by simp only [List.map_cons, List.sum_cons, List.map_append, List.sum_append, List.cons_append]; omega) ?_
              refine di_run 3 rfl rfl (iv_buildSlice (vs := [(0, .agg (iCells sn ki xi ii si (.slice ai1 bi1 ci1) (.slice ai2 bi2 ci2) (.slice ai3 bi3 ci3)))]) (cs := (iCells sn ki xi ii si (.slice ai1 bi1 ci1) (.slice ai2 bi2 ci2) (.slice ai3 bi3 ci3))) Try.runUnderlying49 Try.sizeOf51 Try.zeroValue51 ⟨rfl, rfl, trivial⟩ rfl (by kernel_rfl) rfl) (by rintro _ _ ⟨_, _, rfl⟩ _ x hx; exact .tail _ (List.mem_append_right _ (List.mem_append_right _ (hRB x hx)))) ?_
              rintro _ _ ⟨bs1, rfl, rfl⟩
              refine d_to (M' := ((bs1, .cells (iCells sn ki xi ii si (.slice ai1 bi1 ci1) (.slice ai2 bi2 ci2) (.slice ai3 bi3 ci3)) 51 (0, 0)) :: md1) ++ (((bs2, .cells #[str sn, ptr bj, .slice aj1 bj1 cj1] 54 (0, 0)) :: md2) ++ (x12 :: x13 :: x17 :: x18 :: oth))) (fun f => by simp only [List.map_cons, List.sum_cons, List.map_append, List.sum_append, List.cons_append]; omega) ?_
              refine d_run 1 rfl (by kernel_rfl) rfl (qv_load (v := .slice q1 deps.length e1) rfl Try.isAgg49 (List.mem_append_right _ (List.mem_append_right _ hm12)) rfl).iv (by rintro _ _ ⟨rfl, rfl⟩ _ z hz; exact List.mem_append_right _ (List.mem_append_right _ (hRB z hz))) ?_
              rintro _ _ ⟨rfl, rfl⟩
              refine d_to (M' := ((bs1, .cells (iCells sn ki xi ii si (.slice ai1 bi1 ci1) (.slice ai2 bi2 ci2) (.slice ai3 bi3 ci3)) 51 (0, 0)) :: md1) ++ (((bs2, .cells #[str sn, ptr bj, .slice aj1 bj1 cj1] 54 (0, 0)) :: md2) ++ (x12 :: x13 :: x17 :: x18 :: oth))) (fun f => by simp only [List.map_cons, List.sum_cons, List.map_append, List.sum_append, List.cons_append]; omega) ?_
              refine d_run 4 rfl (by kernel_rfl) rfl (iv_append (pre := []) (m := md1) (F := ((bs2, .cells #[str sn, ptr bj, .slice aj1 bj1 cj1] 54 (0, 0)) :: md2) ++ (x12 :: x13 :: x17 :: x18 :: oth)) (k := 1) rfl rfl Try.underlying49 info51 rfl rfl rfl hrow1 rfl all_iCells (by decide) (by decide) (by omega) rfl) (by rintro _ _ ⟨_, _, rfl⟩ _ x hx; exact List.mem_append_right _ (List.mem_append_right _ (List.mem_append_right _ (hRB x hx)))) ?_
              rintro v1 _ ⟨md1', hrow1', rfl⟩
              obtain ⟨q1', e1', rfl⟩ := hrow1'.shape
              refine d_takeW 10 rfl (by kernel_rfl) (by kernel_rfl) (by kernel_rfl) rfl (fun _ => qv_field rfl Try.runUnderlying51 rfl Try.sizeOf49 rfl) ?_
              refine d_to (M' := ((bs2, .cells #[str sn, ptr bj, .slice aj1 bj1 cj1] 54 (0, 0)) :: md2) ++ (md1' ++ (x12 :: x13 :: x17 :: x18 :: oth))) (fun f => by simp only [List.nil_append, List.map_cons, List.sum_cons, List.map_append, List.sum_append, List.cons_append]; omega) ?_
              refine d_run 9 rfl (by kernel_rfl) rfl (iv_append (pre := []) (m := md2) (F := md1' ++ (x12 :: x13 :: x17 :: x18 :: oth)) (k := 1) rfl rfl Try.underlying52 info54 rfl rfl rfl hrow2 rfl all_pCells (by decide) (by decide) (by omega) rfl) (by rintro _ _ ⟨_, _, rfl⟩ _ x hx; exact List.mem_append_right _ (List.mem_append_right _ (List.mem_append_right _ (hRB x hx)))) ?_
              rintro v2 _ ⟨md2', hrow2', rfl⟩
              obtain ⟨q2', e2', rfl⟩ := hrow2'.shape
              refine d_to (M' := (b12, .cells (iCells nm kk x i s (.slice p1 n1 c1) (.slice p2 n2 c2) (.slice q1 deps.length e1)) 51 (0, 0)) :: (b13, .cells #[str nm, ptr bs, (.slice q2 deps.length e2)] 54 (0, 0)) :: x17 :: x18 :: (md1' ++ (md2' ++ oth))) (fun f => by rw [hx12, hx13]; simp only [List.nil_append, List.map_cons, List.sum_cons, List.map_append, List.sum_append]; omega) ?_
              refine d_run0 11 rfl (by kernel_rfl) (iv_store (i := 0) (b := b12) (v := (.slice q1' (deps.length + 1) e1')) rfl rfl rfl Try.sizeOf49 rfl (Nat.le_of_ble_eq_true rfl)) (by rintro _ _ rfl _ z hz; rw [hx13] at hz; simp only [List.set_cons_zero, List.mem_cons, List.not_mem_nil, or_false] at hz ⊢; rcases hz with h | h | h; exact Or.inr (Or.inl h); exact Or.inr (Or.inr (Or.inl h)); exact Or.inr (Or.inr (Or.inr (Or.inl h)))) ?_
              rintro _ _ rfl
              refine d_takeW 12 rfl (by kernel_rfl) (by kernel_rfl) (by kernel_rfl) rfl (fun _ => qv_field rfl Try.runUnderlying54 rfl Try.sizeOf52 rfl) ?_
              refine d_run0 13 rfl (by kernel_rfl) (iv_store (i := 1) (b := b13) (v := (.slice q2' (deps.length + 1) e2')) rfl rfl rfl Try.sizeOf52 rfl (Nat.le_of_ble_eq_true rfl)) (fun _ _ _ h => by cases h) ?_
              rintro _ _ rfl
              refine d_done (by kernel_rfl) ?_
              refine e_normal_block ?_
              refine e_seq ?_
              refine c_region ?_
              refine g_q (qv_add (c := ((j + 1 : Nat) : Int)) rfl rfl (by rw [wrap_i64 (by omega) (by omega)]; omega)) rfl ?_
              refine g_q (qv_move rfl) rfl ?_
              refine g_nil ?_
              have hl2 : (deps ++ [c2']).length = deps.length + 1 := by simp
              refine e_to (M' := (b12, .cells (iCells nm kk x i s (.slice p1 n1 c1) (.slice p2 n2 c2) (.slice q1' (deps.length + 1) e1')) 51 (0, 0)) :: (b13, .cells #[str nm, ptr bs, (.slice q2' (deps.length + 1) e2')] 54 (0, 0)) :: x17 :: x18 :: (md1' ++ (md2' ++ oth))) (Fits.refl _) ?_
              refine e_to (M' := (b12, .cells (iCells nm kk x i s (.slice p1 n1 c1) (.slice p2 n2 c2) (.slice q1' (deps ++ [c2']).length e1')) 51 (0, 0)) :: (b13, .cells #[str nm, ptr bs, (.slice q2' (deps ++ [c2']).length e2')] 54 (0, 0)) :: (b10, .cells #[.int .i64 ((k' : Nat) : Int)] 3 (0, 0)) :: (g, .cells #[str [115, 117, 98], str [100]] 9 (0, 0)) :: (b8, .cells (iCells [] 0 false 0 [] nilS nilS nilS) 51 (0, 0)) :: (b9, .cells #[str [], .pointer none, nilS] 54 (0, 0)) :: (md1' ++ ((mk1 ++ mi1) ++ (md2' ++ ((mk2 ++ mp1) ++ (ms ++ (mdv ++ M0))))))) (fun f => by rw [hl2, hoth]; simp only [List.map_cons, List.sum_cons, List.map_append, List.sum_append]; omega) ?_
              exact e_again (j + 1) (by omega) (L' := [(0, .slice pl xs.length cl), (2, .int .i64 (d0 : Int)), (8, ptr b8), (9, ptr b9), (10, ptr b10), (12, ptr b12), (13, ptr b13), (14, .int .u32 w), (43, .slice (some ⟨g, 0, none⟩) 2 2), (44, .int .i64 2), (45, .int .i64 (((j + 1 : Nat)) : Int))]) ⟨rfl, rfl, rfl, rfl, rfl, rfl, rfl, rfl, rfl, rfl, rfl, trivial⟩ ⟨deps ++ [c2'], _, _, md1', mk1 ++ mi1, md2', mk2 ++ mp1, q1', e1', q2', e2', rfl, by omega, hok.snoc hsj hn2 hd1 hwf2, by rw [hl2]; exact hrow1', hck1.snoc (c := (iCells sn ki xi ii si (.slice ai1 bi1 ci1) (.slice ai2 bi2 ci2) (.slice ai3 bi3 ci3))) rfl ⟨d1, hd1, hri⟩, by rw [hl2]; exact hrow2', hck2.snoc (c := #[str sn, ptr bj, .slice aj1 bj1 cj1]) rfl ⟨d1, hd1, hrp⟩, rfl⟩
        · refine c_skip ?_
          refine e_normal_block ?_
          refine e_seq ?_
          refine c_region ?_
          refine g_q (qv_add (c := ((j + 1 : Nat) : Int)) rfl rfl (by rw [wrap_i64 (by omega) (by omega)]; omega)) rfl ?_
          refine g_q (qv_move rfl) rfl ?_
          refine g_nil ?_
          exact e_again (j + 1) (by omega) (L' := [(0, .slice pl xs.length cl), (2, .int .i64 (d0 : Int)), (8, ptr b8), (9, ptr b9), (10, ptr b10), (12, ptr b12), (13, ptr b13), (14, .int .u32 w), (43, .slice (some ⟨g, 0, none⟩) 2 2), (44, .int .i64 2), (45, .int .i64 (((j + 1 : Nat)) : Int))]) ⟨rfl, rfl, rfl, rfl, rfl, rfl, rfl, rfl, rfl, rfl, rfl, trivial⟩ ⟨deps, cs1, cs2, md1, mk1, md2, mk2, q1, e1, q2, e2, rfl, by omega, hok.succ, hrow1, hck1, hrow2, hck2, rfl⟩
    · refine c_exit ?_
      refine e_exit_then ?_
      refine e_exit_then ?_
      refine e_exit_block ?_
      refine e_seq ?_
      obtain rfl : j = 2 := by
        have := of_decide_eq_false hc
        omega
      refine c_seq ?_
      refine c_to (M' := (b12, .cells (iCells nm kk x i s (.slice p1 n1 c1) (.slice p2 n2 c2) (.slice q1 deps.length e1)) 51 (0, 0)) :: (b13, .cells #[str nm, ptr bs, (.slice q2 deps.length e2)] 54 (0, 0)) :: ((b8, .cells (iCells [] 0 false 0 [] nilS nilS nilS) 51 (0, 0)) :: (b9, .cells #[str [], .pointer none, nilS] 54 (0, 0)) :: (M0 ++ ((mdv ++ (md1 ++ mk1)) ++ (ms ++ (md2 ++ mk2)))))) (fun f => by simp only [List.map_cons, List.sum_cons, List.map_append, List.sum_append]; omega) ?_
      refine c_draw [(b12, .cells (iCells nm kk x i s (.slice p1 n1 c1) (.slice p2 n2 c2) (.slice q1 deps.length e1)) 51 (0, 0)), (b13, .cells #[str nm, ptr bs, (.slice q2 deps.length e2)] 54 (0, 0))] (fun i => !(i == 3)) Try.mixed ?_
      refine d_take 0 rfl (by kernel_rfl) (by kernel_rfl) (by kernel_rfl) (by kernel_rfl) rfl (qv_loadA (vs := (iCells nm kk x i s (.slice p1 n1 c1) (.slice p2 n2 c2) (.slice q1 deps.length e1)).toList) rfl Try.isAgg51 Try.sizeOf51 m0 (fun _ _ h => by simpa using h)) (fun z hz => by simp only [List.mem_cons, List.not_mem_nil, or_false] at hz ⊢; exact hz.elim Or.inl (fun h => Or.inr (Or.inl h))) ?_
      refine d_take 1 rfl (by kernel_rfl) (by kernel_rfl) (by kernel_rfl) (by kernel_rfl) rfl (qv_loadA (vs := #[str nm, ptr bs, (.slice q2 deps.length e2)].toList) rfl Try.isAgg54 Try.sizeOf54 m1 (fun _ _ h => by simpa using h)) (fun z hz => by simp only [List.mem_cons, List.not_mem_nil, or_false] at hz ⊢; exact hz.elim Or.inl (fun h => Or.inr (Or.inl h))) ?_
      refine d_run0 2 rfl (by kernel_rfl) (iv_storeA (i := 2) (b := b8) (vs := iCells nm kk x i s (.slice p1 n1 c1) (.slice p2 n2 c2) (.slice q1 deps.length e1)) rfl rfl all_iCells Try.sizeOf51 rfl rfl) (by rintro _ _ rfl _ z hz; simp only [List.set_cons_succ, List.set_cons_zero, List.mem_cons, List.not_mem_nil, or_false] at hz ⊢; exact hz.elim Or.inl (fun h => Or.inr (Or.inl h))) ?_
      rintro _ _ rfl
      refine d_run0 3 rfl (by kernel_rfl) (iv_storeA (i := 3) (b := b9) (vs := #[str nm, ptr bs, (.slice q2 deps.length e2)]) rfl rfl all_pCells Try.sizeOf54 rfl rfl) (fun _ _ _ h => by cases h) ?_
      rintro _ _ rfl
      refine d_done (by kernel_rfl) ?_
      refine e_seq ?_
      refine c_ret ?_
      refine e_to (M' := M0 ++ ((mdv ++ (md1 ++ mk1)) ++ ((ms ++ (md2 ++ mk2)) ++ [(b8, .cells (iCells nm kk x i s (.slice p1 n1 c1) (.slice p2 n2 c2) (.slice q1 deps.length e1)) 51 (0, 0)), (b9, .cells #[str nm, ptr bs, (.slice q2 deps.length e2)] 54 (0, 0))]))) (fun f => by simp only [List.set_cons_succ, List.set_cons_zero, List.map_cons, List.sum_cons, List.map_append, List.sum_append, List.map_nil, List.sum_nil]; omega) ?_
      exact e_retcc (vs := (iCells nm kk x i s (.slice p1 n1 c1) (.slice p2 n2 c2) (.slice q1 deps.length e1)).toList) (us := (#[str nm, ptr bs, (.slice q2 deps.length e2)] : Array Value).toList) (.inl rfl) Try.results20 Try.isAgg51 Try.sizeOf51 rfl (List.mem_append_right _ (List.mem_append_right _ (List.mem_append_right _ m0))) (fun _ _ h => by simpa using h) Try.isAgg54 Try.sizeOf54 rfl (List.mem_append_right _ (List.mem_append_right _ (List.mem_append_right _ m1))) (fun _ _ h => by simpa using h) ⟨.mk nm es deps, _, _, _, _, _, rfl, rfl, hok.wf hnm hrs.ok hrs.hg, RepC.close ⟨dCells kk x i s (.slice p1 n1 c1) (.slice p2 n2 c2), rfl, rfl, hrd⟩ hrow1 hck1, RepC.close ⟨ptr bs, rfl, hrs⟩ hrow2 hck2, rfl⟩

theorem chartOf_any (d0 : Nat) : ChartOfSpec W0 d0 := by
  induction d0 with
  | zero => exact chartOf_step 0 (fun d1 e => by cases e)
  | succ d0 ih => exact chartOf_step (d0 + 1) (fun d1 e => by cases e; exact ih)

end Go.Proofs.Ytnnclcfklbeocaa

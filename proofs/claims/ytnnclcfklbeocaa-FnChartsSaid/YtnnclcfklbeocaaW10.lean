/-
  The walks, part 10: laws.same finds data of one tree to be the same; laws.is.
  Conditions: both lie in memory as RepD says (laws.is: the second as RepS says).
-/
import Derived.Test.YtnnclcfklbeocaaW9
namespace Go.Proofs.Ytnnclcfklbeocaa
open Go.RowKit

variable {W0 : World}

def kindT : T → Int
  | .null => 0
  | .truth _ => 1
  | .int _ => 2
  | .text _ => 4
  | .one _ => 5
  | .tab _ => 6
def boolT : T → Bool
  | .truth x => x
  | _ => false
def intT : T → Int
  | .int x => x
  | _ => 0
def textT : T → Key
  | .text x => x
  | _ => []
def keysT : T → List Key
  | .tab es => es.map (·.1)
  | _ => []
def itemsT : T → List (Key × T)
  | .tab es => es
  | .one y => [([], .int y)]
  | _ => []

/-- Data, seen in one way whatever the tree. -/
theorem RepD.view {n : Nat} {t : T} {v : Value} {m : Heap} (h : RepD n t v m) : ∃ p c p' c' mi mk mc cs, v = .agg (dCells (kindT t) (boolT t) (intT t) (textT t) (.slice p (itemsT t).length c) (.slice p' (keysT t).length c')) ∧
    Row 9 1 (.slice p' (keysT t).length c') (keysT t).length ((keysT t).map str) mk ∧ Row 32 7 (.slice p (itemsT t).length c) (itemsT t).length cs mi ∧ DKids (fun t v m => ∃ n', (n' < n ∨ (n' = 0 ∧ ∃ y, t = .int y)) ∧ RepD n' t v m) (itemsT t) cs mc ∧
    (itemsT t).length ≤ 6 ∧ (keysT t).length ≤ 6 ∧ (∀ x, x ∈ mi → x ∈ m) ∧ (∀ x, x ∈ mk → x ∈ m) ∧ (∀ x, x ∈ mc → x ∈ m) := by
  obtain ⟨kk, x, i, s, p, N, c, p', N', c', rfl, hsh⟩ := h.shape
  rcases hsh with ⟨rfl, rfl, rfl, rfl, rfl, rfl, e1, e2⟩ | ⟨rfl, rfl, rfl, rfl, rfl, e1, e2⟩ | ⟨rfl, rfl, rfl, rfl, rfl, e1, e2⟩ | ⟨rfl, rfl, rfl, rfl, rfl, e1, e2⟩ | ⟨rfl, y, rfl, hrow, rfl, rfl, rfl, e2⟩ | ⟨rfl, es, mi, mk, cs, mc, rfl, hok, hrowk, hrowi, hkd, rfl, rfl, rfl, rfl⟩
  · cases e1; cases e2
    exact ⟨none, 0, none, 0, [], [], [], [], rfl, Row.nil _ _, Row.nil _ _, ⟨rfl, rfl⟩, Nat.zero_le _, Nat.zero_le _, fun _ h => h, fun _ h => h, fun _ h => h⟩
  · cases e1; cases e2
    exact ⟨none, 0, none, 0, [], [], [], [], rfl, Row.nil _ _, Row.nil _ _, ⟨rfl, rfl⟩, Nat.zero_le _, Nat.zero_le _, fun _ h => h, fun _ h => h, fun _ h => h⟩
  · cases e1; cases e2
    exact ⟨none, 0, none, 0, [], [], [], [], rfl, Row.nil _ _, Row.nil _ _, ⟨rfl, rfl⟩, Nat.zero_le _, Nat.zero_le _, fun _ h => h, fun _ h => h, fun _ h => h⟩
  · cases e1; cases e2
    exact ⟨none, 0, none, 0, [], [], [], [], rfl, Row.nil _ _, Row.nil _ _, ⟨rfl, rfl⟩, Nat.zero_le _, Nat.zero_le _, fun _ h => h, fun _ h => h, fun _ h => h⟩
  · cases e2
    obtain ⟨_, _, e⟩ := hrow.shape
    cases e
    exact ⟨p, c, none, 0, m, [], [], (dCells 2 false y [] nilS nilS).toList, rfl, Row.nil _ _, hrow, ⟨dCells 2 false y [] nilS nilS, [], [], [], by simp, rfl, rfl, ⟨0, Or.inr ⟨rfl, y, rfl⟩, rfl, rfl⟩, rfl, rfl⟩, (by decide : 1 ≤ 6), Nat.zero_le _, fun _ h => h, fun _ h => (by cases h), fun _ h => by cases h⟩
  · have hl := hok.len
    obtain ⟨_, _, e⟩ := hrowk.shape
    cases e
    obtain ⟨_, _, e⟩ := hrowi.shape
    cases e
    refine ⟨p, c, p', c', mi, mk, mc, cs, ?_, ?_, hrowi, hkd.mono (fun _ _ _ ⟨n', h1, h2⟩ => ⟨n', Or.inl h1, h2⟩), hl, ?_, fun _ h => List.mem_append_left _ h, fun _ h => List.mem_append_right _ (List.mem_append_left _ h), fun _ h => List.mem_append_right _ (List.mem_append_right _ h)⟩
    · simp only [kindT, boolT, intT, textT, itemsT, keysT, List.length_map]
    · simp only [keysT, List.length_map, List.map_map]
      exact hrowk
    · simpa [keysT] using hl

def SameSpec (W0 : World) (n : Nat) (t : T) : Prop := ∀ n2 v m v2 m2 M, RepD n t v m → RepD n2 t v2 m2 → (∀ x, x ∈ m → x ∈ M) → (∀ x, x ∈ m2 → x ∈ M) → Tri Try.prog W0 29 [v, v2] M fun r M' => r = .bool true ∧ M' = M

theorem qv_nei_same {P : Program} {L : Slots} {M : Heap} {T T' : TypeId} {x y : Operand} {k : IntKind} {a : Int} (hx : opv L x = some (.int k a)) (hy : opv L y = some (.int k a)) : QV P W0 L M (.binOp .neq T x y T') (.bool false) := QV.to (qv_nei hx hy) (by simp)

set_option maxHeartbeats 4000000 in
theorem same_step (n : Nat) (t : T) (hsub : ∀ p, p ∈ itemsT t → ∀ n', (n' < n ∨ (n' = 0 ∧ ∃ y, p.2 = .int y)) → SameSpec W0 n' p.2) : SameSpec W0 n t := by
  intro n2 v m v2 m2 M hv hv2 hm hm2
  obtain ⟨p, c, p', c', mi, mk, mc, cs, rfl, hrowk, hrowi, hkd, hl6, hk6, hmi, hmk, hmc⟩ := hv.view
  obtain ⟨q, d, q', d', mi2, mk2, mc2, cs2, rfl, hrowk2, hrowi2, hkd2, _, _, hmi2, hmk2, hmc2⟩ := hv2.view
  refine tri_of 97 Try.func29 rfl Try.ntmps29 (Nat.le_of_ble_eq_true rfl) ?_
  refine c_seq ?_
  refine c_region ?_   -- region 0
  refine g_i (iv_boxA rfl) rfl ?_
  rintro _ _ ⟨b2, rfl, rfl⟩
  refine g_i (iv_boxA rfl) rfl ?_
  rintro _ _ ⟨b3, rfl, rfl⟩
  refine g_q (qv_assign rfl) rfl ?_
  refine g_nil ?_
  refine e_seq ?_
  refine c_seq ?_
  refine c_seq ?_
  refine c_region ?_   -- region 1
  refine g_q (qv_field rfl Try.runUnderlying32 rfl Try.sizeOf3 rfl) rfl ?_
  refine g_q (qv_load (v := .int .i64 (kindT t)) rfl Try.isAgg3 m1 rfl) rfl ?_
  refine g_q (qv_field rfl Try.runUnderlying32 rfl Try.sizeOf3 rfl) rfl ?_
  refine g_q (qv_load (v := .int .i64 (kindT t)) rfl Try.isAgg3 m0 rfl) rfl ?_
  refine g_q (qv_nei_same rfl rfl) rfl ?_
  refine g_q (qv_move rfl) rfl ?_
  refine g_on rfl rfl ?_
  refine g_q (qv_field rfl Try.runUnderlying32 rfl Try.sizeOf30 rfl) rfl ?_
  refine g_on rfl rfl ?_
  refine g_q (qv_load (v := .slice p (itemsT t).length c) rfl Try.isAgg30 m1 rfl) rfl ?_
  refine g_on rfl rfl ?_
  refine g_q (qv_len_slice rfl Try.runUnderlying30) rfl ?_
  refine g_on rfl rfl ?_
  refine g_q (qv_field rfl Try.runUnderlying32 rfl Try.sizeOf30 rfl) rfl ?_
  refine g_on rfl rfl ?_
  refine g_q (qv_load (v := .slice q (itemsT t).length d) rfl Try.isAgg30 m0 rfl) rfl ?_
  refine g_on rfl rfl ?_
  refine g_q (qv_len_slice rfl Try.runUnderlying30) rfl ?_
  refine g_on rfl rfl ?_
  refine g_q (qv_nei_same rfl rfl) rfl ?_
  refine g_q (qv_pick_f rfl rfl) rfl ?_
  refine g_q (qv_move rfl) rfl ?_
  refine g_on rfl rfl ?_
  refine g_q (qv_field rfl Try.runUnderlying32 rfl Try.sizeOf27 rfl) rfl ?_
  refine g_on rfl rfl ?_
  refine g_q (qv_load (v := .slice p' (keysT t).length c') rfl Try.isAgg27 m1 rfl) rfl ?_
  refine g_on rfl rfl ?_
  refine g_q (qv_len_slice rfl Try.runUnderlying27) rfl ?_
  refine g_on rfl rfl ?_
  refine g_q (qv_field rfl Try.runUnderlying32 rfl Try.sizeOf27 rfl) rfl ?_
  refine g_on rfl rfl ?_
  refine g_q (qv_load (v := .slice q' (keysT t).length d') rfl Try.isAgg27 m0 rfl) rfl ?_
  refine g_on rfl rfl ?_
  refine g_q (qv_len_slice rfl Try.runUnderlying27) rfl ?_
  refine g_on rfl rfl ?_
  refine g_q (qv_nei_same rfl rfl) rfl ?_
  refine g_q (qv_pick_f rfl rfl) rfl ?_
  refine g_nil ?_
  refine e_seq ?_
  refine c_false rfl ?_   -- t29
  refine c_skip ?_
  refine e_seq ?_
  refine c_seq ?_
  refine c_seq ?_
  refine c_region ?_   -- region 3
  refine g_q (qv_field rfl Try.runUnderlying32 rfl Try.sizeOf27 rfl) rfl ?_
  refine g_q (qv_load (v := .slice p' (keysT t).length c') rfl Try.isAgg27 m1 rfl) rfl ?_
  refine g_q (qv_len_slice rfl Try.runUnderlying27) rfl ?_
  refine g_q (qv_move rfl) rfl ?_
  refine g_nil ?_
  refine e_seq ?_
  refine c_block ?_
  refine c_keep (L' := [(2, ptr b2), (3, ptr b3), (32, .int .i64 ((keysT t).length : Int)), (33, .int .i64 ((0 : Nat) : Int))]) ⟨rfl, rfl, rfl, rfl, trivial⟩ ?_
  generalize hkt : keysT t = ks at *
  generalize hit : itemsT t = ts at *
  refine c_loop (ι := Nat) (fun j L M' => L = [(2, ptr b2), (3, ptr b3), (32, .int .i64 (ks.length : Int)), (33, .int .i64 (j : Int))] ∧ j ≤ ks.length ∧ M' = (b3, .cells (dCells (kindT t) (boolT t) (intT t) (textT t) (.slice q ts.length d) (.slice q' ks.length d')) 32 (0, 0)) :: (b2, .cells (dCells (kindT t) (boolT t) (intT t) (textT t) (.slice p ts.length c) (.slice p' ks.length c')) 32 (0, 0)) :: M) (fun j => ks.length - j) 0 ⟨rfl, Nat.zero_le _, rfl⟩ ?_
  rintro j _ _ ⟨rfl, hj, rfl⟩
  refine c_seq ?_
  refine c_region ?_   -- region 4
  refine g_q (qv_lss rfl rfl) rfl ?_
  refine g_nil ?_
  refine e_seq ?_
  refine c_seq ?_
  refine c_cond rfl (fun hc => ?_) (fun hc => ?_)   -- t34
  · -- true
    refine c_skip ?_
    refine e_seq ?_
    refine c_seq ?_
    refine c_block ?_
    refine c_seq ?_
    refine c_region ?_   -- region 5
    refine g_q (qv_move rfl) rfl ?_
    refine g_q (qv_assign rfl) rfl ?_
    refine g_nil ?_
    refine e_seq ?_
    refine c_seq ?_
    have hjl : j < ks.length := by
      have := of_decide_eq_true hc
      omega
    obtain ⟨k, hk⟩ : ∃ k, ks[j]? = some k := ⟨_, List.getElem?_eq_getElem hjl⟩
    obtain ⟨g1, _, cs1, e1, hg1, hc1⟩ := row_at hrowk (k := j) (u := str k) (by rw [List.getElem?_map, hk]; rfl)
    cases e1
    obtain ⟨g2, _, cs3, e2, hg2, hc2⟩ := row_at hrowk2 (k := j) (u := str k) (by rw [List.getElem?_map, hk]; rfl)
    cases e2
    have hg1' := hm _ (hmk _ hg1)
    have hg2' := hm2 _ (hmk2 _ hg2)
    refine c_drawM (fun _ => true) Try.mixed ?_
    refine d_takeW 0 rfl (by kernel_rfl) (by kernel_rfl) (by kernel_rfl) rfl (fun _ => qv_field rfl Try.runUnderlying32 rfl Try.sizeOf27 rfl) ?_
    refine d_take 1 rfl (by kernel_rfl) (by kernel_rfl) (by kernel_rfl) (by kernel_rfl) rfl (qv_load (v := .slice (some ⟨g1, 0, none⟩) ks.length c') rfl Try.isAgg27 m1 rfl) (fun _ h => h) ?_
    refine d_takeW 2 rfl (by kernel_rfl) (by kernel_rfl) (by kernel_rfl) rfl (fun _ => qv_move rfl) ?_
    refine d_takeW 3 rfl (by kernel_rfl) (by kernel_rfl) (by kernel_rfl) rfl (fun _ => qv_index rfl rfl Try.runUnderlying27 Try.sizeOf9 (by omega) (by omega)) ?_
    refine d_take 4 rfl (by kernel_rfl) (by kernel_rfl) (by kernel_rfl) (by kernel_rfl) rfl (qv_load (v := str k) rfl Try.isAgg9 (.tail _ (.tail _ hg1')) (by simpa using hc1)) (fun _ h => h) ?_
    refine d_takeW 5 rfl (by kernel_rfl) (by kernel_rfl) (by kernel_rfl) rfl (fun _ => qv_field rfl Try.runUnderlying32 rfl Try.sizeOf27 rfl) ?_
    refine d_take 6 rfl (by kernel_rfl) (by kernel_rfl) (by kernel_rfl) (by kernel_rfl) rfl (qv_load (v := .slice (some ⟨g2, 0, none⟩) ks.length d') rfl Try.isAgg27 m0 rfl) (fun _ h => h) ?_
    refine d_takeW 7 rfl (by kernel_rfl) (by kernel_rfl) (by kernel_rfl) rfl (fun _ => qv_move rfl) ?_
    refine d_takeW 8 rfl (by kernel_rfl) (by kernel_rfl) (by kernel_rfl) rfl (fun _ => qv_index rfl rfl Try.runUnderlying27 Try.sizeOf9 (by omega) (by omega)) ?_
    refine d_take 9 rfl (by kernel_rfl) (by kernel_rfl) (by kernel_rfl) (by kernel_rfl) rfl (qv_load (v := str k) rfl Try.isAgg9 (.tail _ (.tail _ hg2')) (by simpa using hc2)) (fun _ h => h) ?_
    refine d_takeW 10 rfl (by kernel_rfl) (by kernel_rfl) (by kernel_rfl) rfl (fun _ => QV.to (v' := .bool false) (qv_nes rfl rfl) (by simp)) ?_
    refine d_done (by kernel_rfl) ?_
    refine e_seq ?_
    refine c_false rfl ?_   -- t46
    refine c_skip ?_
    refine e_normal_block ?_
    refine e_seq ?_
    refine c_region ?_   -- region 8
    refine g_q (qv_add (c := ((j + 1 : Nat) : Int)) rfl rfl (by rw [wrap_i64 (by omega) (by omega)]; omega)) rfl ?_
    refine g_q (qv_move rfl) rfl ?_
    refine g_nil ?_
    exact e_again (j + 1) (by omega) (L' := [(2, ptr b2), (3, ptr b3), (32, .int .i64 (ks.length : Int)), (33, .int .i64 ((j + 1 : Nat) : Int))]) ⟨rfl, rfl, rfl, rfl, trivial⟩ ⟨rfl, hjl, rfl⟩
  · -- false
    refine c_exit ?_
    refine e_exit_then ?_
    refine e_exit_then ?_
    refine e_exit_block ?_
    refine e_seq ?_
    refine c_seq ?_
    refine c_seq ?_
    refine c_region ?_   -- region 9
    refine g_q (qv_field rfl Try.runUnderlying32 rfl Try.sizeOf30 rfl) rfl ?_
    refine g_q (qv_load (v := .slice p ts.length c) rfl Try.isAgg30 m1 rfl) rfl ?_
    refine g_q (qv_len_slice rfl Try.runUnderlying30) rfl ?_
    refine g_q (qv_move rfl) rfl ?_
    refine g_nil ?_
    refine e_seq ?_
    refine c_block ?_
    refine c_keep (L' := [(2, ptr b2), (3, ptr b3), (50, .int .i64 (ts.length : Int)), (51, .int .i64 ((0 : Nat) : Int))]) ⟨rfl, rfl, rfl, rfl, trivial⟩ ?_
    refine c_loop (ι := Nat) (fun j L M' => L = [(2, ptr b2), (3, ptr b3), (50, .int .i64 (ts.length : Int)), (51, .int .i64 (j : Int))] ∧ j ≤ ts.length ∧ M' = (b3, .cells (dCells (kindT t) (boolT t) (intT t) (textT t) (.slice q ts.length d) (.slice q' ks.length d')) 32 (0, 0)) :: (b2, .cells (dCells (kindT t) (boolT t) (intT t) (textT t) (.slice p ts.length c) (.slice p' ks.length c')) 32 (0, 0)) :: M) (fun j => ts.length - j) 0 ⟨rfl, Nat.zero_le _, rfl⟩ ?_
    rintro j _ _ ⟨rfl, hj, rfl⟩
    refine c_seq ?_
    refine c_region ?_   -- region 10
    refine g_q (qv_lss rfl rfl) rfl ?_
    refine g_nil ?_
    refine e_seq ?_
    refine c_seq ?_
    refine c_cond rfl (fun hc => ?_) (fun hc => ?_)   -- t52
    · -- true
      refine c_skip ?_
      refine e_seq ?_
      refine c_seq ?_
      refine c_block ?_
      refine c_seq ?_
      refine c_region ?_   -- region 11
      refine g_q (qv_move rfl) rfl ?_
      refine g_q (qv_assign rfl) rfl ?_
      refine g_nil ?_
      refine e_seq ?_
      refine c_seq ?_
      have hjl : j < ts.length := by
        have := of_decide_eq_true hc
        omega
      obtain ⟨pk, hpk⟩ : ∃ k, ts[j]? = some k := ⟨_, List.getElem?_eq_getElem hjl⟩
      have hpm := List.mem_of_getElem? hpk
      obtain ⟨c7, m7, hc7, ⟨n', hn', hrep⟩, hm7, hcells⟩ := hkd.at hpk
      obtain ⟨d7, m8, hd7, ⟨n'', hn'', hrep2⟩, hm8, hcells2⟩ := hkd2.at hpk
      obtain ⟨kd, xd, id, sd, pd1, nd1, cd1, pd2, nd2, cd2, e7⟩ := hrep.agg
      cases e7
      obtain ⟨ke, xe, ie, se, pe1, ne1, ce1, pe2, ne2, ce2, e8⟩ := hrep2.agg
      cases e8
      obtain ⟨g1, _, cs1, e1, hg1, hc1⟩ := row_agg hrowi (by omega) j hcells
      cases e1
      obtain ⟨g2, _, cs3, e2, hg2, hc2⟩ := row_agg hrowi2 (by omega) j hcells2
      cases e2
      have hg1' := hm _ (hmi _ hg1)
      have hg2' := hm2 _ (hmi2 _ hg2)
      refine c_drawM (fun _ => true) Try.mixed ?_
      refine d_takeW 0 rfl (by kernel_rfl) (by kernel_rfl) (by kernel_rfl) rfl (fun _ => qv_field rfl Try.runUnderlying32 rfl Try.sizeOf30 rfl) ?_
      refine d_take 1 rfl (by kernel_rfl) (by kernel_rfl) (by kernel_rfl) (by kernel_rfl) rfl (qv_load (v := .slice (some ⟨g1, 0, none⟩) ts.length c) rfl Try.isAgg30 m1 rfl) (fun _ h => h) ?_
      refine d_takeW 2 rfl (by kernel_rfl) (by kernel_rfl) (by kernel_rfl) rfl (fun _ => qv_move rfl) ?_
      refine d_takeW 3 rfl (by kernel_rfl) (by kernel_rfl) (by kernel_rfl) rfl (fun _ => qv_index rfl rfl Try.runUnderlying30 Try.sizeOf32 (by omega) (by omega)) ?_
      refine d_take 4 rfl (by kernel_rfl) (by kernel_rfl) (by kernel_rfl) (by kernel_rfl) rfl (qv_loadA (vs := (dCells kd xd id sd (.slice pd1 nd1 cd1) (.slice pd2 nd2 cd2)).toList) rfl Try.isAgg32 Try.sizeOf32 (.tail _ (.tail _ hg1')) hc1) (fun _ h => h) ?_
      refine d_takeW 5 rfl (by kernel_rfl) (by kernel_rfl) (by kernel_rfl) rfl (fun _ => qv_field rfl Try.runUnderlying32 rfl Try.sizeOf30 rfl) ?_
      refine d_take 6 rfl (by kernel_rfl) (by kernel_rfl) (by kernel_rfl) (by kernel_rfl) rfl (qv_load (v := .slice (some ⟨g2, 0, none⟩) ts.length d) rfl Try.isAgg30 m0 rfl) (fun _ h => h) ?_
      refine d_takeW 7 rfl (by kernel_rfl) (by kernel_rfl) (by kernel_rfl) rfl (fun _ => qv_move rfl) ?_
      refine d_takeW 8 rfl (by kernel_rfl) (by kernel_rfl) (by kernel_rfl) rfl (fun _ => qv_index rfl rfl Try.runUnderlying30 Try.sizeOf32 (by omega) (by omega)) ?_
      refine d_take 9 rfl (by kernel_rfl) (by kernel_rfl) (by kernel_rfl) (by kernel_rfl) rfl (qv_loadA (vs := (dCells ke xe ie se (.slice pe1 ne1 ce1) (.slice pe2 ne2 ce2)).toList) rfl Try.isAgg32 Try.sizeOf32 (.tail _ (.tail _ hg2')) hc2) (fun _ h => h) ?_
      refine d_run 10 rfl (by kernel_rfl) rfl (iv_call (vs := [.agg (dCells kd xd id sd (.slice pd1 nd1 cd1) (.slice pd2 nd2 cd2)), .agg (dCells ke xe ie se (.slice pe1 ne1 ce1) (.slice pe2 ne2 ce2))]) Try.call29 ⟨rfl, rfl, trivial⟩ (hsub pk hpm n' hn' n'' _ _ _ _ _ hrep hrep2 (fun x hx => .tail _ (.tail _ (hm _ (hmc _ (hm7 x hx))))) (fun x hx => .tail _ (.tail _ (hm2 _ (hmc2 _ (hm8 x hx))))))) (by rintro _ _ ⟨_, rfl⟩ _ x hx; exact hx) ?_
      rintro _ _ ⟨rfl, rfl⟩
      refine d_takeW 11 rfl (by kernel_rfl) (by kernel_rfl) (by kernel_rfl) rfl (fun _ => qv_not rfl) ?_
      refine d_done (by kernel_rfl) ?_
      refine e_seq ?_
      refine c_false rfl ?_   -- t65
      refine c_skip ?_
      refine e_normal_block ?_
      refine e_seq ?_
      refine c_region ?_   -- region 14
      refine g_q (qv_add (c := ((j + 1 : Nat) : Int)) rfl rfl (by rw [wrap_i64 (by omega) (by omega)]; omega)) rfl ?_
      refine g_q (qv_move rfl) rfl ?_
      refine g_nil ?_
      exact e_again (j + 1) (by omega) (L' := [(2, ptr b2), (3, ptr b3), (50, .int .i64 (ts.length : Int)), (51, .int .i64 ((j + 1 : Nat) : Int))]) ⟨rfl, rfl, rfl, rfl, trivial⟩ ⟨rfl, hjl, rfl⟩
    · -- false
      refine c_exit ?_
      refine e_exit_then ?_
      refine e_exit_then ?_
      refine e_exit_block ?_
      refine e_seq ?_
      refine c_seq ?_
      refine c_seq ?_
      refine c_region ?_   -- region 15
      refine g_q (qv_field rfl Try.runUnderlying32 rfl Try.sizeOf3 rfl) rfl ?_
      refine g_q (qv_load (v := .int .i64 (kindT t)) rfl Try.isAgg3 m1 rfl) rfl ?_
      refine g_nil ?_
      refine e_seq ?_
      refine c_block ?_
      refine c_seq ?_
      refine c_region ?_   -- region 16
      refine g_q (qv_eqi rfl rfl) rfl ?_
      refine g_q (qv_assign rfl) rfl ?_
      refine g_nil ?_
      refine e_seq ?_
      refine c_cond rfl (fun hc => ?_) (fun hc => ?_)   -- t69
      · -- true
        refine c_seq ?_
        refine c_region ?_   -- region 17
        refine g_q (qv_field rfl Try.runUnderlying32 rfl Try.sizeOf4 rfl) rfl ?_
        refine g_q (qv_load (v := .bool (boolT t)) rfl Try.isAgg4 m1 rfl) rfl ?_
        refine g_q (qv_field rfl Try.runUnderlying32 rfl Try.sizeOf4 rfl) rfl ?_
        refine g_q (qv_load (v := .bool (boolT t)) rfl Try.isAgg4 m0 rfl) rfl ?_
        refine g_q (qv_eqb Try.runUnderlying4 rfl rfl) rfl ?_
        refine g_q (qv_assign rfl) rfl ?_
        refine g_nil ?_
        refine e_seq ?_
        refine c_ret ?_
        refine e_ret_block (e_ret_then (?_))
        exact e_to (Fits.trans Fits.tail Fits.tail) (e_ret1 (.inl rfl) Try.results29 rfl ⟨by simp, rfl⟩)
      · -- false
        refine c_seq ?_
        refine c_region ?_   -- region 18
        refine g_q (qv_eqi rfl rfl) rfl ?_
        refine g_q (qv_assign rfl) rfl ?_
        refine g_nil ?_
        refine e_seq ?_
        refine c_cond rfl (fun hc => ?_) (fun hc => ?_)   -- t76
        · -- true
          refine c_seq ?_
          refine c_region ?_   -- region 19
          refine g_q (qv_field rfl Try.runUnderlying32 rfl Try.sizeOf2 rfl) rfl ?_
          refine g_q (qv_load (v := .int .i64 (intT t)) rfl Try.isAgg2 m1 rfl) rfl ?_
          refine g_q (qv_field rfl Try.runUnderlying32 rfl Try.sizeOf2 rfl) rfl ?_
          refine g_q (qv_load (v := .int .i64 (intT t)) rfl Try.isAgg2 m0 rfl) rfl ?_
          refine g_q (qv_eqi rfl rfl) rfl ?_
          refine g_q (qv_assign rfl) rfl ?_
          refine g_nil ?_
          refine e_seq ?_
          refine c_ret ?_
          refine e_ret_block (e_ret_then (?_))
          exact e_to (Fits.trans Fits.tail Fits.tail) (e_ret1 (.inl rfl) Try.results29 rfl ⟨by simp, rfl⟩)
        · -- false
          refine c_seq ?_
          refine c_region ?_   -- region 20
          refine g_q (qv_eqi rfl rfl) rfl ?_
          refine g_q (qv_assign rfl) rfl ?_
          refine g_nil ?_
          refine e_seq ?_
          refine c_cond rfl (fun hc => ?_) (fun hc => ?_)   -- t83
          · -- true
            refine c_seq ?_
            refine c_region ?_   -- region 21
            refine g_q (qv_field rfl Try.runUnderlying32 rfl Try.sizeOf29 rfl) rfl ?_
            refine g_q (qv_load (v := .int .u64 0) rfl Try.isAgg29 m1 rfl) rfl ?_
            refine g_q (qv_field rfl Try.runUnderlying32 rfl Try.sizeOf29 rfl) rfl ?_
            refine g_q (qv_load (v := .int .u64 0) rfl Try.isAgg29 m0 rfl) rfl ?_
            refine g_q (qv_eqi rfl rfl) rfl ?_
            refine g_q (qv_assign rfl) rfl ?_
            refine g_nil ?_
            refine e_seq ?_
            refine c_ret ?_
            refine e_ret_block (e_ret_then (?_))
            exact e_to (Fits.trans Fits.tail Fits.tail) (e_ret1 (.inl rfl) Try.results29 rfl ⟨by simp, rfl⟩)
          · -- false
            refine c_seq ?_
            refine c_region ?_   -- region 22
            refine g_q (qv_eqi rfl rfl) rfl ?_
            refine g_q (qv_assign rfl) rfl ?_
            refine g_nil ?_
            refine e_seq ?_
            refine c_cond rfl (fun hc => ?_) (fun hc => ?_)   -- t90
            · -- true
              refine c_seq ?_
              refine c_region ?_   -- region 23
              refine g_q (qv_field rfl Try.runUnderlying32 rfl Try.sizeOf9 rfl) rfl ?_
              refine g_q (qv_load (v := str (textT t)) rfl Try.isAgg9 m1 rfl) rfl ?_
              refine g_q (qv_field rfl Try.runUnderlying32 rfl Try.sizeOf9 rfl) rfl ?_
              refine g_q (qv_load (v := str (textT t)) rfl Try.isAgg9 m0 rfl) rfl ?_
              refine g_q (qv_eqs rfl rfl) rfl ?_
              refine g_q (qv_assign rfl) rfl ?_
              refine g_nil ?_
              refine e_seq ?_
              refine c_ret ?_
              refine e_ret_block (e_ret_then (?_))
              exact e_to (Fits.trans Fits.tail Fits.tail) (e_ret1 (.inl rfl) Try.results29 rfl ⟨by simp, rfl⟩)
            · -- false
              refine c_skip ?_
              refine e_normal_block ?_
              refine e_seq ?_
              refine c_seq ?_
              refine c_region ?_   -- region 24
              refine g_q (qv_assign rfl) rfl ?_
              refine g_nil ?_
              refine e_seq ?_
              refine c_ret ?_
              refine ?_
              exact e_to (Fits.trans Fits.tail Fits.tail) (e_ret1 (.inl rfl) Try.results29 rfl ⟨by simp, rfl⟩)
theorem same_any (n : Nat) : ∀ t, SameSpec W0 n t := by
  have hint : ∀ y, SameSpec W0 0 (.int y) := fun y => same_step 0 (.int y) (fun _ h => by cases h)
  induction n using Nat.strongRecOn with
  | ind n ih =>
    refine fun t => same_step n t (fun p _ n' hn' => ?_)
    rcases hn' with h | ⟨rfl, y, h⟩
    · exact ih n' h p.2
    · rw [h]
      exact hint y

theorem is_any (n n2 : Nat) (t : T) (d v : Value) (md mv M : Heap) (hd : RepD n t d md) (hv : RepS n2 t v mv) (hmd : ∀ x, x ∈ md → x ∈ M) (hmv : ∀ x, x ∈ mv → x ∈ M) : Tri Try.prog W0 14 [d, v] M fun r M' => r = .bool true ∧ ∃ m', M' = M ++ m' := by
  obtain ⟨kd, xd, id, sd, pd1, nd1, cd1, pd2, nd2, cd2, rfl⟩ := hd.agg
  refine tri_of 11 Try.func14 rfl Try.ntmps14 (Nat.le_of_ble_eq_true rfl) ?_
  refine c_seq ?_
  refine c_region ?_   -- region 0
  refine g_i (iv_boxA rfl) rfl ?_
  rintro _ _ ⟨b2, rfl, rfl⟩
  refine g_q (qv_assign rfl) rfl ?_
  refine g_nil ?_
  refine e_seq ?_
  refine c_seq ?_
  refine c_region ?_   -- region 1
  refine g_q (qv_move rfl) rfl ?_
  refine g_i (iv_call (vs := [v]) Try.call12 ⟨rfl, trivial⟩ (of_any n2 t v mv _ hv (fun x hx => .tail _ (hmv x hx)))) rfl ?_
  rintro d1 _ ⟨m1, hd1, rfl⟩
  obtain ⟨ke, xe, ie, se, pe1, ne1, ce1, pe2, ne2, ce2, rfl⟩ := hd1.agg
  refine g_i (iv_allocA Try.zeroValue32) rfl ?_
  rintro _ _ ⟨b5, rfl, rfl⟩
  refine g_i0 (iv_storeA (i := 0) (b := b5) (vs := dCells ke xe ie se (.slice pe1 ne1 ce1) (.slice pe2 ne2 ce2)) rfl rfl all_dCells Try.sizeOf32 rfl rfl) ?_
  rintro _ _ rfl
  refine g_nil ?_
  refine e_seq ?_
  refine c_seq ?_
  refine c_region ?_   -- region 2
  refine g_q (qv_loadA (vs := (dCells kd xd id sd (.slice pd1 nd1 cd1) (.slice pd2 nd2 cd2)).toList) rfl Try.isAgg32 Try.sizeOf32 (.tail _ m0) (fun _ _ h => by simpa using h)) rfl ?_
  refine g_q (qv_loadA (vs := (dCells ke xe ie se (.slice pe1 ne1 ce1) (.slice pe2 ne2 ce2)).toList) rfl Try.isAgg32 Try.sizeOf32 m0 (fun _ _ h => by simpa using h)) rfl ?_
  refine g_i (iv_call (vs := [.agg (dCells kd xd id sd (.slice pd1 nd1 cd1) (.slice pd2 nd2 cd2)), .agg (dCells ke xe ie se (.slice pe1 ne1 ce1) (.slice pe2 ne2 ce2))]) Try.call29 ⟨rfl, rfl, trivial⟩ (same_any n t n2 _ _ _ _ _ hd hd1 (fun x hx => .tail _ (.tail _ (List.mem_append_left _ (hmd x hx)))) (fun x hx => .tail _ (.tail _ (List.mem_append_right _ hx))))) rfl ?_
  rintro _ _ ⟨rfl, rfl⟩
  refine g_q (qv_assign rfl) rfl ?_
  refine g_nil ?_
  refine e_seq ?_
  refine c_ret ?_
  refine ?_
  exact e_to (M' := M ++ m1) (fun f => by simp <;> omega) (e_ret1 (.inl rfl) Try.results14 rfl ⟨rfl, m1, rfl⟩)
end Go.Proofs.Ytnnclcfklbeocaa

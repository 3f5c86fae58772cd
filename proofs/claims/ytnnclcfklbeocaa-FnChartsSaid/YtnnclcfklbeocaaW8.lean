/-
  The walks, part 8: slices.Sort of few strings (it comes down to the insertion sort).
  Conditions: at most six strings, in a slice of the call's own.
-/
import Derived.Test.YtnnclcfklbeocaaW7
namespace Go.Proofs.Ytnnclcfklbeocaa
open Go.RowKit

variable {W0 : World}

section
variable {P : Program} {L : Slots} {M : Heap} {T T' : TypeId} {x y : Operand} {k : IntKind} {a b : Int}
theorem qv_leq (hx : opv L x = some (.int k a)) (hy : opv L y = some (.int k b)) : QV P W0 L M (.binOp .leq T x y T') (.bool (decide (a ≤ b))) := qv_bin hx hy fun w => by simp [guard_int, binOp, Op.intCmp]
theorem qv_geq (hx : opv L x = some (.int k a)) (hy : opv L y = some (.int k b)) : QV P W0 L M (.binOp .geq T x y T') (.bool (decide (b ≤ a))) := qv_bin hx hy fun w => by simp [guard_int, binOp, Op.intCmp]
end

theorem nan_any (s : Key) (M : Heap) : Tri Try.prog W0 82 [str s] M fun v M' => v = .bool false ∧ M' = M := by
  refine tri_of 6 Try.func82 rfl Try.ntmps82 (Nat.le_of_ble_eq_true rfl) ?_
  refine c_seq ?_
  refine c_region ?_   -- region 0
  refine g_q (qv_assign rfl) rfl ?_
  refine g_nil ?_
  refine e_seq ?_
  refine c_seq ?_
  refine c_region ?_   -- region 1
  refine g_q (qv_move rfl) rfl ?_
  refine g_q (qv_move rfl) rfl ?_
  refine g_q (qv_nes rfl rfl) rfl ?_
  refine g_q (qv_assign rfl) rfl ?_
  refine g_nil ?_
  refine e_seq ?_
  refine c_ret ?_
  refine ?_
  exact e_ret1 (.inl rfl) Try.results82 rfl ⟨by simp, rfl⟩
theorem less_any (s t : Key) (M : Heap) : Tri Try.prog W0 66 [str s, str t] M fun v M' => v = .bool (Op.bytesLess s t) ∧ M' = M := by
  refine tri_of 17 Try.func66 rfl Try.ntmps66 (Nat.le_of_ble_eq_true rfl) ?_
  refine c_seq ?_
  refine c_region ?_   -- region 0
  refine g_q (qv_assign rfl) rfl ?_
  refine g_nil ?_
  refine e_seq ?_
  refine c_seq ?_
  refine c_region ?_   -- region 1
  refine g_q (qv_move rfl) rfl ?_
  refine g_i (iv_call (vs := [str s]) Try.call82 ⟨rfl, trivial⟩ (nan_any s M)) rfl ?_
  rintro _ _ ⟨rfl, rfl⟩
  refine g_q (qv_move rfl) rfl ?_
  -- GUARD ['2', 'Bool.true']: refine g_on rfl rfl ?_ | g_off rfl rfl rfl rfl ?_
  refine g_off rfl rfl rfl rfl ?_
  refine g_off rfl rfl rfl rfl ?_
  refine g_off rfl rfl rfl rfl ?_
  -- GUARD ['2', 'Bool.true']: refine g_on rfl rfl ?_ | g_off rfl rfl rfl rfl ?_
  -- GUARD ['2', 'Bool.true']: refine g_on rfl rfl ?_ | g_off rfl rfl rfl rfl ?_
  refine g_q (qv_pick_f rfl rfl) rfl ?_
  refine g_q (qv_move rfl) rfl ?_
  -- GUARD ['7', 'Bool.false']: refine g_on rfl rfl ?_ | g_off rfl rfl rfl rfl ?_
  refine g_on rfl rfl ?_
  refine g_q (qv_move rfl) rfl ?_
  -- GUARD ['7', 'Bool.false']: refine g_on rfl rfl ?_ | g_off rfl rfl rfl rfl ?_
  refine g_on rfl rfl ?_
  refine g_q (qv_move rfl) rfl ?_
  -- GUARD ['7', 'Bool.false']: refine g_on rfl rfl ?_ | g_off rfl rfl rfl rfl ?_
  refine g_on rfl rfl ?_
  refine g_q (qv_lts rfl rfl) rfl ?_
  refine g_q (qv_pick_f rfl rfl) rfl ?_
  refine g_q (qv_assign rfl) rfl ?_
  refine g_nil ?_
  refine e_seq ?_
  refine c_ret ?_
  refine ?_
  exact e_ret1 (.inl rfl) Try.results66 rfl ⟨rfl, rfl⟩
theorem len64_any (n : Int) (hn : n = 0 ∨ n = 1 ∨ n = 2 ∨ n = 3 ∨ n = 4 ∨ n = 5 ∨ n = 6) (M : Heap) : Tri Try.prog W0 70 [.int .u64 n] M fun v M' => (∃ k, v = .int .i64 k) ∧ M' = M := by
  have h0 : 0 ≤ n := by omega
  refine tri_of 25 Try.func70 rfl Try.ntmps70 (Nat.le_of_ble_eq_true rfl) ?_
  refine c_seq ?_
  refine c_region ?_   -- region 0
  refine g_q (qv_assign rfl) rfl ?_
  refine g_nil ?_
  refine e_seq ?_
  refine c_seq ?_
  refine c_seq ?_
  refine c_region ?_   -- region 1
  refine g_q (qv_move rfl) rfl ?_
  refine g_q (QV.to (qv_geq rfl rfl) (congrArg Value.bool (decide_eq_false (by omega)))) rfl ?_
  refine g_nil ?_
  refine e_seq ?_
  refine c_false rfl ?_   -- t4
  refine c_skip ?_
  refine e_seq ?_
  refine c_seq ?_
  refine c_seq ?_
  refine c_region ?_   -- region 4
  refine g_q (qv_move rfl) rfl ?_
  refine g_q (QV.to (qv_geq rfl rfl) (congrArg Value.bool (decide_eq_false (by omega)))) rfl ?_
  refine g_nil ?_
  refine e_seq ?_
  refine c_false rfl ?_   -- t8
  refine c_skip ?_
  refine e_seq ?_
  refine c_seq ?_
  refine c_seq ?_
  refine c_region ?_   -- region 7
  refine g_q (qv_move rfl) rfl ?_
  refine g_q (QV.to (qv_geq rfl rfl) (congrArg Value.bool (decide_eq_false (by omega)))) rfl ?_
  refine g_nil ?_
  refine e_seq ?_
  refine c_false rfl ?_   -- t14
  refine c_skip ?_
  refine e_seq ?_
  refine c_seq ?_
  refine c_region ?_   -- region 10
  refine g_q (qv_move rfl) rfl ?_
  refine g_q (qv_move rfl) rfl ?_
  refine g_q (qv_conv (m := n) rfl Try.runUnderlying29 Try.runUnderlying5 (by rcases hn with rfl | rfl | rfl | rfl | rfl | rfl | rfl <;> rfl)) rfl ?_
  refine g_q (qv_strIndex (b := ([0, 1, 2, 2, 3, 3, 3] : List UInt8).getD n.toNat 0) rfl rfl Try.runUnderlying9 h0 (by rcases hn with rfl | rfl | rfl | rfl | rfl | rfl | rfl <;> rfl)) rfl ?_
  refine g_q (qv_conv rfl Try.runUnderlying5 Try.runUnderlying3 rfl) rfl ?_
  refine g_q (qv_add rfl rfl rfl) rfl ?_
  refine g_q (qv_assign rfl) rfl ?_
  refine g_nil ?_
  refine e_seq ?_
  refine c_ret ?_
  refine ?_
  exact e_ret1 (.inl rfl) Try.results70 rfl ⟨⟨_, rfl⟩, rfl⟩
theorem len_any (n : Int) (hn : n = 0 ∨ n = 1 ∨ n = 2 ∨ n = 3 ∨ n = 4 ∨ n = 5 ∨ n = 6) (M : Heap) : Tri Try.prog W0 53 [.int .u64 n] M fun v M' => (∃ k, v = .int .i64 k) ∧ M' = M := by
  refine tri_of 8 Try.func53 rfl Try.ntmps53 (Nat.le_of_ble_eq_true rfl) ?_
  refine c_seq ?_
  refine c_region ?_   -- region 0
  refine g_q (qv_assign rfl) rfl ?_
  refine g_nil ?_
  refine e_seq ?_
  refine c_seq ?_
  refine c_false rfl ?_   -- c
  refine c_skip ?_
  refine e_seq ?_
  refine c_seq ?_
  refine c_region ?_   -- region 2
  refine g_q (qv_move rfl) rfl ?_
  refine g_i (iv_call (vs := [.int .u64 n]) Try.call70 ⟨rfl, trivial⟩ (len64_any n hn M)) rfl ?_
  rintro _ _ ⟨⟨k, rfl⟩, rfl⟩
  refine g_q (qv_assign rfl) rfl ?_
  refine g_nil ?_
  refine e_seq ?_
  refine c_ret ?_
  refine ?_
  exact e_ret1 (.inl rfl) Try.results53 rfl ⟨⟨_, rfl⟩, rfl⟩
/-! ### the insertion sort -/
theorem swap_two (l : List Key) (i j : Nat) (hi : i < l.length) (hj : j < l.length) : ((l.set i l[j]).set j l[i]).Perm l := by
  have h := Array.swap_perm (xs := l.toArray) (i := i) (j := j) (by simpa using hi) (by simpa using hj)
  have h2 := h.toList
  simpa [Array.swap_def] using h2

/-- Sorted below i. -/
def Up (l : List Key) (i : Nat) : Prop := ∀ p q a b, p < q → q < i → l[p]? = some a → l[q]? = some b → a ≤ b
/-- Sorted up to i, but for the one at j. -/
def UpBut (l : List Key) (i j : Nat) : Prop := ∀ p q a b, p < q → q ≤ i → q ≠ j → l[p]? = some a → l[q]? = some b → a ≤ b

theorem Up.but {l : List Key} {i : Nat} (h : Up l i) : UpBut l i i := fun p q a b hpq hqi hne ha hb => h p q a b hpq (by omega) ha hb
theorem UpBut.up0 {l : List Key} {i : Nat} (h : UpBut l i 0) : Up l (i + 1) := fun p q a b hpq hqi ha hb => h p q a b hpq (by omega) (by omega) ha hb
theorem UpBut.up {l : List Key} {i j : Nat} {x y : Key} (h : UpBut l i (j + 1)) (hx : l[j]? = some x) (hy : l[j + 1]? = some y) (hle : x ≤ y) : Up l (i + 1) := fun p q a b hpq hqi ha hb => by
  by_cases e : q = j + 1
  · subst e
    rw [hy] at hb
    cases hb
    by_cases e : p = j
    · subst e
      rw [hx] at ha
      cases ha
      exact hle
    · exact List.le_trans (h p j a x (by omega) (by omega) (by omega) ha hx) hle
  · exact h p q a b hpq (by omega) e ha hb
theorem UpBut.swap {l : List Key} {i j : Nat} {x y : Key} (h : UpBut l i (j + 1)) (hji : j + 1 ≤ i) (hx : l[j]? = some x) (hy : l[j + 1]? = some y) (hlt : y < x) : UpBut ((l.set (j + 1) x).set j y) i j := fun p q a b hpq hqi hne ha hb => by
  obtain ⟨hjl, _⟩ := List.getElem?_eq_some_iff.1 hy
  rw [List.getElem?_set] at ha hb
  simp only [List.length_set] at ha hb
  have hqj : ¬ j = q := fun e => hne e.symm
  rw [if_neg hqj] at hb
  rw [List.getElem?_set] at ha hb
  by_cases e1 : j + 1 = q
  · subst e1
    rw [if_pos rfl, if_pos hjl] at hb
    cases hb
    by_cases e2 : j = p
    · subst e2
      rw [if_pos rfl, if_pos (by omega)] at ha
      cases ha
      exact List.le_of_lt hlt
    · rw [if_neg e2, if_neg (by omega)] at ha
      exact h p j a x (by omega) (by omega) (by omega) ha hx
  · rw [if_neg e1] at hb
    by_cases e2 : j = p
    · subst e2
      rw [if_pos rfl, if_pos (by omega)] at ha
      cases ha
      exact h (j + 1) q y b (by omega) hqi (by omega) hy hb
    · rw [if_neg e2] at ha
      by_cases e3 : j + 1 = p
      · subst e3
        rw [if_pos rfl, if_pos hjl] at ha
        cases ha
        exact h j q x b (by omega) hqi (by omega) hx hb
      · rw [if_neg e3] at ha
        exact h p q a b hpq hqi (by omega) ha hb

theorem Row.setAt {E n i g cap : Nat} {xs : List Value} {y : Value} {cs : Array Value} (h : Row E 1 (.slice (some ⟨g, 0, none⟩) n cap) n xs [(g, .cells cs E (0, 0))]) : Row E 1 (.slice (some ⟨g, 0, none⟩) n cap) n (xs.set i y) [(g, .cells (cs.setIfInBounds (0 + i * 1) y) E (0, 0))] := by
  obtain ⟨hl, h⟩ := h
  refine ⟨by simpa using hl, Or.inr ⟨g, cap, _, rfl, rfl, ?_⟩⟩
  rcases h with ⟨h, _⟩ | ⟨g', cap', cs', hv, hm, h1, h2, h3⟩
  · cases h
  cases hv
  cases hm
  refine ⟨h1, by simpa using h2, ?_⟩
  have hset : (cs.setIfInBounds (0 + i * 1) y).toList = cs.toList.set i y := by simp
  rw [hset, List.take_set, h3]

theorem insert_any (l : List Key) (v : Value) (m F : Heap) (hrow : Row 9 1 v l.length (l.map str) m) (hl : l.length ≤ 12) : Tri Try.prog W0 60 [v, .int .i64 0, .int .i64 (l.length : Int)] (m ++ F) fun _ M' => ∃ l' m', l'.Perm l ∧ Up l' l.length ∧ Row 9 1 v l.length (l'.map str) m' ∧ M' = m' ++ F := by
  obtain ⟨p, c, rfl⟩ := hrow.shape
  refine tri_of 49 Try.func60 rfl Try.ntmps60 (Nat.le_of_ble_eq_true rfl) ?_
  refine c_seq ?_
  refine c_region ?_   -- region 0
  refine g_q (qv_move rfl) rfl ?_
  refine g_q (qv_add (c := ((1 : Nat) : Int)) rfl rfl (by decide)) rfl ?_
  refine g_q (qv_assign rfl) rfl ?_
  refine g_nil ?_
  refine e_seq ?_
  refine c_block ?_
  refine c_keep (L' := [(0, .slice p l.length c), (1, .int .i64 0), (2, .int .i64 (l.length : Int)), (6, .int .i64 ((1 : Nat) : Int))]) ⟨rfl, rfl, rfl, rfl, trivial⟩ ?_
  refine c_loop (ι := Nat) (fun i L M' => ∃ l' m', L = [(0, .slice p l.length c), (1, .int .i64 0), (2, .int .i64 (l.length : Int)), (6, .int .i64 (i : Int))] ∧ 1 ≤ i ∧ i ≤ l.length + 1 ∧ l'.Perm l ∧ Up l' i ∧ Row 9 1 (.slice p l.length c) l.length (l'.map str) m' ∧ M' = m' ++ F) (fun i => l.length + 1 - i) 1
    ⟨l, m, rfl, Nat.le_refl _, by omega, List.Perm.refl _, fun p q _ _ hpq hq => by omega, hrow, rfl⟩ ?_
  rintro i _ _ ⟨l1, m1, rfl, hi1, hi2, hperm, hup, hrow1, rfl⟩
  refine c_seq ?_
  refine c_seq ?_
  refine c_region ?_   -- region 1
  refine g_q (qv_move rfl) rfl ?_
  refine g_q (qv_move rfl) rfl ?_
  refine g_q (qv_lss rfl rfl) rfl ?_
  refine g_nil ?_
  refine e_seq ?_
  refine c_cond rfl (fun hc => ?_) (fun hc => ?_)   -- t12
  · -- true
    refine c_skip ?_
    refine e_seq ?_
    refine c_seq ?_
    refine c_block ?_
    refine c_seq ?_
    refine c_region ?_   -- region 3
    have hil : i < l.length := by
      have := of_decide_eq_true hc
      omega
    refine g_q (qv_move rfl) rfl ?_
    refine g_q (qv_assign rfl) rfl ?_
    refine g_nil ?_
    refine e_seq ?_
    refine c_block ?_
    refine c_keep (L' := [(0, .slice p l.length c), (1, .int .i64 0), (2, .int .i64 (l.length : Int)), (6, .int .i64 (i : Int)), (7, .int .i64 (i : Int))]) ⟨rfl, rfl, rfl, rfl, rfl, trivial⟩ ?_
    refine c_loop (ι := Nat) (fun j L M' => ∃ l' m', L = [(0, .slice p l.length c), (1, .int .i64 0), (2, .int .i64 (l.length : Int)), (6, .int .i64 (i : Int)), (7, .int .i64 (j : Int))] ∧ j ≤ i ∧ l'.Perm l ∧ UpBut l' i j ∧ Row 9 1 (.slice p l.length c) l.length (l'.map str) m' ∧ M' = m' ++ F) (fun j => j) i
      ⟨l1, m1, rfl, Nat.le_refl _, hperm, hup.but, hrow1, rfl⟩ ?_
    clear hrow1 hup hperm
    rintro j _ _ ⟨l1, m1, rfl, hji, hperm, hup, hrow1, rfl⟩
    have hlen : l1.length = l.length := hperm.length_eq
    refine c_seq ?_
    refine c_seq ?_
    rcases Nat.eq_zero_or_pos j with rfl | hj0
    · refine c_drawM (fun _ => true) Try.mixed ?_
      refine d_takeW 0 rfl (by kernel_rfl) (by kernel_rfl) (by kernel_rfl) rfl (fun _ => qv_move rfl) ?_
      refine d_takeW 1 rfl (by kernel_rfl) (by kernel_rfl) (by kernel_rfl) rfl (fun _ => qv_move rfl) ?_
      refine d_takeW 2 rfl (by kernel_rfl) (by kernel_rfl) (by kernel_rfl) rfl (fun _ => qv_gtr rfl rfl) ?_
      refine d_takeW 3 rfl (by kernel_rfl) (by kernel_rfl) (by kernel_rfl) rfl (fun _ => qv_move rfl) ?_
      refine d_take_off 4 rfl rfl rfl rfl (by kernel_rfl) (by kernel_rfl) (by kernel_rfl) rfl ?_
      refine d_take_off 5 rfl rfl rfl rfl (by kernel_rfl) (by kernel_rfl) (by kernel_rfl) rfl ?_
      refine d_take_off 6 rfl rfl rfl rfl (by kernel_rfl) (by kernel_rfl) (by kernel_rfl) rfl ?_
      refine d_take_off 7 rfl rfl rfl rfl (by kernel_rfl) (by kernel_rfl) (by kernel_rfl) rfl ?_
      refine d_take_off 8 rfl rfl rfl rfl (by kernel_rfl) (by kernel_rfl) (by kernel_rfl) rfl ?_
      refine d_take_off 9 rfl rfl rfl rfl (by kernel_rfl) (by kernel_rfl) (by kernel_rfl) rfl ?_
      refine d_take_off 10 rfl rfl rfl rfl (by kernel_rfl) (by kernel_rfl) (by kernel_rfl) rfl ?_
      refine d_take_off 11 rfl rfl rfl rfl (by kernel_rfl) (by kernel_rfl) (by kernel_rfl) rfl ?_
      refine d_take_off 12 rfl rfl rfl rfl (by kernel_rfl) (by kernel_rfl) (by kernel_rfl) rfl ?_
      refine d_take_off 13 rfl rfl rfl rfl (by kernel_rfl) (by kernel_rfl) (by kernel_rfl) rfl ?_
      refine d_takeW 14 rfl (by kernel_rfl) (by kernel_rfl) (by kernel_rfl) rfl (fun _ => qv_pick_f rfl rfl) ?_
      refine d_done (by kernel_rfl) ?_
      refine e_seq ?_
      refine c_false rfl ?_
      have hup1 := hup.up0
      refine c_exit ?_
      refine e_exit_then ?_
      refine e_exit_then ?_
      refine e_exit_block ?_
      refine e_normal_block ?_
      refine e_seq ?_
      refine c_region ?_   -- region 2
      refine g_q (qv_move rfl) rfl ?_
      refine g_q (qv_add (c := ((i + 1 : Nat) : Int)) rfl rfl (by rw [wrap_i64 (by omega) (by omega)]; omega)) rfl ?_
      refine g_q (qv_assign rfl) rfl ?_
      refine g_nil ?_
      exact e_again (i + 1) (by omega) (L' := [(0, .slice p l.length c), (1, .int .i64 0), (2, .int .i64 (l.length : Int)), (6, .int .i64 ((i + 1 : Nat) : Int))]) ⟨rfl, rfl, rfl, rfl, trivial⟩ ⟨l1, _, rfl, by omega, by omega, hperm, hup1, hrow1, rfl⟩
    · obtain ⟨j, rfl⟩ : ∃ j', j = j' + 1 := ⟨j - 1, by omega⟩
      obtain ⟨x, hx⟩ : ∃ x, l1[j]? = some x := ⟨_, List.getElem?_eq_getElem (by omega)⟩
      obtain ⟨y, hy⟩ : ∃ x, l1[j + 1]? = some x := ⟨_, List.getElem?_eq_getElem (by omega)⟩
      obtain ⟨g, cap, cs, hv, hm1, hcs⟩ := hrow1.block (by omega)
      cases hv
      subst hm1
      have hcx : cs.toList[0 + j * 1]? = some (str x) := by
        rw [Nat.zero_add, Nat.mul_one, Array.getElem?_toList]
        exact hcs _ _ (by rw [List.getElem?_map, hx]; rfl)
      have hcy : cs.toList[0 + (j + 1) * 1]? = some (str y) := by
        rw [Nat.zero_add, Nat.mul_one, Array.getElem?_toList]
        exact hcs _ _ (by rw [List.getElem?_map, hy]; rfl)
      have hgt : (0 : Int) < ((j + 1 : Nat) : Int) := by omega
      have hsub : IntKind.i64.wrap (((j + 1 : Nat) : Int) - 1) = (j : Int) := by rw [wrap_i64 (by omega) (by omega)]; omega
      refine c_drawM (fun _ => true) Try.mixed ?_
      refine d_takeW 0 rfl (by kernel_rfl) (by kernel_rfl) (by kernel_rfl) rfl (fun _ => qv_move rfl) ?_
      refine d_takeW 1 rfl (by kernel_rfl) (by kernel_rfl) (by kernel_rfl) rfl (fun _ => qv_move rfl) ?_
      refine d_takeW 2 rfl (by kernel_rfl) (by kernel_rfl) (by kernel_rfl) rfl (fun _ => QV.to (qv_gtr rfl rfl) (congrArg Value.bool (decide_eq_true hgt))) ?_
      refine d_takeW 3 rfl (by kernel_rfl) (by kernel_rfl) (by kernel_rfl) rfl (fun _ => qv_move rfl) ?_
      refine d_takeW_on 4 rfl rfl rfl (by kernel_rfl) (by kernel_rfl) (by kernel_rfl) rfl (fun _ => qv_move rfl) ?_
      refine d_takeW_on 5 rfl rfl rfl (by kernel_rfl) (by kernel_rfl) (by kernel_rfl) rfl (fun _ => qv_move rfl) ?_
      refine d_takeW_on 6 rfl rfl rfl (by kernel_rfl) (by kernel_rfl) (by kernel_rfl) rfl (fun _ => qv_index (n := ((j + 1 : Nat) : Int)) rfl rfl Try.runUnderlying27 Try.sizeOf9 (by omega) (by omega)) ?_
      refine d_take_on 7 rfl rfl rfl (by kernel_rfl) (by kernel_rfl) (by kernel_rfl) (by kernel_rfl) rfl (qv_load (v := str y) rfl Try.isAgg9 m0 hcy) (fun _ h => h) ?_
      refine d_takeW_on 8 rfl rfl rfl (by kernel_rfl) (by kernel_rfl) (by kernel_rfl) rfl (fun _ => qv_move rfl) ?_
      refine d_takeW_on 9 rfl rfl rfl (by kernel_rfl) (by kernel_rfl) (by kernel_rfl) rfl (fun _ => qv_move rfl) ?_
      refine d_takeW_on 10 rfl rfl rfl (by kernel_rfl) (by kernel_rfl) (by kernel_rfl) rfl (fun _ => qv_sub (c := (j : Int)) rfl rfl hsub) ?_
      refine d_takeW_on 11 rfl rfl rfl (by kernel_rfl) (by kernel_rfl) (by kernel_rfl) rfl (fun _ => qv_index (n := (j : Int)) rfl rfl Try.runUnderlying27 Try.sizeOf9 (by omega) (by omega)) ?_
      refine d_take_on 12 rfl rfl rfl (by kernel_rfl) (by kernel_rfl) (by kernel_rfl) (by kernel_rfl) rfl (qv_load (v := str x) rfl Try.isAgg9 m0 hcx) (fun _ h => h) ?_
      refine d_run_on 13 rfl rfl rfl (by kernel_rfl) rfl (iv_call (vs := [str y, str x]) Try.call66 ⟨rfl, rfl, trivial⟩ (less_any y x _)) (by rintro _ _ ⟨_, rfl⟩ _ x hx; exact hx) ?_
      rintro _ _ ⟨rfl, rfl⟩
      refine d_takeW 14 rfl (by kernel_rfl) (by kernel_rfl) (by kernel_rfl) rfl (fun _ => qv_pick_t rfl rfl) ?_
      refine d_done (by kernel_rfl) ?_
      refine e_seq ?_
      by_cases hlt : y < x
      · rw [bytesLess_true hlt]
        refine c_true rfl ?_
        refine c_skip ?_
        refine e_seq ?_
        refine c_seq ?_
        refine c_block ?_
        refine c_drawM (fun i => !(i == 15) && !(i == 17)) Try.mixed ?_
        refine d_takeW 0 rfl (by kernel_rfl) (by kernel_rfl) (by kernel_rfl) rfl (fun _ => qv_move rfl) ?_
        refine d_takeW 1 rfl (by kernel_rfl) (by kernel_rfl) (by kernel_rfl) rfl (fun _ => qv_move rfl) ?_
        refine d_takeW 2 rfl (by kernel_rfl) (by kernel_rfl) (by kernel_rfl) rfl (fun _ => qv_move rfl) ?_
        refine d_takeW 3 rfl (by kernel_rfl) (by kernel_rfl) (by kernel_rfl) rfl (fun _ => qv_move rfl) ?_
        refine d_takeW 4 rfl (by kernel_rfl) (by kernel_rfl) (by kernel_rfl) rfl (fun _ => qv_sub (c := (j : Int)) rfl rfl hsub) ?_
        refine d_takeW 5 rfl (by kernel_rfl) (by kernel_rfl) (by kernel_rfl) rfl (fun _ => qv_move rfl) ?_
        refine d_takeW 6 rfl (by kernel_rfl) (by kernel_rfl) (by kernel_rfl) rfl (fun _ => qv_move rfl) ?_
        refine d_takeW 7 rfl (by kernel_rfl) (by kernel_rfl) (by kernel_rfl) rfl (fun _ => qv_sub (c := (j : Int)) rfl rfl hsub) ?_
        refine d_takeW 8 rfl (by kernel_rfl) (by kernel_rfl) (by kernel_rfl) rfl (fun _ => qv_index (n := (j : Int)) rfl rfl Try.runUnderlying27 Try.sizeOf9 (by omega) (by omega)) ?_
        refine d_take 9 rfl (by kernel_rfl) (by kernel_rfl) (by kernel_rfl) (by kernel_rfl) rfl (qv_load (v := str x) rfl Try.isAgg9 m0 hcx) (fun _ h => h) ?_
        refine d_takeW 10 rfl (by kernel_rfl) (by kernel_rfl) (by kernel_rfl) rfl (fun _ => qv_move rfl) ?_
        refine d_takeW 11 rfl (by kernel_rfl) (by kernel_rfl) (by kernel_rfl) rfl (fun _ => qv_move rfl) ?_
        refine d_takeW 12 rfl (by kernel_rfl) (by kernel_rfl) (by kernel_rfl) rfl (fun _ => qv_index (n := ((j + 1 : Nat) : Int)) rfl rfl Try.runUnderlying27 Try.sizeOf9 (by omega) (by omega)) ?_
        refine d_take 13 rfl (by kernel_rfl) (by kernel_rfl) (by kernel_rfl) (by kernel_rfl) rfl (qv_load (v := str y) rfl Try.isAgg9 m0 hcy) (fun _ h => h) ?_
        refine d_takeW 14 rfl (by kernel_rfl) (by kernel_rfl) (by kernel_rfl) rfl (fun _ => qv_index (n := ((j + 1 : Nat) : Int)) rfl rfl Try.runUnderlying27 Try.sizeOf9 (by omega) (by omega)) ?_
        have hsz := (List.getElem?_eq_some_iff.1 hcy).1
        simp only [Array.length_toList] at hsz
        refine d_run0 15 rfl (by kernel_rfl) (iv_store (i := 0) rfl rfl rfl Try.sizeOf9 rfl hsz) (fun _ _ _ h => by cases h) ?_
        rintro _ _ rfl
        refine d_takeW 16 rfl (by kernel_rfl) (by kernel_rfl) (by kernel_rfl) rfl (fun _ => qv_index (n := (j : Int)) rfl rfl Try.runUnderlying27 Try.sizeOf9 (by omega) (by omega)) ?_
        refine d_run0 17 rfl (by kernel_rfl) (iv_store (i := 0) rfl rfl rfl Try.sizeOf9 rfl (by simp only [Array.size_setIfInBounds]; omega)) (fun _ _ _ h => by cases h) ?_
        rintro _ _ rfl
        refine d_done (by kernel_rfl) ?_
        refine e_normal_block ?_
        refine e_seq ?_
        refine c_region ?_   -- region 5
        refine g_q (qv_move rfl) rfl ?_
        refine g_q (qv_sub (c := (j : Int)) rfl rfl hsub) rfl ?_
        refine g_q (qv_assign rfl) rfl ?_
        refine g_nil ?_
        have hsw : ((l1.set (j + 1) x).set j y).Perm l1 := by
          obtain ⟨h1, rfl⟩ := List.getElem?_eq_some_iff.1 hx
          obtain ⟨h2, rfl⟩ := List.getElem?_eq_some_iff.1 hy
          exact swap_two l1 (j + 1) j h2 h1
        exact e_again j (Nat.lt_succ_self j) (L' := [(0, .slice (some ⟨g, 0, none⟩) l.length c), (1, .int .i64 0), (2, .int .i64 (l.length : Int)), (6, .int .i64 (i : Int)), (7, .int .i64 (j : Int))]) ⟨rfl, rfl, rfl, rfl, rfl, trivial⟩ ⟨_, _, rfl, by omega, hsw.trans hperm, hup.swap hji hx hy hlt, by
          rw [List.map_set, List.map_set]
          exact hrow1.setAt.setAt, rfl⟩
      · rw [bytesLess_false hlt]
        refine c_false rfl ?_
        have hup1 := hup.up hx hy (List.not_lt.1 hlt)
        refine c_exit ?_
        refine e_exit_then ?_
        refine e_exit_then ?_
        refine e_exit_block ?_
        refine e_normal_block ?_
        refine e_seq ?_
        refine c_region ?_   -- region 2
        refine g_q (qv_move rfl) rfl ?_
        refine g_q (qv_add (c := ((i + 1 : Nat) : Int)) rfl rfl (by rw [wrap_i64 (by omega) (by omega)]; omega)) rfl ?_
        refine g_q (qv_assign rfl) rfl ?_
        refine g_nil ?_
        exact e_again (i + 1) (by omega) (L' := [(0, .slice (some ⟨g, 0, none⟩) l.length c), (1, .int .i64 0), (2, .int .i64 (l.length : Int)), (6, .int .i64 ((i + 1 : Nat) : Int))]) ⟨rfl, rfl, rfl, rfl, trivial⟩ ⟨l1, _, rfl, by omega, by omega, hperm, hup1, hrow1, rfl⟩
  · -- false
    refine c_exit ?_
    refine e_exit_then ?_
    refine e_exit_then ?_
    refine e_exit_block ?_
    have hie : l.length ≤ i := by
      have := of_decide_eq_false hc
      omega
    exact e_ret0 (.inr rfl) Try.results60 ⟨l1, m1, hperm, fun p q a b h1 h2 => hup p q a b h1 (by omega), hrow1, rfl⟩
theorem pdq_any (l : List Key) (v lim : Value) (m F : Heap) (hrow : Row 9 1 v l.length (l.map str) m) (hl : l.length ≤ 12) : Tri Try.prog W0 52 [v, .int .i64 0, .int .i64 (l.length : Int), lim] (m ++ F) fun _ M' => ∃ l' m', l'.Perm l ∧ Up l' l.length ∧ Row 9 1 v l.length (l'.map str) m' ∧ M' = m' ++ F := by
  refine tri_of 134 Try.func52 rfl Try.ntmps52 (Nat.le_of_ble_eq_true rfl) ?_
  refine c_seq ?_
  refine c_region ?_   -- region 0
  refine g_q (qv_assign rfl) rfl ?_
  refine g_nil ?_
  refine e_seq ?_
  refine c_seq ?_
  refine c_region ?_   -- region 1
  refine g_q (qv_assign rfl) rfl ?_
  refine g_nil ?_
  refine e_seq ?_
  refine c_block ?_
  refine c_rounds 0 ?_
  refine c_block ?_
  refine c_seq ?_
  refine c_region ?_   -- region 2
  refine g_q (qv_move rfl) rfl ?_
  refine g_q (qv_move rfl) rfl ?_
  refine g_q (qv_sub (c := (l.length : Int)) rfl rfl (by rw [wrap_i64 (by omega) (by omega)]; omega)) rfl ?_
  refine g_q (qv_assign rfl) rfl ?_
  refine g_nil ?_
  refine e_seq ?_
  refine c_seq ?_
  refine c_seq ?_
  refine c_region ?_   -- region 3
  refine g_q (qv_move rfl) rfl ?_
  refine g_q (QV.to (qv_leq rfl rfl) (congrArg Value.bool (decide_eq_true (by omega)))) rfl ?_
  refine g_nil ?_
  refine e_seq ?_
  refine c_true rfl ?_   -- t23
  refine c_seq ?_
  refine c_region ?_   -- region 4
  refine g_q (qv_move rfl) rfl ?_
  refine g_q (qv_move rfl) rfl ?_
  refine g_q (qv_move rfl) rfl ?_
  refine g_i (iv_call (vs := [v, .int .i64 0, .int .i64 (l.length : Int)]) Try.call60 ⟨rfl, rfl, rfl, trivial⟩ (insert_any l v m F hrow hl)) rfl ?_
  rintro _ _ ⟨l1, m1, h1, h2, h3, rfl⟩
  refine g_nil ?_
  refine e_seq ?_
  refine c_ret ?_
  refine e_ret_then (e_ret_block (e_ret_then (e_ret_block (?_))))
  exact e_ret0 (.inl rfl) Try.results52 ⟨l1, m1, h1, h2, h3, rfl⟩
theorem sort_any (l : List Key) (v : Value) (m F : Heap) (hrow : Row 9 1 v l.length (l.map str) m) (hl : l.length ≤ 6) : Tri Try.prog W0 42 [v] (m ++ F) fun _ M' => ∃ l' m', l'.Perm l ∧ Up l' l.length ∧ Row 9 1 v l.length (l'.map str) m' ∧ M' = m' ++ F := by
  obtain ⟨p, c, rfl⟩ := hrow.shape
  have hn : (l.length : Int) = 0 ∨ (l.length : Int) = 1 ∨ (l.length : Int) = 2 ∨ (l.length : Int) = 3 ∨ (l.length : Int) = 4 ∨ (l.length : Int) = 5 ∨ (l.length : Int) = 6 := by omega
  refine tri_of 11 Try.func42 rfl Try.ntmps42 (Nat.le_of_ble_eq_true rfl) ?_
  refine c_seq ?_
  refine c_region ?_   -- region 0
  refine g_q (qv_move rfl) rfl ?_
  refine g_q (qv_len_slice rfl Try.runUnderlying27) rfl ?_
  refine g_q (qv_assign rfl) rfl ?_
  refine g_nil ?_
  refine e_seq ?_
  refine c_region ?_   -- region 1
  refine g_q (qv_move rfl) rfl ?_
  refine g_q (qv_move rfl) rfl ?_
  refine g_q (qv_move rfl) rfl ?_
  refine g_q (qv_conv (m := (l.length : Int)) rfl Try.runUnderlying3 Try.runUnderlying82 (by rcases hn with h | h | h | h | h | h | h <;> rw [h] <;> rfl)) rfl ?_
  refine g_i (iv_call (vs := [.int .u64 (l.length : Int)]) Try.call53 ⟨rfl, trivial⟩ (len_any _ hn _)) rfl ?_
  rintro _ _ ⟨⟨k, rfl⟩, rfl⟩
  refine g_i (iv_call (vs := [.slice p l.length c, .int .i64 0, .int .i64 (l.length : Int), .int .i64 k]) Try.call52 ⟨rfl, rfl, rfl, rfl, trivial⟩ (pdq_any l _ _ m F hrow (by omega))) rfl ?_
  rintro _ _ ⟨l1, m1, h1, h2, h3, rfl⟩
  refine g_nil ?_
  exact e_ret0 (.inr rfl) Try.results42 ⟨l1, m1, h1, h2, h3, rfl⟩
theorem Up.sorted {l : List Key} (h : Up l l.length) : l.Pairwise (· ≤ ·) := List.pairwise_iff_getElem.2 fun i j hi hj hij => h i j _ _ hij hj (List.getElem?_eq_getElem hi) (List.getElem?_eq_getElem hj)
/-- What is sorted and has the keys of a sorted list is that list's keys. -/
theorem Up.keys {α : Type} {l : List Key} {es : List (Key × α)} (h : Up l l.length) (hok : KeysOk es) (hp : l.Perm (es.map (·.1))) : l = es.map (·.1) := by
  refine List.Perm.eq_of_pairwise (le := (· ≤ ·)) (fun a b _ _ h1 h2 => List.le_antisymm h1 h2) h.sorted ?_ hp
  exact hok.1.imp (fun h => List.le_of_lt h)

end Go.Proofs.Ytnnclcfklbeocaa

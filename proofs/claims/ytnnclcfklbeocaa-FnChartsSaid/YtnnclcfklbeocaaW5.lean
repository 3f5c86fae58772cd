/-
  The walks, part 5: impl.from and impl.table make a value of the package of data: the same tree.
  Conditions: the data lies as RepD says; the depth stays below the limit.
-/
import Derived.Test.YtnnclcfklbeocaaW4
namespace Go.Proofs.Ytnnclcfklbeocaa
open Go.RowKit

variable {W0 : World}

/-! ### data -/
theorem row_agg {E sz : Nat} {v : Value} {n : Nat} {xs vs : List Value} {m : Heap} (h : Row E sz v n xs m) (hn : 0 < n) (j : Nat) (hvs : ∀ i u, vs[i]? = some u → xs[j * sz + i]? = some u) :
    ∃ g cap cs, v = .slice (some ⟨g, 0, none⟩) n cap ∧ (g, Obj.cells cs E (0, 0)) ∈ m ∧ ∀ i u, vs[i]? = some u → cs[0 + j * sz + i]? = some u := by
  obtain ⟨g, cap, cs, hv, hm, hc⟩ := h.block hn
  refine ⟨g, cap, cs, hv, by rw [hm]; exact List.mem_singleton.2 rfl, fun i u hu => ?_⟩
  rw [Nat.zero_add]
  exact hc _ _ (hvs i u hu)

theorem DKids.at {R : T → Value → Heap → Prop} : ∀ {ts : List (Key × T)} {cs : List Value} {m : Heap}, DKids R ts cs m → ∀ {j : Nat} {p : Key × T}, ts[j]? = some p →
    ∃ c m1, c.size = 7 ∧ R p.2 (.agg c) m1 ∧ (∀ x, x ∈ m1 → x ∈ m) ∧ ∀ i u, c.toList[i]? = some u → cs[j * 7 + i]? = some u
  | [], _, _, _, j, p, hp => by simp at hp
  | (k, t) :: ts, _, _, ⟨c, cs2, m1, m2, h1, h2, h3, h4, h5⟩, j, p, hp => by
    subst h1 h2
    have hl : c.toList.length = 7 := by simpa using h3
    cases j with
    | zero =>
      cases hp
      refine ⟨c, m1, h3, h4, fun x hx => List.mem_append_left _ hx, fun i u hu => ?_⟩
      rw [Nat.zero_mul, Nat.zero_add, List.getElem?_append_left (List.getElem?_eq_some_iff.1 hu).1]
      exact hu
    | succ j =>
      obtain ⟨c', m', h6, h7, h8, h9⟩ := h5.at (j := j) hp
      refine ⟨c', m', h6, h7, fun x hx => List.mem_append_right _ (h8 x hx), fun i u hu => ?_⟩
      rw [List.getElem?_append_right (by omega), show (j + 1) * 7 + i - c.toList.length = j * 7 + i by omega]
      exact h9 i u hu

def DShape (n : Nat) (t : T) (m : Heap) (kk : Int) (x : Bool) (i : Int) (s : Key) (it ks : Value) : Prop :=
  (kk = 0 ∧ t = .null ∧ m = [] ∧ x = false ∧ i = 0 ∧ s = [] ∧ it = nilS ∧ ks = nilS) ∨ (kk = 1 ∧ t = .truth x ∧ m = [] ∧ i = 0 ∧ s = [] ∧ it = nilS ∧ ks = nilS) ∨ (kk = 2 ∧ t = .int i ∧ m = [] ∧ x = false ∧ s = [] ∧ it = nilS ∧ ks = nilS) ∨ (kk = 4 ∧ t = .text s ∧ m = [] ∧ x = false ∧ i = 0 ∧ it = nilS ∧ ks = nilS) ∨
  (kk = 5 ∧ ∃ y, t = .one y ∧ Row 32 7 it 1 (dCells 2 false y [] nilS nilS).toList m ∧ x = false ∧ i = 0 ∧ s = [] ∧ ks = nilS) ∨
  (kk = 6 ∧ ∃ es mi mk cs mc, t = .tab es ∧ KeysOk es ∧ Row 9 1 ks es.length (es.map fun p => str p.1) mk ∧ Row 32 7 it es.length cs mi ∧ DKids (fun t v m => ∃ n', n' < n ∧ RepD n' t v m) es cs mc ∧ m = mi ++ (mk ++ mc) ∧ x = false ∧ i = 0 ∧ s = [])
theorem RepD.shape {n : Nat} {t : T} {v : Value} {m : Heap} (h : RepD n t v m) : ∃ kk x i s p N c p' N' c', v = .agg (dCells kk x i s (.slice p N c) (.slice p' N' c')) ∧ DShape n t m kk x i s (.slice p N c) (.slice p' N' c') := by
  have h' : RepD1 (fun t v m => ∃ n', n' < n ∧ RepD n' t v m) t v m := by
    cases n with
    | zero => exact RepD1.mono (fun _ _ _ hf => hf.elim) h
    | succ n => exact RepD1.mono (fun _ _ _ hf => ⟨n, Nat.lt_succ_self n, hf⟩) h
  cases t with
  | null => exact ⟨0, _, _, _, _, _, _, _, _, _, h'.1, Or.inl ⟨rfl, rfl, h'.2, rfl, rfl, rfl, rfl, rfl⟩⟩
  | truth x => exact ⟨1, _, _, _, _, _, _, _, _, _, h'.1, Or.inr (Or.inl ⟨rfl, rfl, h'.2, rfl, rfl, rfl, rfl⟩)⟩
  | int x => exact ⟨2, _, _, _, _, _, _, _, _, _, h'.1, Or.inr (Or.inr (Or.inl ⟨rfl, rfl, h'.2, rfl, rfl, rfl, rfl⟩))⟩
  | text x => exact ⟨4, _, _, _, _, _, _, _, _, _, h'.1, Or.inr (Or.inr (Or.inr (Or.inl ⟨rfl, rfl, h'.2, rfl, rfl, rfl, rfl⟩)))⟩
  | one x =>
    obtain ⟨it, h1, hr⟩ := h'
    obtain ⟨_, _, rfl⟩ := hr.shape
    exact ⟨5, _, _, _, _, _, _, _, _, _, h1, Or.inr (Or.inr (Or.inr (Or.inr (Or.inl ⟨rfl, x, rfl, hr, rfl, rfl, rfl, rfl⟩))))⟩
  | tab es =>
    obtain ⟨it, ks, mi, mk, cs, mc, h1, hok, hr1, hr2, hd, hm⟩ := h'
    obtain ⟨_, _, rfl⟩ := hr1.shape
    obtain ⟨_, _, rfl⟩ := hr2.shape
    exact ⟨6, _, _, _, _, _, _, _, _, _, h1, Or.inr (Or.inr (Or.inr (Or.inr (Or.inr ⟨rfl, es, mi, mk, cs, mc, rfl, hok, hr1, hr2, hd, hm, rfl, rfl, rfl⟩))))⟩

theorem lookup_none {α : Type} : ∀ {l : List (Key × α)} {k : Key}, k ∉ l.map (·.1) → l.lookup k = none
  | [], _, _ => rfl
  | (k', a) :: l, k, h => by
    rw [List.map_cons, List.mem_cons, not_or] at h
    rw [List.lookup_cons, show (k == k') = false by simpa using h.1]
    exact lookup_none h.2

def wt : T → Nat
  | .one _ => 1
  | .tab _ => 1
  | _ => 0
theorem wt_le (t : T) : wt t ≤ 1 := by cases t <;> simp [wt]

def FromSpec (W0 : World) (n : Nat) (t : T) : Prop := ∀ v md M (depth : Int), RepD n t v md → (∀ x, x ∈ md → x ∈ M) → 0 ≤ depth → depth + n + wt t ≤ 20 → Tri Try.prog W0 38 [v, .int .i64 depth] M fun r M' => ∃ a m', r = .tuple #[a, .bool true] ∧ RepA n t a m' ∧ M' = M ++ m'

set_option maxHeartbeats 4000000 in
theorem from_step (n : Nat) (t : T) (hone : ∀ y, t = .one y → ∀ M (depth : Int), 0 ≤ depth → depth ≤ 20 → Tri Try.prog W0 38 [.agg (dCells 2 false y [] nilS nilS), .int .i64 depth] M fun r M' => r = .tuple #[.iface 2 (.int .i64 y), .bool true] ∧ M' = M)
    (hsub : ∀ es, t = .tab es → ∀ p, p ∈ es → ∀ n', n' < n → FromSpec W0 n' p.2) : FromSpec W0 n t := by
  intro v md M depth hv hmd hd0 hd1
  have hgt : ¬ (20 : Int) < depth := by omega
  obtain ⟨kk, x, i, s, p, N, c, p', N', c', rfl, hsh⟩ := hv.shape
  rcases hsh with ⟨rfl, rfl, rfl, rfl, rfl, rfl, e1, e2⟩ | ⟨rfl, rfl, rfl, rfl, rfl, e1, e2⟩ | ⟨rfl, rfl, rfl, rfl, rfl, e1, e2⟩ | ⟨rfl, rfl, rfl, rfl, rfl, e1, e2⟩ | ⟨rfl, y, rfl, hrow, rfl, rfl, rfl, e2⟩ | ⟨rfl, es, mi, mk, cs, mc, rfl, hok, hrowk, hrowi, hkd, rfl, rfl, rfl, rfl⟩
  · have _ := hgt
    refine tri_of 106 Try.func38 rfl Try.ntmps38 (Nat.le_of_ble_eq_true rfl) ?_
    refine c_seq ?_
    refine c_region ?_   -- region 0
    refine g_i (iv_boxA rfl) rfl ?_
    rintro _ _ ⟨b, rfl, rfl⟩
    refine g_q (qv_assign rfl) rfl ?_
    refine g_q (qv_assign rfl) rfl ?_
    refine g_nil ?_
    refine e_seq ?_
    refine c_seq ?_
    refine c_seq ?_
    refine c_region ?_   -- region 1
    refine g_q (qv_move rfl) rfl ?_
    refine g_q (QV.to (qv_gtr rfl rfl) (congrArg Value.bool (decide_eq_false hgt))) rfl ?_
    refine g_nil ?_
    refine e_seq ?_
    refine c_false rfl ?_   -- t17
    refine c_skip ?_
    refine e_seq ?_
    refine c_seq ?_
    refine c_seq ?_
    refine c_region ?_   -- region 3
    refine g_q (qv_field rfl Try.runUnderlying32 rfl Try.sizeOf3 rfl) rfl ?_
    refine g_q (qv_load rfl Try.isAgg3 m0 rfl) rfl ?_
    refine g_nil ?_
    refine e_seq ?_
    refine c_block ?_
    refine c_seq ?_
    refine c_region ?_   -- region 4
    refine g_q (qv_eqi rfl rfl) rfl ?_
    refine g_q (qv_assign rfl) rfl ?_
    refine g_nil ?_
    refine e_seq ?_
    refine c_true rfl ?_   -- t20
    refine c_seq ?_
    refine c_region ?_   -- region 5
    refine g_q (qv_assign rfl) rfl ?_
    refine g_q (qv_assign rfl) rfl ?_
    refine g_nil ?_
    refine e_seq ?_
    refine c_ret ?_
    refine e_ret_block (e_ret_then (?_))
    exact e_to Fits.tail (e_ret2 (.inl rfl) Try.results38 rfl rfl ⟨_, [], rfl, by cases n <;> exact ⟨rfl, rfl⟩, by simp⟩)
  · have _ := hgt
    refine tri_of 106 Try.func38 rfl Try.ntmps38 (Nat.le_of_ble_eq_true rfl) ?_
    refine c_seq ?_
    refine c_region ?_   -- region 0
    refine g_i (iv_boxA rfl) rfl ?_
    rintro _ _ ⟨b, rfl, rfl⟩
    refine g_q (qv_assign rfl) rfl ?_
    refine g_q (qv_assign rfl) rfl ?_
    refine g_nil ?_
    refine e_seq ?_
    refine c_seq ?_
    refine c_seq ?_
    refine c_region ?_   -- region 1
    refine g_q (qv_move rfl) rfl ?_
    refine g_q (QV.to (qv_gtr rfl rfl) (congrArg Value.bool (decide_eq_false hgt))) rfl ?_
    refine g_nil ?_
    refine e_seq ?_
    refine c_false rfl ?_   -- t17
    refine c_skip ?_
    refine e_seq ?_
    refine c_seq ?_
    refine c_seq ?_
    refine c_region ?_   -- region 3
    refine g_q (qv_field rfl Try.runUnderlying32 rfl Try.sizeOf3 rfl) rfl ?_
    refine g_q (qv_load rfl Try.isAgg3 m0 rfl) rfl ?_
    refine g_nil ?_
    refine e_seq ?_
    refine c_block ?_
    refine c_seq ?_
    refine c_region ?_   -- region 4
    refine g_q (qv_eqi rfl rfl) rfl ?_
    refine g_q (qv_assign rfl) rfl ?_
    refine g_nil ?_
    refine e_seq ?_
    refine c_false rfl ?_   -- t20
    refine c_seq ?_
    refine c_region ?_   -- region 6
    refine g_q (qv_eqi rfl rfl) rfl ?_
    refine g_q (qv_assign rfl) rfl ?_
    refine g_nil ?_
    refine e_seq ?_
    refine c_true rfl ?_   -- t22
    refine c_seq ?_
    refine c_region ?_   -- region 7
    refine g_q (qv_field rfl Try.runUnderlying32 rfl Try.sizeOf4 rfl) rfl ?_
    refine g_q (qv_load (v := .bool x) rfl Try.isAgg4 m0 rfl) rfl ?_
    refine g_q (qv_iface Try.runUnderlying4 (fun _ h => by cases h) rfl) rfl ?_
    refine g_q (qv_assign rfl) rfl ?_
    refine g_q (qv_assign rfl) rfl ?_
    refine g_nil ?_
    refine e_seq ?_
    refine c_ret ?_
    refine e_ret_block (e_ret_then (?_))
    exact e_to Fits.tail (e_ret2 (.inl rfl) Try.results38 rfl rfl ⟨_, [], rfl, by cases n <;> exact ⟨rfl, rfl⟩, by simp⟩)
  · have _ := hgt
    refine tri_of 106 Try.func38 rfl Try.ntmps38 (Nat.le_of_ble_eq_true rfl) ?_
    refine c_seq ?_
    refine c_region ?_   -- region 0
    refine g_i (iv_boxA rfl) rfl ?_
    rintro _ _ ⟨b, rfl, rfl⟩
    refine g_q (qv_assign rfl) rfl ?_
    refine g_q (qv_assign rfl) rfl ?_
    refine g_nil ?_
    refine e_seq ?_
    refine c_seq ?_
    refine c_seq ?_
    refine c_region ?_   -- region 1
    refine g_q (qv_move rfl) rfl ?_
    refine g_q (QV.to (qv_gtr rfl rfl) (congrArg Value.bool (decide_eq_false hgt))) rfl ?_
    refine g_nil ?_
    refine e_seq ?_
    refine c_false rfl ?_   -- t17
    refine c_skip ?_
    refine e_seq ?_
    refine c_seq ?_
    refine c_seq ?_
    refine c_region ?_   -- region 3
    refine g_q (qv_field rfl Try.runUnderlying32 rfl Try.sizeOf3 rfl) rfl ?_
    refine g_q (qv_load rfl Try.isAgg3 m0 rfl) rfl ?_
    refine g_nil ?_
    refine e_seq ?_
    refine c_block ?_
    refine c_seq ?_
    refine c_region ?_   -- region 4
    refine g_q (qv_eqi rfl rfl) rfl ?_
    refine g_q (qv_assign rfl) rfl ?_
    refine g_nil ?_
    refine e_seq ?_
    refine c_false rfl ?_   -- t20
    refine c_seq ?_
    refine c_region ?_   -- region 6
    refine g_q (qv_eqi rfl rfl) rfl ?_
    refine g_q (qv_assign rfl) rfl ?_
    refine g_nil ?_
    refine e_seq ?_
    refine c_false rfl ?_   -- t22
    refine c_seq ?_
    refine c_region ?_   -- region 8
    refine g_q (qv_eqi rfl rfl) rfl ?_
    refine g_q (qv_assign rfl) rfl ?_
    refine g_nil ?_
    refine e_seq ?_
    refine c_true rfl ?_   -- t27
    refine c_seq ?_
    refine c_region ?_   -- region 9
    refine g_q (qv_field rfl Try.runUnderlying32 rfl Try.sizeOf2 rfl) rfl ?_
    refine g_q (qv_load (v := .int .i64 i) rfl Try.isAgg2 m0 rfl) rfl ?_
    refine g_q (qv_iface Try.runUnderlying2 (fun _ h => by cases h) rfl) rfl ?_
    refine g_q (qv_assign rfl) rfl ?_
    refine g_q (qv_assign rfl) rfl ?_
    refine g_nil ?_
    refine e_seq ?_
    refine c_ret ?_
    refine e_ret_block (e_ret_then (?_))
    exact e_to Fits.tail (e_ret2 (.inl rfl) Try.results38 rfl rfl ⟨_, [], rfl, by cases n <;> exact ⟨rfl, rfl⟩, by simp⟩)
  · have _ := hgt
    refine tri_of 106 Try.func38 rfl Try.ntmps38 (Nat.le_of_ble_eq_true rfl) ?_
    refine c_seq ?_
    refine c_region ?_   -- region 0
    refine g_i (iv_boxA rfl) rfl ?_
    rintro _ _ ⟨b, rfl, rfl⟩
    refine g_q (qv_assign rfl) rfl ?_
    refine g_q (qv_assign rfl) rfl ?_
    refine g_nil ?_
    refine e_seq ?_
    refine c_seq ?_
    refine c_seq ?_
    refine c_region ?_   -- region 1
    refine g_q (qv_move rfl) rfl ?_
    refine g_q (QV.to (qv_gtr rfl rfl) (congrArg Value.bool (decide_eq_false hgt))) rfl ?_
    refine g_nil ?_
    refine e_seq ?_
    refine c_false rfl ?_   -- t17
    refine c_skip ?_
    refine e_seq ?_
    refine c_seq ?_
    refine c_seq ?_
    refine c_region ?_   -- region 3
    refine g_q (qv_field rfl Try.runUnderlying32 rfl Try.sizeOf3 rfl) rfl ?_
    refine g_q (qv_load rfl Try.isAgg3 m0 rfl) rfl ?_
    refine g_nil ?_
    refine e_seq ?_
    refine c_block ?_
    refine c_seq ?_
    refine c_region ?_   -- region 4
    refine g_q (qv_eqi rfl rfl) rfl ?_
    refine g_q (qv_assign rfl) rfl ?_
    refine g_nil ?_
    refine e_seq ?_
    refine c_false rfl ?_   -- t20
    refine c_seq ?_
    refine c_region ?_   -- region 6
    refine g_q (qv_eqi rfl rfl) rfl ?_
    refine g_q (qv_assign rfl) rfl ?_
    refine g_nil ?_
    refine e_seq ?_
    refine c_false rfl ?_   -- t22
    refine c_seq ?_
    refine c_region ?_   -- region 8
    refine g_q (qv_eqi rfl rfl) rfl ?_
    refine g_q (qv_assign rfl) rfl ?_
    refine g_nil ?_
    refine e_seq ?_
    refine c_false rfl ?_   -- t27
    refine c_seq ?_
    refine c_region ?_   -- region 10
    refine g_q (qv_eqi rfl rfl) rfl ?_
    refine g_q (qv_assign rfl) rfl ?_
    refine g_nil ?_
    refine e_seq ?_
    refine c_false rfl ?_   -- t32
    refine c_seq ?_
    refine c_region ?_   -- region 12
    refine g_q (qv_eqi rfl rfl) rfl ?_
    refine g_q (qv_assign rfl) rfl ?_
    refine g_nil ?_
    refine e_seq ?_
    refine c_true rfl ?_   -- t38
    refine c_seq ?_
    refine c_region ?_   -- region 13
    refine g_q (qv_field rfl Try.runUnderlying32 rfl Try.sizeOf9 rfl) rfl ?_
    refine g_q (qv_load (v := str s) rfl Try.isAgg9 m0 rfl) rfl ?_
    refine g_q (qv_iface Try.runUnderlying9 (fun _ h => by cases h) rfl) rfl ?_
    refine g_q (qv_assign rfl) rfl ?_
    refine g_q (qv_assign rfl) rfl ?_
    refine g_nil ?_
    refine e_seq ?_
    refine c_ret ?_
    refine e_ret_block (e_ret_then (?_))
    exact e_to Fits.tail (e_ret2 (.inl rfl) Try.results38 rfl rfl ⟨_, [], rfl, by cases n <;> exact ⟨rfl, rfl⟩, by simp⟩)
  · cases e2
    have hw1 : wt (.one y) = 1 := rfl
    rw [hw1] at hd1
    obtain ⟨g, cap, cs, hvs, hg, hcs⟩ := row_agg (vs := (dCells 2 false y [] nilS nilS).toList) hrow (by decide) 0 (fun i u hu => by simpa using hu)
    cases hvs
    have hg' := hmd _ hg
    refine tri_of 106 Try.func38 rfl Try.ntmps38 (Nat.le_of_ble_eq_true rfl) ?_
    refine c_seq ?_
    refine c_region ?_   -- region 0
    refine g_i (iv_boxA rfl) rfl ?_
    rintro _ _ ⟨b, rfl, rfl⟩
    refine g_q (qv_assign rfl) rfl ?_
    refine g_q (qv_assign rfl) rfl ?_
    refine g_nil ?_
    refine e_seq ?_
    refine c_seq ?_
    refine c_seq ?_
    refine c_region ?_   -- region 1
    refine g_q (qv_move rfl) rfl ?_
    refine g_q (QV.to (qv_gtr rfl rfl) (congrArg Value.bool (decide_eq_false hgt))) rfl ?_
    refine g_nil ?_
    refine e_seq ?_
    refine c_false rfl ?_   -- t17
    refine c_skip ?_
    refine e_seq ?_
    refine c_seq ?_
    refine c_seq ?_
    refine c_region ?_   -- region 3
    refine g_q (qv_field rfl Try.runUnderlying32 rfl Try.sizeOf3 rfl) rfl ?_
    refine g_q (qv_load rfl Try.isAgg3 m0 rfl) rfl ?_
    refine g_nil ?_
    refine e_seq ?_
    refine c_block ?_
    refine c_seq ?_
    refine c_region ?_   -- region 4
    refine g_q (qv_eqi rfl rfl) rfl ?_
    refine g_q (qv_assign rfl) rfl ?_
    refine g_nil ?_
    refine e_seq ?_
    refine c_false rfl ?_   -- t20
    refine c_seq ?_
    refine c_region ?_   -- region 6
    refine g_q (qv_eqi rfl rfl) rfl ?_
    refine g_q (qv_assign rfl) rfl ?_
    refine g_nil ?_
    refine e_seq ?_
    refine c_false rfl ?_   -- t22
    refine c_seq ?_
    refine c_region ?_   -- region 8
    refine g_q (qv_eqi rfl rfl) rfl ?_
    refine g_q (qv_assign rfl) rfl ?_
    refine g_nil ?_
    refine e_seq ?_
    refine c_false rfl ?_   -- t27
    refine c_seq ?_
    refine c_region ?_   -- region 10
    refine g_q (qv_eqi rfl rfl) rfl ?_
    refine g_q (qv_assign rfl) rfl ?_
    refine g_nil ?_
    refine e_seq ?_
    refine c_false rfl ?_   -- t32
    refine c_seq ?_
    refine c_region ?_   -- region 12
    refine g_q (qv_eqi rfl rfl) rfl ?_
    refine g_q (qv_assign rfl) rfl ?_
    refine g_nil ?_
    refine e_seq ?_
    refine c_false rfl ?_   -- t38
    refine c_seq ?_
    refine c_region ?_   -- region 14
    refine g_q (qv_eqi rfl rfl) rfl ?_
    refine g_q (qv_assign rfl) rfl ?_
    refine g_nil ?_
    refine e_seq ?_
    refine c_true rfl ?_   -- t43
    refine c_seq ?_
    refine c_region ?_   -- region 15
    refine g_i (iv_buildSlice0 Try.runUnderlying89 Try.sizeOf20) rfl ?_
    rintro _ _ ⟨b0, rfl, rfl⟩
    refine g_q (qv_assign rfl) rfl ?_
    refine g_nil ?_
    refine e_seq ?_
    refine c_seq ?_
    refine c_seq ?_
    refine c_region ?_   -- region 16
    refine g_q (qv_field rfl Try.runUnderlying32 rfl Try.sizeOf30 rfl) rfl ?_
    refine g_q (qv_load (v := .slice (some ⟨g, 0, none⟩) 1 c) rfl Try.isAgg30 m1 rfl) rfl ?_
    refine g_q (qv_len_slice rfl Try.runUnderlying30) rfl ?_
    refine g_q (qv_move rfl) rfl ?_
    refine g_nil ?_
    refine e_seq ?_
    refine c_block ?_
    refine c_keep (L' := [(1, .int .i64 depth), (6, .slice (some ⟨b0, 0, none⟩) 0 0), (47, .slice (some ⟨g, 0, none⟩) 1 c), (48, .int .i64 ((1 : Nat) : Int)), (49, .int .i64 ((0 : Nat) : Int))]) ⟨rfl, rfl, rfl, rfl, rfl, trivial⟩ ?_
    refine c_to (M' := M ++ [(b0, .cells #[] 20 (0, 0))]) (fun f => by simp <;> omega) ?_
    refine c_loop (ι := Nat) (fun j L M' => ∃ sv ms, L = [(1, .int .i64 depth), (6, sv), (47, .slice (some ⟨g, 0, none⟩) 1 c), (48, .int .i64 ((1 : Nat) : Int)), (49, .int .i64 (j : Int))] ∧ j ≤ 1 ∧ Row 20 1 sv j (List.replicate j (.iface 2 (.int .i64 y))) ms ∧ M' = M ++ ms) (fun j => 1 - j) 0 ⟨_, _, rfl, Nat.zero_le _, ⟨rfl, Or.inr ⟨b0, 0, #[], rfl, rfl, Nat.le_refl _, rfl, rfl⟩⟩, rfl⟩ ?_
    rintro j _ _ ⟨sv, ms, rfl, hj, hrows, rfl⟩
    refine c_seq ?_
    refine c_region ?_   -- region 17
    refine g_q (qv_lss rfl rfl) rfl ?_
    refine g_nil ?_
    refine e_seq ?_
    refine c_seq ?_
    refine c_cond rfl (fun hc => ?_) (fun hc => ?_)   -- t50
    · -- true
      refine c_skip ?_
      refine e_seq ?_
      refine c_seq ?_
      refine c_block ?_
      refine c_seq ?_
      refine c_region ?_   -- region 18
      obtain rfl : j = 0 := by
        have := of_decide_eq_true hc
        omega
      refine g_q (qv_index rfl rfl Try.runUnderlying30 Try.sizeOf32 (by omega) (by omega)) rfl ?_
      refine g_q (qv_loadA (vs := (dCells 2 false y [] nilS nilS).toList) rfl Try.isAgg32 Try.sizeOf32 (List.mem_append_left _ hg') hcs) rfl ?_
      refine g_i (iv_allocA Try.zeroValue32) rfl ?_
      rintro _ _ ⟨b8, rfl, rfl⟩
      refine g_i0 (iv_storeA (i := 0) (b := b8) (vs := dCells 2 false y [] nilS nilS) rfl rfl all_dCells Try.sizeOf32 rfl rfl) ?_
      rintro _ _ rfl
      refine g_nil ?_
      refine e_seq ?_
      refine c_seq ?_
      refine c_region ?_   -- region 19
      refine g_q (qv_loadA (vs := (dCells 2 false y [] nilS nilS).toList) rfl Try.isAgg32 Try.sizeOf32 m0 (fun _ _ h => by simpa using h)) rfl ?_
      refine g_q (qv_move rfl) rfl ?_
      refine g_q (qv_add (c := depth + 1) rfl rfl (wrap_i64 (by omega) (by omega))) rfl ?_
      refine g_i (iv_call (vs := [.agg (dCells 2 false y [] nilS nilS), .int .i64 (depth + 1)]) Try.call38 ⟨rfl, rfl, trivial⟩ (hone y rfl _ (depth + 1) (by omega) (by omega))) rfl ?_
      rintro _ _ ⟨rfl, rfl⟩
      refine g_q (qv_move rfl) rfl ?_
      refine g_q (qv_extract rfl rfl) rfl ?_
      refine g_q (qv_extract rfl rfl) rfl ?_
      refine g_q (qv_assign rfl) rfl ?_
      refine g_q (qv_assign rfl) rfl ?_
      refine g_nil ?_
      refine e_seq ?_
      refine c_seq ?_
      refine c_seq ?_
      refine c_region ?_   -- region 20
      refine g_q (qv_move rfl) rfl ?_
      refine g_q (qv_not rfl) rfl ?_
      refine g_nil ?_
      refine e_seq ?_
      refine c_false rfl ?_   -- t61
      refine c_skip ?_
      refine e_seq ?_
      refine c_region ?_   -- region 22
      refine g_q (qv_move rfl) rfl ?_
      refine g_q (qv_move rfl) rfl ?_
      refine g_i (iv_buildSlice (vs := [(0, .iface 2 (.int .i64 y))]) (cs := #[.iface 2 (.int .i64 y)]) Try.runUnderlying89 Try.sizeOf20 Try.zeroValue20 ⟨rfl, rfl, trivial⟩ rfl (by kernel_rfl) rfl) rfl ?_
      rintro _ _ ⟨bs, rfl, rfl⟩
      refine g_to (M' := (bs, .cells #[.iface 2 (.int .i64 y)] 20 (0, 0)) :: (ms ++ M)) (fun f => by simp <;> omega) ?_
      refine g_i (iv_append (pre := []) (m := ms) (F := M) (k := 1) rfl rfl Try.underlying89 info20 rfl rfl rfl hrows rfl (by simp [Value.oneCell']) (by decide) (by decide) (by omega) rfl) rfl ?_
      rintro v1 _ ⟨m1, hrow1, rfl⟩
      refine g_q (qv_assign rfl) rfl ?_
      refine g_nil ?_
      refine e_normal_block ?_
      refine e_seq ?_
      refine c_region ?_   -- region 23
      refine g_q (qv_add (c := ((1 : Nat) : Int)) rfl rfl (by decide)) rfl ?_
      refine g_q (qv_move rfl) rfl ?_
      refine g_nil ?_
      refine e_to (M' := M ++ m1) (fun f => by simp <;> omega) ?_
      exact e_again 1 (by omega) (L' := [(1, .int .i64 depth), (6, v1), (47, .slice (some ⟨g, 0, none⟩) 1 c), (48, .int .i64 ((1 : Nat) : Int)), (49, .int .i64 ((1 : Nat) : Int))]) ⟨rfl, rfl, rfl, rfl, rfl, trivial⟩ ⟨v1, m1, rfl, Nat.le_refl _, hrow1, rfl⟩
    · -- false
      refine c_exit ?_
      refine e_exit_then ?_
      refine e_exit_then ?_
      refine e_exit_block ?_
      refine e_seq ?_
      refine c_seq ?_
      refine c_region ?_   -- region 24
      refine g_q (qv_move rfl) rfl ?_
      refine g_q (qv_iface Try.runUnderlying89 (fun _ h => by cases h) rfl) rfl ?_
      refine g_q (qv_assign rfl) rfl ?_
      refine g_q (qv_assign rfl) rfl ?_
      refine g_nil ?_
      refine e_seq ?_
      refine c_ret ?_
      refine e_ret_block (e_ret_then (?_))
      obtain rfl : j = 1 := by
        have := of_decide_eq_false hc
        omega
      exact e_ret2 (.inl rfl) Try.results38 rfl rfl ⟨_, ms, rfl, by cases n <;> exact ⟨sv, rfl, hrows⟩, rfl⟩
  · have hlen := hok.len
    have hw1 : wt (.tab es) = 1 := rfl
    rw [hw1] at hd1
    obtain ⟨_, _, e⟩ := hrowk.shape
    cases e
    obtain ⟨_, _, e⟩ := hrowi.shape
    cases e
    refine tri_of 106 Try.func38 rfl Try.ntmps38 (Nat.le_of_ble_eq_true rfl) ?_
    refine c_seq ?_
    refine c_region ?_   -- region 0
    refine g_i (iv_boxA rfl) rfl ?_
    rintro _ _ ⟨b, rfl, rfl⟩
    refine g_q (qv_assign rfl) rfl ?_
    refine g_q (qv_assign rfl) rfl ?_
    refine g_nil ?_
    refine e_seq ?_
    refine c_seq ?_
    refine c_seq ?_
    refine c_region ?_   -- region 1
    refine g_q (qv_move rfl) rfl ?_
    refine g_q (QV.to (qv_gtr rfl rfl) (congrArg Value.bool (decide_eq_false hgt))) rfl ?_
    refine g_nil ?_
    refine e_seq ?_
    refine c_false rfl ?_   -- t17
    refine c_skip ?_
    refine e_seq ?_
    refine c_seq ?_
    refine c_seq ?_
    refine c_region ?_   -- region 3
    refine g_q (qv_field rfl Try.runUnderlying32 rfl Try.sizeOf3 rfl) rfl ?_
    refine g_q (qv_load rfl Try.isAgg3 m0 rfl) rfl ?_
    refine g_nil ?_
    refine e_seq ?_
    refine c_block ?_
    refine c_seq ?_
    refine c_region ?_   -- region 4
    refine g_q (qv_eqi rfl rfl) rfl ?_
    refine g_q (qv_assign rfl) rfl ?_
    refine g_nil ?_
    refine e_seq ?_
    refine c_false rfl ?_   -- t20
    refine c_seq ?_
    refine c_region ?_   -- region 6
    refine g_q (qv_eqi rfl rfl) rfl ?_
    refine g_q (qv_assign rfl) rfl ?_
    refine g_nil ?_
    refine e_seq ?_
    refine c_false rfl ?_   -- t22
    refine c_seq ?_
    refine c_region ?_   -- region 8
    refine g_q (qv_eqi rfl rfl) rfl ?_
    refine g_q (qv_assign rfl) rfl ?_
    refine g_nil ?_
    refine e_seq ?_
    refine c_false rfl ?_   -- t27
    refine c_seq ?_
    refine c_region ?_   -- region 10
    refine g_q (qv_eqi rfl rfl) rfl ?_
    refine g_q (qv_assign rfl) rfl ?_
    refine g_nil ?_
    refine e_seq ?_
    refine c_false rfl ?_   -- t32
    refine c_seq ?_
    refine c_region ?_   -- region 12
    refine g_q (qv_eqi rfl rfl) rfl ?_
    refine g_q (qv_assign rfl) rfl ?_
    refine g_nil ?_
    refine e_seq ?_
    refine c_false rfl ?_   -- t38
    refine c_seq ?_
    refine c_region ?_   -- region 14
    refine g_q (qv_eqi rfl rfl) rfl ?_
    refine g_q (qv_assign rfl) rfl ?_
    refine g_nil ?_
    refine e_seq ?_
    refine c_false rfl ?_   -- t43
    refine c_seq ?_
    refine c_region ?_   -- region 25
    refine g_q (qv_eqi rfl rfl) rfl ?_
    refine g_q (qv_assign rfl) rfl ?_
    refine g_nil ?_
    refine e_seq ?_
    refine c_true rfl ?_   -- t69
    refine c_seq ?_
    refine c_seq ?_
    refine c_region ?_   -- region 26
    refine g_q (qv_field rfl Try.runUnderlying32 rfl Try.sizeOf27 rfl) rfl ?_
    refine g_q (qv_load (v := .slice p' es.length c') rfl Try.isAgg27 m0 rfl) rfl ?_
    refine g_q (qv_len_slice rfl Try.runUnderlying27) rfl ?_
    refine g_q (qv_field rfl Try.runUnderlying32 rfl Try.sizeOf30 rfl) rfl ?_
    refine g_q (qv_load (v := .slice p es.length c) rfl Try.isAgg30 m0 rfl) rfl ?_
    refine g_q (qv_len_slice rfl Try.runUnderlying30) rfl ?_
    refine g_q (QV.to (v' := .bool false) (qv_nei rfl rfl) (by rw [decide_eq_true rfl]; rfl)) rfl ?_
    refine g_nil ?_
    refine e_seq ?_
    refine c_false rfl ?_   -- t77
    refine c_skip ?_
    refine e_seq ?_
    refine c_seq ?_
    refine c_region ?_   -- region 28
    refine g_i iv_makeKV rfl ?_
    rintro _ _ ⟨ro, rfl, rfl⟩
    refine g_q (qv_assign rfl) rfl ?_
    refine g_nil ?_
    refine e_seq ?_
    refine c_seq ?_
    refine c_seq ?_
    refine c_region ?_   -- region 29
    refine g_q (qv_field rfl Try.runUnderlying32 rfl Try.sizeOf27 rfl) rfl ?_
    refine g_q (qv_load (v := .slice p' es.length c') rfl Try.isAgg27 m1 rfl) rfl ?_
    refine g_q (qv_len_slice rfl Try.runUnderlying27) rfl ?_
    refine g_q (qv_move rfl) rfl ?_
    refine g_nil ?_
    refine e_seq ?_
    refine c_block ?_
    refine c_keep (L' := [(1, .int .i64 depth), (2, ptr b), (11, .map (some ro)), (80, .slice p' es.length c'), (81, .int .i64 (es.length : Int)), (82, .int .i64 ((0 : Nat) : Int))]) ⟨rfl, rfl, rfl, rfl, rfl, rfl, trivial⟩ ?_
    refine c_to (M' := (ro, KV.empty.obj) :: (b, .cells (dCells 6 false 0 [] (.slice p es.length c) (.slice p' es.length c')) 32 (0, 0)) :: (M ++ [])) (by rw [List.append_nil]; exact Fits.refl _) ?_
    refine c_loop (ι := Nat) (fun j L M' => L = [(1, .int .i64 depth), (2, ptr b), (11, .map (some ro)), (80, .slice p' es.length c'), (81, .int .i64 (es.length : Int)), (82, .int .i64 (j : Int))] ∧ j ≤ es.length ∧ ∃ (kv : KV) (mo : Heap), Kids (fun t v m => ∃ n', n' < n ∧ RepA n' t v m) (es.take j) kv.list mo ∧ M' = (ro, kv.obj) :: (b, .cells (dCells 6 false 0 [] (.slice p es.length c) (.slice p' es.length c')) 32 (0, 0)) :: (M ++ mo)) (fun j => es.length - j) 0 ⟨rfl, Nat.zero_le _, KV.empty, [], rfl, rfl⟩ ?_
    rintro j _ _ ⟨rfl, hj, kv, mo, hkids, rfl⟩
    refine c_seq ?_
    refine c_region ?_   -- region 30
    refine g_q (qv_lss rfl rfl) rfl ?_
    refine g_nil ?_
    refine e_seq ?_
    refine c_seq ?_
    refine c_cond rfl (fun hc => ?_) (fun hc => ?_)   -- t83
    · -- true
      refine c_skip ?_
      refine e_seq ?_
      refine c_seq ?_
      refine c_block ?_
      refine c_seq ?_
      refine c_region ?_   -- region 31
      have hjl : j < es.length := by
        have := of_decide_eq_true hc
        omega
      obtain ⟨pk, hpk⟩ : ∃ q, es[j]? = some q := ⟨_, List.getElem?_eq_getElem hjl⟩
      have hpm := List.mem_of_getElem? hpk
      have htake : es.take (j + 1) = es.take j ++ [pk] := by rw [List.take_add_one, hpk]; rfl
      have hfresh : pk.1 ∉ kv.list.map (·.1) := by
        rw [← hkids.keys]
        have h1 := hok.nodup
        rw [← List.take_append_drop (j + 1) es, htake, List.map_append, List.map_append] at h1
        have h2 := (List.nodup_append.1 (List.nodup_append.1 h1).1).2.2
        exact fun hin => h2 _ hin pk.1 (by simp) rfl
      obtain ⟨c7, m7, hc7, ⟨n', hn', hrep⟩, hm7, hcells⟩ := hkd.at hpk
      obtain ⟨kd, xd, id, sd, pd1, nd1, cd1, pd2, nd2, cd2, e7⟩ := hrep.agg
      cases e7
      obtain ⟨gk, _, csk, ek, hgk, hcsk⟩ := row_at hrowk (k := j) (u := str pk.1) (by rw [List.getElem?_map, hpk]; rfl)
      cases ek
      obtain ⟨gi, _, csi, ei, hgi, hcsi⟩ := row_agg hrowi (by omega) j hcells
      cases ei
      have hgk' := hmd _ (List.mem_append_right _ (List.mem_append_left _ hgk))
      have hgi' := hmd _ (List.mem_append_left _ hgi)
      refine g_q (qv_move rfl) rfl ?_
      refine g_q (qv_index rfl rfl Try.runUnderlying27 Try.sizeOf9 (by omega) (by omega)) rfl ?_
      refine g_q (qv_load (v := str pk.1) rfl Try.isAgg9 (.tail _ (.tail _ (List.mem_append_left _ hgk'))) (by simpa using hcsk)) rfl ?_
      refine g_q (qv_assign rfl) rfl ?_
      refine g_q (qv_assign rfl) rfl ?_
      refine g_nil ?_
      refine e_seq ?_
      refine c_seq ?_
      refine c_region ?_   -- region 32
      refine g_q (qv_field rfl Try.runUnderlying32 rfl Try.sizeOf30 rfl) rfl ?_
      refine g_q (qv_load (v := .slice (some ⟨gi, 0, none⟩) es.length c) rfl Try.isAgg30 m1 rfl) rfl ?_
      refine g_q (qv_move rfl) rfl ?_
      refine g_q (qv_index rfl rfl Try.runUnderlying30 Try.sizeOf32 (by omega) (by omega)) rfl ?_
      refine g_q (qv_loadA (vs := (dCells kd xd id sd (.slice pd1 nd1 cd1) (.slice pd2 nd2 cd2)).toList) rfl Try.isAgg32 Try.sizeOf32 (.tail _ (.tail _ (List.mem_append_left _ hgi'))) hcsi) rfl ?_
      refine g_q (qv_move rfl) rfl ?_
      refine g_q (qv_add (c := depth + 1) rfl rfl (wrap_i64 (by omega) (by omega))) rfl ?_
      refine g_i (iv_call (vs := [.agg (dCells kd xd id sd (.slice pd1 nd1 cd1) (.slice pd2 nd2 cd2)), .int .i64 (depth + 1)]) Try.call38 ⟨rfl, rfl, trivial⟩ (hsub es rfl pk hpm n' hn' _ _ _ (depth + 1) hrep (fun x hx => .tail _ (.tail _ (List.mem_append_left _ (hmd _ (List.mem_append_right _ (List.mem_append_right _ (hm7 x hx))))))) (by omega) (by have := wt_le pk.2; omega))) rfl ?_
      rintro _ _ ⟨a, ma, rfl, hra, rfl⟩
      refine g_q (qv_move rfl) rfl ?_
      refine g_q (qv_extract rfl rfl) rfl ?_
      refine g_q (qv_extract rfl rfl) rfl ?_
      refine g_q (qv_assign rfl) rfl ?_
      refine g_q (qv_assign rfl) rfl ?_
      refine g_nil ?_
      refine e_seq ?_
      refine c_seq ?_
      refine c_seq ?_
      refine c_region ?_   -- region 33
      refine g_q (qv_move rfl) rfl ?_
      refine g_q (qv_not rfl) rfl ?_
      refine g_nil ?_
      refine e_seq ?_
      refine c_false rfl ?_   -- t99
      refine c_skip ?_
      refine e_seq ?_
      refine c_region ?_   -- region 35
      refine g_q (qv_move rfl) rfl ?_
      refine g_q (qv_move rfl) rfl ?_
      refine g_q (qv_move rfl) rfl ?_
      refine g_i0 (iv_put (i := 0) rfl rfl rfl Try.runUnderlying63 Try.runUnderlying9 rfl) ?_
      rintro _ _ rfl
      refine g_nil ?_
      refine e_normal_block ?_
      refine e_seq ?_
      refine c_region ?_   -- region 36
      refine g_q (qv_add (c := ((j + 1 : Nat) : Int)) rfl rfl (by rw [wrap_i64 (by omega) (by omega)]; omega)) rfl ?_
      refine g_q (qv_move rfl) rfl ?_
      refine g_nil ?_
      refine e_to (M' := (ro, (kv.put pk.1 a).obj) :: (b, .cells (dCells 6 false 0 [] (.slice (some ⟨gi, 0, none⟩) es.length c) (.slice (some ⟨gk, 0, none⟩) es.length c')) 32 (0, 0)) :: (M ++ (mo ++ ma))) (fun f => by simp) ?_
      exact e_again (j + 1) (by omega) (L' := [(1, .int .i64 depth), (2, ptr b), (11, .map (some ro)), (80, .slice (some ⟨gk, 0, none⟩) es.length c'), (81, .int .i64 (es.length : Int)), (82, .int .i64 ((j + 1 : Nat) : Int))]) ⟨rfl, rfl, rfl, rfl, rfl, rfl, trivial⟩ ⟨rfl, hjl, kv.put pk.1 a, mo ++ ma, by
        rw [htake, KV.list_put, putL, lookup_none hfresh]
        exact Kids.append hkids (Kids.single ⟨n', hn', hra⟩), rfl⟩
    · -- false
      refine c_exit ?_
      refine e_exit_then ?_
      refine e_exit_then ?_
      refine e_exit_block ?_
      refine e_seq ?_
      refine c_seq ?_
      refine c_region ?_   -- region 37
      refine g_q (qv_move rfl) rfl ?_
      refine g_q (qv_iface Try.runUnderlying63 (fun _ h => by cases h) rfl) rfl ?_
      refine g_q (qv_assign rfl) rfl ?_
      refine g_q (qv_assign rfl) rfl ?_
      refine g_nil ?_
      refine e_seq ?_
      refine c_ret ?_
      refine e_ret_block (e_ret_then (?_))
      obtain rfl : j = es.length := by
        have := of_decide_eq_false hc
        omega
      rw [List.take_length] at hkids
      refine e_to (M' := M ++ ((ro, kv.obj) :: mo)) (fun f => by simp <;> omega) (e_ret2 (.inl rfl) Try.results38 rfl rfl ⟨_, (ro, kv.obj) :: mo, rfl, ?_, rfl⟩)
      have hfin : RepA1 (fun t v m => ∃ n', n' < n ∧ RepA n' t v m) (.tab es) (.iface 63 (.map (some ro))) ((ro, kv.obj) :: mo) := ⟨ro, kv, es, mo, rfl, hok, List.Perm.refl _, hkids, rfl⟩
      cases n with
      | zero => exact RepA1.mono (fun _ _ _ ⟨_, h, _⟩ => absurd h (Nat.not_lt_zero _)) hfin
      | succ n => exact RepA1.mono (fun _ _ _ ⟨_, h, h'⟩ => h'.le (Nat.le_of_lt_succ h)) hfin
theorem from_int (y : Int) (M : Heap) (depth : Int) (h0 : 0 ≤ depth) (h1 : depth ≤ 20) : Tri Try.prog W0 38 [.agg (dCells 2 false y [] nilS nilS), .int .i64 depth] M fun r M' => r = .tuple #[.iface 2 (.int .i64 y), .bool true] ∧ M' = M := by
  have h := from_step (W0 := W0) 0 (.int y) (fun _ e => by cases e) (fun _ e => by cases e) (.agg (dCells 2 false y [] nilS nilS)) [] M depth ⟨rfl, rfl⟩ (fun _ hx => by cases hx) h0 (by simpa [wt] using h1)
  refine h.mono ?_
  rintro _ _ ⟨a, m', rfl, ⟨rfl, rfl⟩, rfl⟩
  exact ⟨rfl, by simp⟩
theorem from_any (n : Nat) : ∀ t, FromSpec W0 n t := by
  induction n using Nat.strongRecOn with
  | ind n ih => exact fun t => from_step n t (fun y _ M depth h0 h1 => from_int y M depth h0 h1) (fun _ _ p _ n' hn' => ih n' hn' p.2)

theorem table_any (n : Nat) (hn : n ≤ 19) (es : List (Key × T)) (v : Value) (md M : Heap) (hv : RepD n (.tab es) v md) (hmd : ∀ x, x ∈ md → x ∈ M) : Tri Try.prog W0 26 [v] M fun r M' => ∃ rm m', r = .tuple #[.map (some rm), .bool true] ∧ RepA n (.tab es) (.iface 63 (.map (some rm))) m' ∧ M' = M ++ m' := by
  obtain ⟨kk, x, i, s, p1, n1, c1, p2, n2, c2, rfl⟩ := hv.agg
  refine tri_of 23 Try.func26 rfl Try.ntmps26 (Nat.le_of_ble_eq_true rfl) ?_
  refine c_seq ?_
  refine c_region ?_   -- region 0
  refine g_i (iv_boxA rfl) rfl ?_
  rintro _ _ ⟨b, rfl, rfl⟩
  refine g_q (qv_assign rfl) rfl ?_
  refine g_q (qv_assign rfl) rfl ?_
  refine g_nil ?_
  refine e_seq ?_
  refine c_seq ?_
  refine c_region ?_   -- region 1
  refine g_q (qv_loadA (vs := (dCells kk x i s (.slice p1 n1 c1) (.slice p2 n2 c2)).toList) rfl Try.isAgg32 Try.sizeOf32 m0 (fun _ _ h => by simpa using h)) rfl ?_
  refine g_i (iv_call (vs := [.agg (dCells kk x i s (.slice p1 n1 c1) (.slice p2 n2 c2)), .int .i64 0]) Try.call38 ⟨rfl, rfl, trivial⟩ (from_any n (.tab es) _ md _ 0 hv (fun x hx => .tail _ (hmd x hx)) (by decide) (by simp only [wt]; omega))) rfl ?_
  rintro _ _ ⟨a, ma, rfl, hra, rfl⟩
  obtain ⟨rm, rfl⟩ : ∃ rm, a = .iface 63 (.map (some rm)) := by
    cases n <;> obtain ⟨rm, _, _, _, h, _⟩ := hra <;> exact ⟨rm, h⟩
  refine g_q (qv_move rfl) rfl ?_
  refine g_q (qv_extract rfl rfl) rfl ?_
  refine g_q (qv_extract rfl rfl) rfl ?_
  refine g_q (qv_assign rfl) rfl ?_
  refine g_q (qv_assign rfl) rfl ?_
  refine g_nil ?_
  refine e_seq ?_
  refine c_seq ?_
  refine c_region ?_   -- region 2
  refine g_q (qv_move rfl) rfl ?_
  refine g_q (qv_is rfl Try.runUnderlying63 (fun _ h => by cases h)) rfl ?_
  refine g_q (qv_move rfl) rfl ?_
  refine g_q (qv_extract rfl rfl) rfl ?_
  refine g_q (qv_extract rfl rfl) rfl ?_
  refine g_q (qv_assign rfl) rfl ?_
  refine g_q (qv_assign rfl) rfl ?_
  refine g_nil ?_
  refine e_seq ?_
  refine c_seq ?_
  refine c_region ?_   -- region 3
  refine g_q (qv_move rfl) rfl ?_
  refine g_q (qv_move rfl) rfl ?_
  refine g_q (qv_move rfl) rfl ?_
  -- GUARD ['2', 'Bool.true']: refine g_on rfl rfl ?_ | g_off rfl rfl rfl rfl ?_
  refine g_on rfl rfl ?_
  refine g_q (qv_move rfl) rfl ?_
  refine g_q (qv_pick_t rfl rfl) rfl ?_
  refine g_q (qv_assign rfl) rfl ?_
  refine g_q (qv_assign rfl) rfl ?_
  refine g_nil ?_
  refine e_seq ?_
  refine c_ret ?_
  refine ?_
  exact e_to (M' := M ++ ma) (fun f => by simp) (e_ret2 (.inl rfl) Try.results26 rfl rfl ⟨rm, ma, rfl, hra, rfl⟩)
end Go.Proofs.Ytnnclcfklbeocaa

/-
  The engine, part 4: slices of the call's own that grow by append.
  No condition: general lemmas.
-/
import Derived.Test.YtnnclcfklbeocaaE3
namespace Go.Proofs.Ytnnclcfklbeocaa
open Go.RowKit

/-- A slice of n elements (sz cells each) whose cells are xs, and the memory that it owns. -/
def Row (E sz : Nat) (v : Value) (n : Nat) (xs : List Value) (m : Heap) : Prop :=
  xs.length = n * sz ∧ ((v = .slice none 0 0 ∧ n = 0 ∧ m = []) ∨
    ∃ g cap cs, v = .slice (some ⟨g, 0, none⟩) n cap ∧ m = [(g, .cells cs E (0, 0))] ∧ n ≤ cap ∧ cs.size = cap * sz ∧ cs.toList.take (n * sz) = xs)

theorem Row.nil (E sz : Nat) : Row E sz (.slice none 0 0) 0 [] [] := ⟨by simp, Or.inl ⟨rfl, rfl, rfl⟩⟩

theorem Row.shape {E sz : Nat} {v : Value} {n : Nat} {xs : List Value} {m : Heap} (h : Row E sz v n xs m) : ∃ p c, v = .slice p n c := by
  rcases h.2 with ⟨rfl, rfl, _⟩ | ⟨g, cap, cs, rfl, _⟩
  · exact ⟨_, _, rfl⟩
  · exact ⟨_, _, rfl⟩

/-- A slice that is not empty: its block. -/
theorem Row.block {E sz : Nat} {v : Value} {n : Nat} {xs : List Value} {m : Heap} (h : Row E sz v n xs m) (hn : 0 < n) : ∃ g cap cs, v = .slice (some ⟨g, 0, none⟩) n cap ∧ m = [(g, .cells cs E (0, 0))] ∧ ∀ (j : Nat) (u : Value), xs[j]? = some u → cs[j]? = some u := by
  rcases h.2 with ⟨_, h0, _⟩ | ⟨g, cap, cs, hv, hm, _, _, ht⟩
  · omega
  · refine ⟨g, cap, cs, hv, hm, fun j u hj => ?_⟩
    rw [← ht, List.getElem?_take] at hj
    split at hj
    · simpa using hj
    · cases hj

section
variable {P : Program} {W0 : World} {L : Slots} {M : Heap}

theorem own_swap {w : World} {pre F : Heap} {x y : Nat × Obj} (h : Own W0 (y :: (pre ++ x :: F)) w) : Own W0 (pre ++ y :: F) w := by
  have h1 : (pre ++ y :: F).Sublist (pre ++ y :: x :: F) := List.Sublist.append_left (List.Sublist.cons_cons _ (List.sublist_cons_self _ _)) _
  have h2 : (y :: (pre ++ x :: F)).Perm (pre ++ y :: x :: F) := List.perm_middle.symm
  exact (h.perm h2).sublist h1

theorem iv_append {T E : TypeId} {i : TypeInfo} {z : Value} {x s : Operand} {v : Value} {sz n k c h : Nat} {xs : List Value} {ns : Array Value} {m pre F : Heap} (hs : opv L s = some v) (hx : opv L x = some (.slice (some ⟨h, 0, none⟩) k c)) (ht : P.underlying T = some (.slice E)) (hi : P.info? E = some i) (hz : i.zero = some z) (hsz : i.size = sz) (hzs : z.cells.size = sz)
    (hrow : Row E sz v n xs m) (hk : ns.size = k * sz) (h1 : ns.all (·.oneCell') = true) (hk0 : 0 < k) (hb : i.bytes ≤ 1000) (hn : n + k ≤ 1000000) (hM : M = (h, .cells ns E (0, 0)) :: (pre ++ (m ++ F))) :
    IV P W0 L M (.call { callee := .builtin .append, args := #[s, x], argTypes := #[T, T] }) (fun v' M' => ∃ m', Row E sz v' (n + k) (xs ++ ns.toList) m' ∧ M' = pre ++ (m' ++ F)) := by
  intro a w o Q K ha hO hop hK
  have hs' := ha _ _ hs
  have hx' := ha _ _ hx
  have h1' : ∀ u ∈ ns.toList, u.oneCell' = true := fun u hu => Array.all_eq_true_iff_forall_mem.1 h1 u (by simpa using hu)
  have hsrc : w.heap[h]? = some (.cells ns E (0, 0)) := hO.has h _ (by rw [hM]; exact List.mem_cons_self)
  have hnews : ∀ j u, ns.toList[j]? = some u → w.cell? ((⟨h, 0, none⟩ : Addr).add j) = some u := fun j u hj => by
    rw [addr_add, cell_of_row w h _ ns E (0, 0) hsrc]
    simpa using hj
  have hl : ns.toList.length = k * i.size := by rw [hsz, Array.length_toList, hk]
  have hbyte : (n + k) * i.bytes ≤ 140737488355328 := by
    have := Nat.mul_le_mul hn hb
    omega
  have hgo : ∀ v' w', (Builtin.append_ #[T, T] o.type #[v, .slice (some ⟨h, 0, none⟩) k c]).run P w = .ok v' w' → (∃ m', Row E sz v' (n + k) (xs ++ ns.toList) m' ∧ Own W0 (pre ++ (m' ++ F)) w') → o.wp P a w K Q := by
    rintro v' w' hrun ⟨m', hr, ho⟩
    unfold Oper.wp
    have : (execOp a.eval o).run P w = .ok (.value v') w' := by
      simp [execOp, hop, resolve, invoke, builtin, hs', hx', hrun]
    rw [this]
    exact hK _ _ _ ⟨m', hr, rfl⟩ ho
  have hOt : Own W0 (pre ++ (m ++ F)) w := (hM ▸ hO).sublist (List.sublist_cons_self _ _)
  have hlen : (xs ++ ns.toList).length = (n + k) * sz := by rw [List.length_append, hrow.1, hl, hsz, Nat.add_mul]
  -- behind a new block
  have grown : ∀ old : Nat, (m = [] ∨ ∃ y, m = [y]) → ∃ m', Row E sz (.slice (some ⟨w.heap.size, 0, none⟩) (n + k) (grownCap w (n + k) old E)) (n + k) (xs ++ ns.toList) m' ∧
      Own W0 (pre ++ (m' ++ F)) (w.drew.alloc (.cells (xs.toArray ++ ns ++ Builtin.zeroCells z.cells (grownCap w (n + k) old E - (n + k))) E)) := by
    intro old hm
    have hge := grownCap_ge w (n + k) old E
    refine ⟨[(w.heap.size, .cells (xs.toArray ++ ns ++ Builtin.zeroCells z.cells (grownCap w (n + k) old E - (n + k))) E)], ⟨hlen, Or.inr ⟨_, _, _, rfl, rfl, hge, ?_, ?_⟩⟩, ?_⟩
    · simp only [Array.size_append, List.size_toArray, size_zeroCells, hzs, hrow.1, hk, ← Nat.add_mul]
      congr 1
      omega
    · simp only [Array.toList_append, List.append_assoc]
      rw [← List.append_assoc, ← hlen]
      exact List.take_left
    · have hnew := hOt.drew.new (.cells (xs.toArray ++ ns ++ Builtin.zeroCells z.cells (grownCap w (n + k) old E - (n + k))) E)
      rcases hm with rfl | ⟨y, rfl⟩
      · exact hnew.perm List.perm_middle.symm
      · exact own_swap hnew
  rcases hrow.2 with ⟨rfl, rfl, rfl⟩ | ⟨g, cap, cs, rfl, rfl, hle, hcs, htake⟩
  · have hxs : xs = [] := List.eq_nil_of_length_eq_zero (by simpa using hrow.1)
    subst hxs
    have hr := run_append_nil (P := P) w T o.type E i z ht hi hz ⟨h, 0, none⟩ k c ns.toList hl hnews hk0 (by omega) (by simpa using Nat.le_trans hbyte (by omega))
    have hgr := grown 0 (Or.inl rfl)
    simp only [Nat.zero_add, List.nil_append, Array.toArray_toList, Array.empty_append] at hr hgr ⊢
    exact hgo _ _ hr (by simpa using hgr)
  · by_cases hroom : n + k ≤ cap
    · have hg : w.heap[g]? = some (.cells cs E (0, 0)) := hOt.has g _ (by simp)
      have hfit : n * i.size + ns.toList.length ≤ cs.size := by rw [hl, hcs, hsz, ← Nat.add_mul]; exact Nat.mul_le_mul_right _ hroom
      have hr := run_append_room (P := P) w T o.type E i ht hi g n cap cs hg ⟨h, 0, none⟩ k c ns.toList hl hnews h1' hroom hfit
      refine hgo _ _ hr ⟨[(g, .cells (cs.toList.take (n * i.size) ++ ns.toList ++ cs.toList.drop (n * i.size + ns.toList.length)).toArray E (0, 0))], ⟨hlen, Or.inr ⟨_, _, _, rfl, rfl, hroom, ?_, ?_⟩⟩, ?_⟩
      · simp only [List.size_toArray, List.length_append, List.length_take, List.length_drop, Array.length_toList] at hfit ⊢
        omega
      · rw [hsz, htake, ← hlen]
        exact List.take_left
      · have hidx : (pre ++ ([(g, Obj.cells cs E (0, 0))] ++ F))[pre.length]? = some (g, .cells cs E (0, 0)) := by simp
        have hu := hOt.upd hidx (Upd.setRow (cs' := (cs.toList.take (n * i.size) ++ ns.toList ++ cs.toList.drop (n * i.size + ns.toList.length)).toArray) hg)
        simpa using hu
    · have holds : ∀ j u, xs[j]? = some u → w.cell? ((⟨g, 0, none⟩ : Addr).add j) = some u := fun j u hj => by
        have hg : w.heap[g]? = some (.cells cs E (0, 0)) := hOt.has g _ (by simp)
        rw [addr_add, cell_of_row w g _ cs E (0, 0) hg]
        rw [← htake, List.getElem?_take] at hj
        split at hj
        · simpa using hj
        · cases hj
      have hr := run_append_grow (P := P) w T o.type E i z ht hi hz ⟨g, 0, none⟩ n cap xs (by rw [hsz]; exact hrow.1) holds ⟨h, 0, none⟩ k c ns.toList hl hnews (by omega) (by omega) (growslice_fits (by omega) hbyte)
      have hgr := grown cap (Or.inr ⟨_, rfl⟩)
      simp only [Array.toArray_toList] at hr
      exact hgo _ _ hr hgr
end

end Go.Proofs.Ytnnclcfklbeocaa

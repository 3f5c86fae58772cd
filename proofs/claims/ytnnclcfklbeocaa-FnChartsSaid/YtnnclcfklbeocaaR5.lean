/-
  How charts lie in memory: as chart.Chart ('RepH', the package's), as impl.Chart ('RepI'), as spec.Chart ('RepP').
  No condition: definitions and lemmas.
-/
import Derived.Test.YtnnclcfklbeocaaR4
namespace Go.Proofs.Ytnnclcfklbeocaa
open Go.RowKit

/-- Charts whose cells lie one behind the other, 'w' cells each. -/
def CKids (w : Nat) (R : Ch → Array Value → Heap → Prop) : List Ch → List Value → Heap → Prop
  | [], cs, m => cs = [] ∧ m = []
  | d :: ds, cs, m => ∃ c cs2 m1 m2, cs = c.toList ++ cs2 ∧ m = m1 ++ m2 ∧ c.size = w ∧ R d c m1 ∧ CKids w R ds cs2 m2
theorem CKids.mono {w : Nat} {R R' : Ch → Array Value → Heap → Prop} (hR : ∀ d a m, R d a m → R' d a m) : ∀ {ds : List Ch} {cs : List Value} {m : Heap}, CKids w R ds cs m → CKids w R' ds cs m
  | [], _, _, h => h
  | _ :: _, _, _, ⟨c, cs2, m1, m2, h1, h2, h3, h4, h5⟩ => ⟨c, cs2, m1, m2, h1, h2, h3, hR _ _ _ h4, h5.mono hR⟩
theorem CKids.snoc {w : Nat} {R : Ch → Array Value → Heap → Prop} {d : Ch} {c : Array Value} {m1 : Heap} (hc : c.size = w) (h1 : R d c m1) : ∀ {ds : List Ch} {cs : List Value} {m : Heap}, CKids w R ds cs m → CKids w R (ds ++ [d]) (cs ++ c.toList) (m ++ m1)
  | [], _, _, ⟨h2, h3⟩ => by
    subst h2 h3
    exact ⟨c, [], m1, [], by simp, by simp, hc, h1, rfl, rfl⟩
  | _ :: _, _, _, ⟨c', cs2, ma, mb, h2, h3, h4, h5, h6⟩ => ⟨c', cs2 ++ c.toList, ma, mb ++ m1, by rw [h2, List.append_assoc], by rw [h3, List.append_assoc], h4, h5, h6.snoc hc h1⟩
theorem CKids.at {w : Nat} {R : Ch → Array Value → Heap → Prop} : ∀ {ds : List Ch} {cs : List Value} {m : Heap}, CKids w R ds cs m → ∀ {j : Nat} {d : Ch}, ds[j]? = some d →
    ∃ c m1, c.size = w ∧ R d c m1 ∧ (∀ i u, c.toList[i]? = some u → cs[j * w + i]? = some u) ∧ ∀ x, x ∈ m1 → x ∈ m
  | [], _, _, _, j, d, h => by simp at h
  | d' :: ds, cs, m, ⟨c, cs2, m1, m2, h1, h2, h3, h4, h5⟩, 0, d, h => by
    have : d' = d := by simpa using h
    subst this
    refine ⟨c, m1, h3, h4, fun i u hi => ?_, fun x hx => by rw [h2]; exact List.mem_append_left _ hx⟩
    rw [h1, Nat.zero_mul, Nat.zero_add, List.getElem?_append_left]
    · exact hi
    · exact (List.getElem?_eq_some_iff.1 hi).1
  | d' :: ds, cs, m, ⟨c, cs2, m1, m2, h1, h2, h3, h4, h5⟩, j + 1, d, h => by
    obtain ⟨c', m', h6, h7, h8, h9⟩ := h5.at (j := j) (d := d) (by simpa using h)
    refine ⟨c', m', h6, h7, fun i u hi => ?_, fun x hx => by rw [h2]; exact List.mem_append_right _ (h9 x hx)⟩
    have h10 := h8 i u hi
    have hl : c.toList.length = w := by simpa using h3
    rw [h1, List.getElem?_append_right (by rw [hl, Nat.succ_mul]; omega), hl, ← h10]
    congr 1
    rw [Nat.succ_mul]
    omega

/-- A chart whose root's cells are 'root' 's, over the slice of its dependencies. -/
def RepC1 (E w : Nat) (root : Ch → Value → Array Value → Heap → Prop) (sub : Ch → Array Value → Heap → Prop) (c : Ch) (a : Array Value) (m : Heap) : Prop :=
  ∃ dsl cs mr md mk, root c dsl a mr ∧ Row E w dsl c.deps.length cs md ∧ CKids w sub c.deps cs mk ∧ m = mr ++ (md ++ mk)
def RepC (E w : Nat) (root : Ch → Value → Array Value → Heap → Prop) : Nat → Ch → Array Value → Heap → Prop
  | 0 => RepC1 E w root fun _ _ _ => False
  | n + 1 => RepC1 E w root (RepC E w root n)
theorem RepC.succ {E w : Nat} {root : Ch → Value → Array Value → Heap → Prop} : ∀ {n : Nat} {c : Ch} {a : Array Value} {m : Heap}, RepC E w root n c a m → RepC E w root (n + 1) c a m
  | 0, _, _, _, ⟨dsl, cs, mr, md, mk, h1, h2, h3, h4⟩ => ⟨dsl, cs, mr, md, mk, h1, h2, h3.mono (fun _ _ _ h => h.elim), h4⟩
  | _ + 1, _, _, _, ⟨dsl, cs, mr, md, mk, h1, h2, h3, h4⟩ => ⟨dsl, cs, mr, md, mk, h1, h2, h3.mono (fun _ _ _ h => RepC.succ h), h4⟩

/-- chart.Chart: a pointer to metadata's pointer, values and dependencies. -/
def rootH (c : Ch) (dsl : Value) (a : Array Value) (m : Heap) : Prop := ∃ b bm r mv, a = #[ptr b] ∧ RepA 2 (.tab c.vals) (.iface 63 (.map (some r))) mv ∧ m = (b, Obj.cells #[ptr bm, .map (some r), dsl] 100 (0, 0)) :: (bm, Obj.cells #[str c.name] 97 (0, 0)) :: mv
abbrev RepH := RepC 77 1 rootH
/-- impl.Chart: the name, the values' seven cells, the dependencies. -/
def rootI (c : Ch) (dsl : Value) (a : Array Value) (m : Heap) : Prop := ∃ dv : Array Value, dv.size = 7 ∧ a = (#[str c.name] ++ dv).push dsl ∧ RepD 2 (.tab c.vals) (.agg dv) m
abbrev RepI := RepC 51 9 rootI
/-- spec.Chart: the name, the values' pointer, the dependencies. -/
def rootP (c : Ch) (dsl : Value) (a : Array Value) (m : Heap) : Prop := ∃ p, a = #[str c.name, p, dsl] ∧ RepS 2 (.tab c.vals) p m
abbrev RepP := RepC 54 3 rootP

theorem RepC.open {E w : Nat} {root : Ch → Value → Array Value → Heap → Prop} {n : Nat} {c : Ch} {a : Array Value} {m : Heap} (h : RepC E w root n c a m) : ∃ dsl cs mr md mk, root c dsl a mr ∧ Row E w dsl c.deps.length cs md ∧ CKids w (fun d a m => ∃ n', n = n' + 1 ∧ RepC E w root n' d a m) c.deps cs mk ∧ m = mr ++ (md ++ mk) := by
  cases n with
  | zero => obtain ⟨dsl, cs, mr, md, mk, h1, h2, h3, h4⟩ := h; exact ⟨dsl, cs, mr, md, mk, h1, h2, h3.mono (fun _ _ _ h => h.elim), h4⟩
  | succ n => obtain ⟨dsl, cs, mr, md, mk, h1, h2, h3, h4⟩ := h; exact ⟨dsl, cs, mr, md, mk, h1, h2, h3.mono (fun _ _ _ h => ⟨n, rfl, h⟩), h4⟩

end Go.Proofs.Ytnnclcfklbeocaa

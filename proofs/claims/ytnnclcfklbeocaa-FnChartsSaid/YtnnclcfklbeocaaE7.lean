/-
  The engine, part 7: a statement whose order of evaluation is open. What only reads is taken first ('d_take'), where what it reads ('R') stays till it has surely been read; the rest runs in the one order that is left ('d_run').
  No condition: definitions and general lemmas (after the kit's Derived/OrdersHeld.lean).
-/
import Derived.Test.YtnnclcfklbeocaaE6
import Derived.Deep.RegionHeld3
namespace Go.Proofs.Ytnnclcfklbeocaa
open Go.RowKit

section
variable {P : Program} {ops : Array Oper} {Q : Exit → Act → World → Prop} {S : World → Prop} {need : Nat → Bool}

def wpAnyG (P : Program) (ops : Array Oper) (Q : Exit → Act → World → Prop) (S : World → Prop) (need : Nat → Bool) : Nat → Array Bool → Act → World → Prop
  | 0, listed, a, w => Region.ready .any ops listed = [] ∧ Q .normal a w
  | fuel + 1, listed, a, w =>
    (Region.ready .any ops listed = [] → Q .normal a w) ∧
    ∀ i ∈ Region.ready .any ops listed, wpOp P ops Q i (fun a' w' => (need i = true → S w → S w') ∧ wpAnyG P ops Q S need fuel (listed.setIfInBounds i true) a' w') a w

theorem wpAny_of_G : ∀ (fuel : Nat) (listed : Array Bool) (a : Act) (w : World), wpAnyG P ops Q S need fuel listed a w → wpAny P .any ops Q fuel listed a w
  | 0, _, _, _, h => h
  | fuel + 1, _, _, _, h => ⟨h.1, fun i hi => wpOp_mono (fun a' w' h' => wpAny_of_G fuel _ a' w' h'.2) (h.2 i hi)⟩

/-- Behind an operation of which S is not asked, number i has come up. -/
def needOk (ops : Array Oper) (need : Nat → Bool) (i : Nat) : Bool :=
  (List.range ops.size).all fun j => need j || j == i || match ops[j]? with
    | some oj => oj.after.any fun e => Region.binds .any e && e.on == i
    | none => true

theorem needOk_spec {i : Nat} (h : needOk ops need i = true) {j : Nat} {oj : Oper} (hj : ops[j]? = some oj) (hne : j ≠ i) (hn : need j = false) : ∃ e ∈ oj.after, Region.binds .any e = true ∧ e.on = i := by
  simp only [needOk, List.all_eq_true, List.mem_range] at h
  have h1 := h j (Array.getElem?_eq_some_iff.1 hj).1
  simp only [hj, hn, Bool.false_or, Bool.or_eq_true, beq_iff_eq, hne, false_or] at h1
  obtain ⟨e, he, hb⟩ := Array.any_eq_true'.1 h1
  simp only [Bool.and_eq_true, beq_iff_eq] at hb
  exact ⟨e, he, hb.1, hb.2⟩

theorem wpAnyG_first {i : Nat} {oi : Oper} {v : Value} (hi : ops[i]? = some oi) (hsel : ∀ (j : Nat) (o : Oper) cs b, ops[j]? = some o → o.op ≠ .select cs b) (hnd : needOk ops need i = true)
    (hQ : ∀ c a w, Q (.panic c) (a.put oi.dst v) w → Q (.panic c) a w) :
    ∀ (fuel : Nat) (listed : Array Bool) (a : Act) (w : World),
      (∀ j oj, ops[j]? = some oj → j ≠ i → listed.getD j true = false → (∀ e ∈ oj.after, Region.binds .any e = true → e.on ≠ i) → oi.apart ops oj = true) →
      i ∈ Region.ready .any ops listed → YieldsIf P ops S oi v a → S w →
      wpAnyG P ops Q S need fuel (listed.setIfInBounds i true) (a.put oi.dst v) w → wpAnyG P ops Q S need (fuel + 1) listed a w := by
  intro fuel
  induction fuel with
  | zero =>
    intro listed a w _ hr hy hS H
    refine ⟨fun h => (by rw [h] at hr; cases hr), fun j hj => ?_⟩
    by_cases hji : j = i
    · subst hji; exact hy.wpOp hi hS ⟨fun _ h => h, H⟩
    · have := ready_mono hj hji
      rw [H.1] at this
      cases this
  | succ fuel ih =>
    intro listed a w hfree hr hy hS H
    refine ⟨fun h => (by rw [h] at hr; cases hr), fun j hj => ?_⟩
    by_cases hji : j = i
    · subst hji; exact hy.wpOp hi hS ⟨fun _ h => h, H⟩
    · have h1 := H.2 j (ready_mono hj hji)
      obtain ⟨hjun, oj, hoj, hall⟩ := mem_ready.1 hj
      have hnot : ∀ e ∈ oj.after, Region.binds .any e = true → e.on ≠ i := fun e he hb heq => by
        have h1 := hall e he hb
        have h0 := (mem_ready.1 hr).1
        rw [heq] at h1
        rcases Nat.lt_or_ge i listed.size with h' | h'
        · simp [h'] at h0 h1; rw [h0] at h1; cases h1
        · simp [Array.getElem?_eq_none h'] at h1
      have hneed : need j = true := by
        cases hn : need j with
        | true => rfl
        | false =>
          obtain ⟨e, he, hb, ho⟩ := needOk_spec hnd hoj hji hn
          exact absurd ho (hnot e he hb)
      have h2 := wpOp_putIf hoj (hfree j oj hoj hji hjun hnot) (fun cs b => hsel i oi cs b hi) (fun cs b => hsel j oj cs b hoj) hQ hy h1
      have hfree' : ∀ k ok, ops[k]? = some ok → k ≠ i → (listed.setIfInBounds j true).getD k true = false →
          (∀ e ∈ ok.after, Region.binds .any e = true → e.on ≠ i) → oi.apart ops ok = true := fun k ok hk hki hun hno => by
        refine hfree k ok hk hki ?_ hno
        by_cases hjk : j = k
        · subst hjk; exact hjun
        · rw [getD_set_ne true hjk] at hun; exact hun
      refine wpOp_mono (fun a' w' h3 => ⟨h3.2.1, ih (listed.setIfInBounds j true) a' w' hfree' (ready_mono hr (Ne.symm hji)) h3.1 (h3.2.1 hneed hS) ?_⟩) h2
      rw [Array.setIfInBounds_comm _ _ hji]
      exact h3.2.2

/-- The same for what yields its value in whatever world: nothing is asked of S. -/
theorem wpAnyG_firstW {i : Nat} {oi : Oper} {v : Value} (hi : ops[i]? = some oi) (hsel : ∀ (j : Nat) (o : Oper) cs b, ops[j]? = some o → o.op ≠ .select cs b)
    (hQ : ∀ c a w, Q (.panic c) (a.put oi.dst v) w → Q (.panic c) a w) :
    ∀ (fuel : Nat) (listed : Array Bool) (a : Act) (w : World),
      (∀ j oj, ops[j]? = some oj → j ≠ i → listed.getD j true = false → (∀ e ∈ oj.after, Region.binds .any e = true → e.on ≠ i) → oi.apart ops oj = true) →
      i ∈ Region.ready .any ops listed → Yields P ops oi v a →
      wpAnyG P ops Q S need fuel (listed.setIfInBounds i true) (a.put oi.dst v) w → wpAnyG P ops Q S need (fuel + 1) listed a w := by
  intro fuel
  induction fuel with
  | zero =>
    intro listed a w _ hr hy H
    refine ⟨fun h => (by rw [h] at hr; cases hr), fun j hj => ?_⟩
    by_cases hji : j = i
    · subst hji; exact hy.wpOp hi ⟨fun _ h => h, H⟩
    · have := ready_mono hj hji
      rw [H.1] at this
      cases this
  | succ fuel ih =>
    intro listed a w hfree hr hy H
    refine ⟨fun h => (by rw [h] at hr; cases hr), fun j hj => ?_⟩
    by_cases hji : j = i
    · subst hji; exact hy.wpOp hi ⟨fun _ h => h, H⟩
    · have h1 := H.2 j (ready_mono hj hji)
      obtain ⟨hjun, oj, hoj, hall⟩ := mem_ready.1 hj
      have hnot : ∀ e ∈ oj.after, Region.binds .any e = true → e.on ≠ i := fun e he hb heq => by
        have h1 := hall e he hb
        have h0 := (mem_ready.1 hr).1
        rw [heq] at h1
        rcases Nat.lt_or_ge i listed.size with h' | h'
        · simp [h'] at h0 h1; rw [h0] at h1; cases h1
        · simp [Array.getElem?_eq_none h'] at h1
      have h2 := wpOp_put hoj (hfree j oj hoj hji hjun hnot) (fun cs b => hsel i oi cs b hi) (fun cs b => hsel j oj cs b hoj) hQ hy h1
      have hfree' : ∀ k ok, ops[k]? = some ok → k ≠ i → (listed.setIfInBounds j true).getD k true = false →
          (∀ e ∈ ok.after, Region.binds .any e = true → e.on ≠ i) → oi.apart ops ok = true := fun k ok hk hki hun hno => by
        refine hfree k ok hk hki ?_ hno
        by_cases hjk : j = k
        · subst hjk; exact hjun
        · rw [getD_set_ne true hjk] at hun; exact hun
      refine wpOp_mono (fun a' w' h3 => ⟨h3.2.1, ih (listed.setIfInBounds j true) a' w' hfree' (ready_mono hr (Ne.symm hji)) h3.1 ?_⟩) h2
      rw [Array.setIfInBounds_comm _ _ hji]
      exact h3.2.2
end

/-- A region that draws, under way: 'listed' has come up; R is what the loads read; 'need': behind which operations R must still stand. -/
structure D (P : Program) (W0 : World) (n : Nat) (ops : Array Oper) (Q : Exit → Act → World → Prop) (R : Heap) (need : Nat → Bool) (fuel : Nat) (listed : Array Bool) (L : Slots) (M : Heap) : Prop where
  run : ∀ a w, St n L a → Own W0 M w → wpAnyG P ops (NoPanic Q) (Rd W0 R) need fuel listed a w

section
variable {P : Program} {W0 : World} {n : Nat} {ops : Array Oper} {Q : Exit → Act → World → Prop} {L : Slots} {M R : Heap} {need : Nat → Bool} {fuel : Nat} {listed : Array Bool}

theorem c_draw {id : Nat} {l : List Oper} (R : Heap) (need : Nat → Bool) (hm : P.follows .mixedOrders = true) (h : D P W0 n l.toArray Q R need l.length (Array.replicate l.length false) L M) : C P W0 n Q L M (.region id l.toArray true) :=
  ⟨fun a w ha hw => wp_region_noPanic (wp_region_any hm (by
    have := wpAny_of_G _ _ _ _ (h.run a w.drew ha hw.drew)
    rw [List.size_toArray]
    exact this))⟩

theorem d_done (hr : Region.ready .any ops listed = []) (h : E W0 n Q L M .normal) : D P W0 n ops Q R need fuel listed L M := by
  refine ⟨fun a w ha hw => ?_⟩
  have hq : NoPanic Q .normal a w := h.run a w ha hw
  cases fuel with
  | zero => exact ⟨hr, hq⟩
  | succ k => exact ⟨fun _ => hq, by rw [hr]; simp⟩

theorem d_take {op : Op} {v : Value} {d : Nat} {ty : TypeId} {pos : String} {aft : Array Edge} (i : Nat) (hi : ops[i]? = some ⟨some d, op, ty, pos, aft, none⟩) (hs : Region.noSelect ops = true) (hf : Region.free .any ops listed i = true)
    (hr : (Region.ready .any ops listed).contains i = true) (hn : needOk ops need i = true) (hd : Nat.blt d n = true) (hq : QV P W0 L R op v) (hR : ∀ x, x ∈ R → x ∈ M)
    (k : D P W0 n ops Q R need fuel (listed.setIfInBounds i true) ((d, v) :: L) M) : D P W0 n ops Q R need (fuel + 1) listed L M := by
  refine ⟨fun a w ha hw => ?_⟩
  have hy : YieldsIf P ops (Rd W0 R) ⟨some d, op, ty, pos, aft, none⟩ v a := Or.inl ⟨rfl, fun w' hw' => hq a w' _ (fun x u hx => ha.eval hx) hw' rfl⟩
  exact wpAnyG_first hi (Region.noSelect_spec hs) hn (fun _ _ _ h => h) fuel listed a w (Region.free_spec hi hf) (by simpa using hr) hy (hw.rd.sub hR) (k.run _ w (ha.put hd v) hw)

theorem d_take_on {op : Op} {v : Value} {d : Nat} {ty : TypeId} {pos : String} {aft : Array Edge} {j dj : Nat} {want : Bool} (i : Nat) (hi : ops[i]? = some ⟨some d, op, ty, pos, aft, some (j, want)⟩) (hj : (ops[j]?).bind (·.dst) = some dj) (hl : look L dj = some (.bool want)) (hs : Region.noSelect ops = true) (hf : Region.free .any ops listed i = true)
    (hr : (Region.ready .any ops listed).contains i = true) (hn : needOk ops need i = true) (hd : Nat.blt d n = true) (hq : QV P W0 L R op v) (hR : ∀ x, x ∈ R → x ∈ M)
    (k : D P W0 n ops Q R need fuel (listed.setIfInBounds i true) ((d, v) :: L) M) : D P W0 n ops Q R need (fuel + 1) listed L M := by
  refine ⟨fun a w ha hw => ?_⟩
  have hyd := yielded_of (a := a) hj (ha.got _ _ hl)
  have hy : YieldsIf P ops (Rd W0 R) ⟨some d, op, ty, pos, aft, some (j, want)⟩ v a := Or.inl ⟨by simp [Region.wanted, hyd], fun w' hw' => hq a w' _ (fun x u hx => ha.eval hx) hw' rfl⟩
  exact wpAnyG_first hi (Region.noSelect_spec hs) hn (fun _ _ _ h => h) fuel listed a w (Region.free_spec hi hf) (by simpa using hr) hy (hw.rd.sub hR) (k.run _ w (ha.put hd v) hw)

theorem d_take_off {op : Op} {d : Nat} {ty : TypeId} {pos : String} {aft : Array Edge} {j dj : Nat} {want b : Bool} (i : Nat) (hi : ops[i]? = some ⟨some d, op, ty, pos, aft, some (j, want)⟩) (hj : (ops[j]?).bind (·.dst) = some dj) (hl : look L dj = some (.bool b)) (hne : (b == want) = false) (hs : Region.noSelect ops = true) (hf : Region.free .any ops listed i = true)
    (hr : (Region.ready .any ops listed).contains i = true) (hd : Nat.blt d n = true)
    (k : D P W0 n ops Q R need fuel (listed.setIfInBounds i true) ((d, undef) :: L) M) : D P W0 n ops Q R need (fuel + 1) listed L M := by
  refine ⟨fun a w ha hw => ?_⟩
  have hyd := yielded_of (a := a) hj (ha.got _ _ hl)
  have hy : Yields P ops ⟨some d, op, ty, pos, aft, some (j, want)⟩ undef a := Or.inr ⟨by
    simp only [Region.wanted, hyd]
    cases b <;> cases want <;> first | rfl | (exact absurd hne (by decide)), rfl⟩
  exact wpAnyG_firstW hi (Region.noSelect_spec hs) (fun _ _ _ h => h) fuel listed a w (Region.free_spec hi hf) (by simpa using hr) hy (k.run _ w (ha.put hd undef) hw)

theorem yields_any {op : Op} {v : Value} {a : Act} {o : Oper} (hev : ∀ x u, opv L x = some u → a.eval x = u) (hq : ∀ W, QV P W L [] op v) (ho : o.op = op) (w : World) : (execOp a.eval o).run P w = .ok (.value v) w :=
  hq w a w o hev ⟨fun _ _ h => (by cases h), fun _ _ => rfl⟩ ho

/-- What hangs on no memory may be taken whenever it may come up. -/
theorem d_takeW {op : Op} {v : Value} {d : Nat} {ty : TypeId} {pos : String} {aft : Array Edge} (i : Nat) (hi : ops[i]? = some ⟨some d, op, ty, pos, aft, none⟩) (hs : Region.noSelect ops = true) (hf : Region.free .any ops listed i = true)
    (hr : (Region.ready .any ops listed).contains i = true) (hd : Nat.blt d n = true) (hq : ∀ W, QV P W L [] op v)
    (k : D P W0 n ops Q R need fuel (listed.setIfInBounds i true) ((d, v) :: L) M) : D P W0 n ops Q R need (fuel + 1) listed L M := by
  refine ⟨fun a w ha hw => ?_⟩
  have hy : Yields P ops ⟨some d, op, ty, pos, aft, none⟩ v a := Or.inl ⟨rfl, fun w' => yields_any (fun x u hx => ha.eval hx) hq rfl w'⟩
  exact wpAnyG_firstW hi (Region.noSelect_spec hs) (fun _ _ _ h => h) fuel listed a w (Region.free_spec hi hf) (by simpa using hr) hy (k.run _ w (ha.put hd v) hw)

theorem d_takeW_on {op : Op} {v : Value} {d : Nat} {ty : TypeId} {pos : String} {aft : Array Edge} {j dj : Nat} {want : Bool} (i : Nat) (hi : ops[i]? = some ⟨some d, op, ty, pos, aft, some (j, want)⟩) (hj : (ops[j]?).bind (·.dst) = some dj) (hl : look L dj = some (.bool want)) (hs : Region.noSelect ops = true) (hf : Region.free .any ops listed i = true)
    (hr : (Region.ready .any ops listed).contains i = true) (hd : Nat.blt d n = true) (hq : ∀ W, QV P W L [] op v)
    (k : D P W0 n ops Q R need fuel (listed.setIfInBounds i true) ((d, v) :: L) M) : D P W0 n ops Q R need (fuel + 1) listed L M := by
  refine ⟨fun a w ha hw => ?_⟩
  have hyd := yielded_of (a := a) hj (ha.got _ _ hl)
  have hy : Yields P ops ⟨some d, op, ty, pos, aft, some (j, want)⟩ v a := Or.inl ⟨by simp [Region.wanted, hyd], fun w' => yields_any (fun x u hx => ha.eval hx) hq rfl w'⟩
  exact wpAnyG_firstW hi (Region.noSelect_spec hs) (fun _ _ _ h => h) fuel listed a w (Region.free_spec hi hf) (by simpa using hr) hy (k.run _ w (ha.put hd v) hw)

theorem d_run {op : Op} {Rl : Value → Heap → Prop} {d : Nat} {ty : TypeId} {pos : String} {aft : Array Edge} (i : Nat) (hi : ops[i]? = some ⟨some d, op, ty, pos, aft, none⟩) (hr : Region.ready .any ops listed = [i]) (hd : Nat.blt d n = true) (h : IV P W0 L M op Rl)
    (hR : ∀ v M', Rl v M' → need i = true → ∀ x, x ∈ R → x ∈ M') (k : ∀ v M', Rl v M' → D P W0 n ops Q R need fuel (listed.setIfInBounds i true) ((d, v) :: L) M') : D P W0 n ops Q R need (fuel + 1) listed L M := by
  refine ⟨fun a w ha hw => ⟨fun h0 => (by rw [h0] at hr; cases hr), fun j hj => ?_⟩⟩
  rw [hr] at hj
  obtain rfl : j = i := by simpa using hj
  unfold wpOp
  rw [hi]
  have hwt : Region.wanted (⟨some d, op, ty, pos, aft, none⟩ : Oper) (yielded ops a.tmps) = true := rfl
  simp only [hwt, if_true]
  exact Or.inl (h a w _ _ _ (fun x u hx => ha.eval hx) hw rfl fun v M' w' hl hO => ⟨fun hne _ => hO.rd.sub (hR v M' hl hne), (k v M' hl).run _ _ (ha.put hd v) hO⟩)

theorem d_run0 {op : Op} {Rl : Value → Heap → Prop} {ty : TypeId} {pos : String} {aft : Array Edge} (i : Nat) (hi : ops[i]? = some ⟨none, op, ty, pos, aft, none⟩) (hr : Region.ready .any ops listed = [i]) (h : IV P W0 L M op Rl)
    (hR : ∀ v M', Rl v M' → need i = true → ∀ x, x ∈ R → x ∈ M') (k : ∀ v M', Rl v M' → D P W0 n ops Q R need fuel (listed.setIfInBounds i true) L M') : D P W0 n ops Q R need (fuel + 1) listed L M := by
  refine ⟨fun a w ha hw => ⟨fun h0 => (by rw [h0] at hr; cases hr), fun j hj => ?_⟩⟩
  rw [hr] at hj
  obtain rfl : j = i := by simpa using hj
  unfold wpOp
  rw [hi]
  have hwt : Region.wanted (⟨none, op, ty, pos, aft, none⟩ : Oper) (yielded ops a.tmps) = true := rfl
  simp only [hwt, if_true]
  exact Or.inl (h a w _ _ _ (fun x u hx => ha.eval hx) hw rfl fun v M' w' hl hO => ⟨fun hne _ => hO.rd.sub (hR v M' hl hne), (k v M' hl).run _ _ (ha.put_none v) hO⟩)

theorem d_run_on {op : Op} {Rl : Value → Heap → Prop} {d : Nat} {ty : TypeId} {pos : String} {aft : Array Edge} {j dj : Nat} {want : Bool} (i : Nat) (hi : ops[i]? = some ⟨some d, op, ty, pos, aft, some (j, want)⟩) (hj : (ops[j]?).bind (·.dst) = some dj) (hl : look L dj = some (.bool want)) (hr : Region.ready .any ops listed = [i]) (hd : Nat.blt d n = true) (h : IV P W0 L M op Rl)
    (hR : ∀ v M', Rl v M' → need i = true → ∀ x, x ∈ R → x ∈ M') (k : ∀ v M', Rl v M' → D P W0 n ops Q R need fuel (listed.setIfInBounds i true) ((d, v) :: L) M') : D P W0 n ops Q R need (fuel + 1) listed L M := by
  refine ⟨fun a w ha hw => ⟨fun h0 => (by rw [h0] at hr; cases hr), fun jj hjj => ?_⟩⟩
  rw [hr] at hjj
  obtain rfl : jj = i := by simpa using hjj
  unfold wpOp
  rw [hi]
  have hyd := yielded_of (a := a) hj (ha.got _ _ hl)
  have hwt : Region.wanted (⟨some d, op, ty, pos, aft, some (j, want)⟩ : Oper) (yielded ops a.tmps) = true := by simp [Region.wanted, hyd]
  simp only [hwt, if_true]
  exact Or.inl (h a w _ _ _ (fun x u hx => ha.eval hx) hw rfl fun v M' w' hl hO => ⟨fun hne _ => hO.rd.sub (hR v M' hl hne), (k v M' hl).run _ _ (ha.put hd v) hO⟩)

theorem d_perm {M' : Heap} (hp : M.Perm M') (k : D P W0 n ops Q R need fuel listed L M') : D P W0 n ops Q R need fuel listed L M := ⟨fun a w ha hw => k.run a w ha (hw.perm hp)⟩
theorem d_drop {M' : Heap} (hp : M'.Sublist M) (k : D P W0 n ops Q R need fuel listed L M') : D P W0 n ops Q R need fuel listed L M := ⟨fun a w ha hw => k.run a w ha (hw.sublist hp)⟩
end

theorem Try.mixed : Try.prog.follows .mixedOrders = true := by kernel_rfl

end Go.Proofs.Ytnnclcfklbeocaa

/-
  The engine, part 0: symbolic states. What a frame's slots hold ('St'), which blocks are owned and what they hold ('Own'), and what an operation does to them ('QV': it only yields a value; 'IV': it may change memory).
  No condition: definitions and general lemmas.
-/
import Derived.Test.YtnnclcfklbeocaaRows
import Derived.WalkKit
import Derived.WalkSpells
import Derived.WalkLawsBesides
namespace Go.Proofs.Ytnnclcfklbeocaa
open Go.RowKit

abbrev Slots := List (Nat × Value)
abbrev Heap := List (Nat × Obj)

/-- What slot k holds: the first entry counts. -/
def look : Slots → Nat → Option Value
  | [], _ => none
  | (j, v) :: L, k => bif Nat.beq j k then some v else look L k

structure St (n : Nat) (L : Slots) (a : Act) : Prop where
  size : a.tmps.size = n
  defers : a.defers = []
  got : ∀ k v, look L k = some v → a.tmps[k]? = some v

def opv (L : Slots) : Operand → Option Value
  | .tmp t => look L t
  | .const v => some v
  | .global g => some (.pointer (some ⟨g, 0, none⟩))
  | .func f => some (.func (.func f) #[] #[])

theorem St.eval {n : Nat} {L : Slots} {a : Act} (h : St n L a) {x : Operand} {v : Value} (hx : opv L x = some v) : a.eval x = v := by
  cases x with
  | tmp t =>
    have := h.got t v hx
    simp [Act.eval, this]
  | const u => simpa [opv, Act.eval] using hx
  | global g => simpa [opv, Act.eval] using hx
  | func f => simpa [opv, Act.eval] using hx

theorem look_cons (j k : Nat) (v : Value) (L : Slots) : look ((j, v) :: L) k = if j = k then some v else look L k := by
  by_cases h : j = k
  · subst h; simp [look]
  · have : Nat.beq j k = false := by
      cases hb : Nat.beq j k with
      | false => rfl
      | true => exact absurd (Nat.eq_of_beq_eq_true hb) h
    simp [look, this, h]

theorem St.put {n : Nat} {L : Slots} {a : Act} (h : St n L a) {d : Nat} (hd : Nat.blt d n = true) (v : Value) : St n ((d, v) :: L) (a.put (some d) v) := by
  refine ⟨by simpa [Act.put] using h.size, h.defers, fun k u hk => ?_⟩
  rw [look_cons] at hk
  have hdn : d < a.tmps.size := by rw [h.size]; simpa using hd
  simp only [Act.put]
  by_cases e : d = k
  · subst e
    rw [if_pos rfl] at hk
    cases hk
    simp [hdn]
  · rw [if_neg e] at hk
    rw [Array.getElem?_setIfInBounds_ne e]
    exact h.got k u hk

theorem St.put_none {n : Nat} {L : Slots} {a : Act} (h : St n L a) (v : Value) : St n L (a.put none v) := h

/-- Fewer slots are known. -/
def Keep (L : Slots) : Slots → Prop
  | [] => True
  | (k, v) :: r => look L k = some v ∧ Keep L r
theorem Keep.look {L : Slots} : ∀ {L' : Slots}, Keep L L' → ∀ k v, look L' k = some v → look L k = some v
  | [], _, _, _, h => by simp [Ytnnclcfklbeocaa.look] at h
  | (j, u) :: r, hk, k, v, h => by
    rw [look_cons] at h
    by_cases e : j = k
    · subst e
      rw [if_pos rfl] at h
      cases h
      exact hk.1
    · rw [if_neg e] at h
      exact Keep.look hk.2 k v h
theorem St.keep {n : Nat} {L L' : Slots} {a : Act} (h : St n L a) (hk : Keep L L') : St n L' a :=
  ⟨h.size, h.defers, fun k v hv => h.got k v (hk.look k v hv)⟩

/-! ### memory -/

/-- The blocks of M hold what M says; below W0's size nothing has changed. -/
structure Rd (W0 : World) (M : Heap) (w : World) : Prop where
  has : ∀ b o, (b, o) ∈ M → w.heap[b]? = some o
  old : ∀ k, k < W0.heap.size → w.heap[k]? = W0.heap[k]?

structure Own (W0 : World) (M : Heap) (w : World) : Prop where
  has : ∀ b o, (b, o) ∈ M → w.heap[b]? = some o
  nodup : (M.map (·.1)).Nodup
  base : ∀ b o, (b, o) ∈ M → W0.heap.size ≤ b
  below : Below W0.heap.size W0 w

theorem Own.rd {W0 : World} {M : Heap} {w : World} (h : Own W0 M w) : Rd W0 M w := ⟨h.has, h.below.block⟩
theorem Rd.sub {W0 : World} {M M' : Heap} {w : World} (h : Rd W0 M w) (hs : ∀ x, x ∈ M' → x ∈ M) : Rd W0 M' w := ⟨fun b o hm => h.has b o (hs _ hm), h.old⟩
theorem Own.lt {W0 : World} {M : Heap} {w : World} (h : Own W0 M w) {b : Nat} {o : Obj} (hm : (b, o) ∈ M) : b < w.heap.size :=
  (Array.getElem?_eq_some_iff.1 (h.has b o hm)).1
theorem Own.start (W : World) : Own W [] W := ⟨fun _ _ h => (by cases h), by simp, fun _ _ h => (by cases h), Below.refl _ _⟩
theorem Own.drew {W0 : World} {M : Heap} {w : World} (h : Own W0 M w) : Own W0 M w.drew := ⟨h.has, h.nodup, h.base, h.below.drew⟩

theorem Own.perm {W0 : World} {M M' : Heap} {w : World} (h : Own W0 M w) (hp : M.Perm M') : Own W0 M' w :=
  ⟨fun b o hm => h.has b o (hp.mem_iff.2 hm), (hp.map (·.1)).nodup_iff.1 h.nodup, fun b o hm => h.base b o (hp.mem_iff.2 hm), h.below⟩
theorem Own.sublist {W0 : World} {M M' : Heap} {w : World} (h : Own W0 M w) (hp : M'.Sublist M) : Own W0 M' w :=
  ⟨fun b o hm => h.has b o (hp.subset hm), (hp.map (·.1)).nodup h.nodup, fun b o hm => h.base b o (hp.subset hm), h.below⟩

/-- A new block. -/
theorem Own.new {W0 : World} {M : Heap} {w : World} (h : Own W0 M w) (o : Obj) : Own W0 ((w.heap.size, o) :: M) (w.alloc o) := by
  refine ⟨fun b o' hm => ?_, ?_, fun b o' hm => ?_, h.below.alloc h.below.size o⟩
  · rcases List.mem_cons.1 hm with e | hm
    · cases e
      show (w.heap.push o)[w.heap.size]? = some o
      simp
    · rw [Below.heap_alloc _ _ _ (h.lt hm)]
      exact h.has b o' hm
  · rw [List.map_cons, List.nodup_cons]
    refine ⟨fun hin => ?_, h.nodup⟩
    obtain ⟨⟨b, o'⟩, hm, e⟩ := List.mem_map.1 hin
    have := h.lt hm
    simp at e
    omega
  · rcases List.mem_cons.1 hm with e | hm
    · cases e
      exact h.below.size
    · exact h.base b o' hm

/-- w' is w, but that block b holds o'. -/
structure Upd (w w' : World) (b : Nat) (o' : Obj) : Prop where
  os : w'.os = w.os
  tape : w'.tape = w.tape
  output : w'.output = w.output
  size : w'.heap.size = w.heap.size
  at_ : w'.heap[b]? = some o'
  other : ∀ k, k ≠ b → w'.heap[k]? = w.heap[k]?

theorem Own.upd {W0 : World} {M : Heap} {w w' : World} (h : Own W0 M w) {i b : Nat} {o o' : Obj} (hi : M[i]? = some (b, o)) (hu : Upd w w' b o') : Own W0 (M.set i (b, o')) w' := by
  have hil : i < M.length := (List.getElem?_eq_some_iff.1 hi).1
  have hmem : (b, o) ∈ M := List.mem_of_getElem? hi
  have hkeys : (M.set i (b, o')).map (·.1) = M.map (·.1) := by
    apply List.ext_getElem?
    intro j
    rw [List.getElem?_map, List.getElem?_map, List.getElem?_set]
    by_cases e : i = j
    · subst e
      rw [if_pos rfl, if_pos hil, hi]; rfl
    · rw [if_neg e]
  have hother : ∀ j (c : Nat) (u : Obj), j ≠ i → M[j]? = some (c, u) → c ≠ b := by
    intro j c u hne hj hc
    subst hc
    have hjl : j < M.length := (List.getElem?_eq_some_iff.1 hj).1
    have hp := List.pairwise_iff_getElem.1 h.nodup
    have e1 : (M.map (·.1))[i]? = some c := by rw [List.getElem?_map, hi]; rfl
    have e2 : (M.map (·.1))[j]? = some c := by rw [List.getElem?_map, hj]; rfl
    have hi' : i < (M.map (·.1)).length := by simpa using hil
    have hj' : j < (M.map (·.1)).length := by simpa using hjl
    rw [List.getElem?_eq_getElem hi'] at e1
    rw [List.getElem?_eq_getElem hj'] at e2
    rcases Nat.lt_or_gt_of_ne hne with hlt | hlt
    · exact hp j i hj' hi' hlt ((Option.some.inj e2).trans (Option.some.inj e1).symm)
    · exact hp i j hi' hj' hlt ((Option.some.inj e1).trans (Option.some.inj e2).symm)
  have hcase : ∀ c u, (c, u) ∈ M.set i (b, o') → (c = b ∧ u = o') ∨ ((c, u) ∈ M ∧ c ≠ b) := by
    intro c u hm
    obtain ⟨j, hj⟩ := List.getElem?_of_mem hm
    rw [List.getElem?_set] at hj
    by_cases e : i = j
    · rw [if_pos e, if_pos (by omega)] at hj
      cases hj
      exact Or.inl ⟨rfl, rfl⟩
    · rw [if_neg e] at hj
      exact Or.inr ⟨List.mem_of_getElem? hj, hother j c u (Ne.symm e) hj⟩
  have hbase := h.base b o hmem
  refine ⟨fun c u hm => ?_, by rw [hkeys]; exact h.nodup, fun c u hm => ?_, ?_⟩
  · rcases hcase c u hm with ⟨rfl, rfl⟩ | ⟨hm', hne⟩
    · exact hu.at_
    · rw [hu.other c hne]; exact h.has c u hm'
  · rcases hcase c u hm with ⟨rfl, rfl⟩ | ⟨hm', hne⟩
    · exact hbase
    · exact h.base c u hm'
  · exact h.below.trans ⟨hu.os, hu.tape, hu.output, Nat.le_of_eq hu.size.symm, fun k hk => hu.other k (by omega)⟩

theorem Upd.set {w : World} {b : Nat} {o o' : Obj} (h : w.heap[b]? = some o) : Upd w { w with heap := w.heap.setIfInBounds b o' } b o' := by
  have hl := (Array.getElem?_eq_some_iff.1 h).1
  refine ⟨rfl, rfl, rfl, by simp, by simp [hl], fun k hk => ?_⟩
  rw [Array.getElem?_setIfInBounds_ne (Ne.symm hk)]

theorem Upd.setCell {w : World} {b off : Nat} {v : Value} {cs : Array Value} {E : TypeId} {fz : Nat × Nat} (h : w.heap[b]? = some (.cells cs E fz)) :
    Upd w (w.setCell ⟨b, off, none⟩ v) b (.cells (cs.setIfInBounds off v) E fz) := by
  refine ⟨rfl, rfl, rfl, by simp [World.setCell], by simp [World.setCell, Array.getElem?_modify, h], fun k hk => ?_⟩
  exact Below.heap_setCell _ _ _ _ hk

theorem Upd.setRow {w : World} {b : Nat} {cs cs' : Array Value} {E : TypeId} {fz : Nat × Nat} (h : w.heap[b]? = some (.cells cs E fz)) :
    Upd w (w.setRow b cs') b (.cells cs' E fz) := by
  refine ⟨rfl, rfl, rfl, by simp [World.setRow], ?_, fun k hk => ?_⟩
  · simp [World.setRow, Array.getElem?_modify, h]
  · simp only [World.setRow, Array.getElem?_modify]
    rw [if_neg (by omega)]

theorem Rd.cell {W0 : World} {M : Heap} {w : World} (h : Rd W0 M w) {b off : Nat} {cs : Array Value} {E : TypeId} {fz : Nat × Nat} (hm : (b, Obj.cells cs E fz) ∈ M) : w.cell? ⟨b, off, none⟩ = cs[off]? := by
  simp [World.cell?, h.has b _ hm]

/-! ### operations -/

/-- The operation yields v and does nothing else. -/
def QV (P : Program) (W0 : World) (L : Slots) (M : Heap) (op : Op) (v : Value) : Prop :=
  ∀ (a : Act) (w : World) (o : Oper), (∀ x u, opv L x = some u → a.eval x = u) → Rd W0 M w → o.op = op → (execOp a.eval o).run P w = .ok (.value v) w

/-- The operation ends, with a value and a memory that R tells. -/
def IV (P : Program) (W0 : World) (L : Slots) (M : Heap) (op : Op) (R : Value → Heap → Prop) : Prop :=
  ∀ (a : Act) (w : World) (o : Oper) (Q : Exit → Act → World → Prop) (K : Act → World → Prop), (∀ x u, opv L x = some u → a.eval x = u) → Own W0 M w → o.op = op →
    (∀ v M' w', R v M' → Own W0 M' w' → K (a.put o.dst v) w') → o.wp P a w K Q

theorem QV.iv {P : Program} {W0 : World} {L : Slots} {M : Heap} {op : Op} {v : Value} (h : QV P W0 L M op v) : IV P W0 L M op (fun u M' => u = v ∧ M' = M) := by
  intro a w o Q K ha hO ho hK
  unfold Oper.wp
  rw [h a w o ha hO.rd ho]
  exact hK v M w ⟨rfl, rfl⟩ hO

theorem QV.sub {P : Program} {W0 : World} {L : Slots} {M M' : Heap} {op : Op} {v : Value} (h : QV P W0 L M op v) (hs : ∀ x, x ∈ M → x ∈ M') : QV P W0 L M' op v :=
  fun a w o ha hr ho => h a w o ha (hr.sub hs) ho

end Go.Proofs.Ytnnclcfklbeocaa

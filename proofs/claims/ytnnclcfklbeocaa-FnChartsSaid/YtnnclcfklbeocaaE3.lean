/-
  The engine, part 3: the operations that make memory or write cells: variables, structs, slices, append.
  No condition: general lemmas.
-/
import Derived.Test.YtnnclcfklbeocaaE2
namespace Go.Proofs.Ytnnclcfklbeocaa
open Go.RowKit

section
variable {P : Program} {W0 : World} {L : Slots} {M : Heap}

/-- A run that gives v and makes one new block. -/
theorem iv_new {op : Op} {o' : Obj} {F : Nat → Value}
    (h : ∀ (a : Act) (w : World) (o : Oper), (∀ x u, opv L x = some u → a.eval x = u) → Own W0 M w → o.op = op → (execOp a.eval o).run P w = .ok (.value (F w.heap.size)) (w.alloc o')) :
    IV P W0 L M op (fun v M' => ∃ b, v = F b ∧ M' = (b, o') :: M) := by
  intro a w o Q K ha hO ho hK
  unfold Oper.wp
  rw [h a w o ha hO ho]
  exact hK _ _ _ ⟨w.heap.size, rfl, rfl⟩ (hO.new o')

theorem iv_alloc {T : TypeId} {z : Value} (hz : ∀ w, (zeroValue T).run P w = .ok z w) : IV P W0 L M (.alloc T) (fun v M' => ∃ b, v = .pointer (some ⟨b, 0, none⟩) ∧ M' = (b, .cells z.cells T (0, 0)) :: M) :=
  iv_new (F := fun b => .pointer (some ⟨b, 0, none⟩)) fun a w o ha hO ho => by
    simp [execOp, ho, Instr.alloc, hz, newVar, newRow]
theorem iv_box {T : TypeId} {x : Operand} {v : Value} {cs : Array Value} (hx : opv L x = some v) (hc : v.cells = cs) : IV P W0 L M (.box T x) (fun u M' => ∃ b, u = .pointer (some ⟨b, 0, none⟩) ∧ M' = (b, .cells cs T (0, 0)) :: M) :=
  iv_new (F := fun b => .pointer (some ⟨b, 0, none⟩)) fun a w o ha hO ho => by
    subst hc
    simp [execOp, ho, ha _ _ hx, Instr.box, newVar, newRow]
theorem iv_makeMap {T : TypeId} : IV P W0 L M (.makeMap T none) (fun u M' => ∃ b, u = .map (some b) ∧ M' = (b, .map #[] 0) :: M) :=
  iv_new (F := fun b => .map (some b)) fun a w o ha hO ho => by
    simp [execOp, ho, Instr.makeMap]

/-- Operands at their places. -/
def Parts (L : Slots) : List (Nat × Operand) → List (Nat × Value) → Prop
  | [], [] => True
  | (i, x) :: xs, (j, v) :: vs => i = j ∧ opv L x = some v ∧ Parts L xs vs
  | _, _ => False
theorem Parts.map {a : Act} (ha : ∀ x u, opv L x = some u → a.eval x = u) : ∀ {xs : List (Nat × Operand)} {vs : List (Nat × Value)}, Parts L xs vs → xs.map (fun (i, x) => (i, a.eval x)) = vs
  | [], [], _ => rfl
  | (i, x) :: xs, (j, v) :: vs, h => by
    obtain ⟨rfl, hx, hr⟩ := h
    show (i, a.eval x) :: xs.map (fun (i, x) => (i, a.eval x)) = _
    rw [ha x v hx, Parts.map ha hr]
  | [], _ :: _, h => h.elim
  | _ :: _, [], h => h.elim

/-- How a struct type lies: its zero's cells, its fields' places. -/
structure Lay (P : Program) (T : TypeId) (z : Array Value) (pl : List (Nat × Nat)) : Prop where
  zero : ∀ w, (zeroValue T).run P w = .ok (.agg z) w
  places : ∃ fs : Array Field, (∀ w, (underlying T).run P w = .ok (.struct fs) w) ∧ ∀ w, (fs.mapM fun f => Prod.mk f.offset <$> sizeOf f.type : Sem (Array (Nat × Nat))).run P w = .ok pl.toArray w

theorem qv_build {T : TypeId} {z : Array Value} {pl : List (Nat × Nat)} {xs : List (Nat × Operand)} {vs : List (Nat × Value)} {cs : Array Value} (hL : Lay P T z pl) (hv : Parts L xs vs) (hf : Instr.fill (pl[·]?) z vs = some cs) : QV P W0 L M (.build T xs.toArray) (.agg cs) := fun a w o ha _ ho => by
  obtain ⟨fs, hu, hp⟩ := hL.places
  have hm := hv.map ha
  have hf' : Instr.fill (fun i => pl[i]?) z vs = some cs := hf
  simp [execOp, ho, Instr.build, hL.zero, hu, hp, Value.cells, hm, hf']

theorem iv_buildSlice {T E : TypeId} {sz n : Nat} {z : Value} {xs : List (Nat × Operand)} {vs : List (Nat × Value)} {cs : Array Value} (hu : ∀ w, (underlying T).run P w = .ok (.slice E) w) (hs : ∀ w, (sizeOf E).run P w = .ok sz w) (hz : ∀ w, (zeroValue E).run P w = .ok z w)
    (hv : Parts L xs vs) (hle : Nat.ble (n * sz) 16777216 = true) (hf : Instr.fill (fun i => some (i * sz, sz)) ((Array.range (n * sz)).map fun j => z.cells[j % z.cells.size]!) vs = some cs) (hn0 : Nat.beq (n * sz) 0 = false) :
    IV P W0 L M (.buildSlice T n xs.toArray) (fun u M' => ∃ b, u = .slice (some ⟨b, 0, none⟩) n n ∧ M' = (b, .cells cs E (0, 0)) :: M) :=
  iv_new (F := fun b => .slice (some ⟨b, 0, none⟩) n n) fun a w o ha hO ho => by
    have hm := hv.map ha
    have h1 : ¬ (n * sz > 16777216) := by have := Nat.le_of_ble_eq_true hle; omega
    have h2 : ¬ (n * sz = 0) := fun e => by rw [e] at hn0; cases hn0
    simp only [execOp, ho, Instr.buildSlice, Sem.run_bind, hu, hs, Result.andThen_ok, Sem.run_ite]
    rw [if_neg (by simpa using h1)]
    simp [hz, hm, hf, newRow]
    exact fun e => absurd e h2

theorem iv_buildSlice0 {T E : TypeId} {sz : Nat} (hu : ∀ w, (underlying T).run P w = .ok (.slice E) w) (hs : ∀ w, (sizeOf E).run P w = .ok sz w) :
    IV P W0 L M (.buildSlice T 0 #[]) (fun u M' => ∃ b, u = .slice (some ⟨b, 0, none⟩) 0 0 ∧ M' = (b, .cells #[] E (0, 0)) :: M) :=
  iv_new (F := fun b => .slice (some ⟨b, 0, none⟩) 0 0) fun a w o ha hO ho => by
    have h0 : Array.range 0 = #[] := by apply Array.eq_empty_of_size_eq_zero; simp
    simp [execOp, ho, Instr.buildSlice, hu, hs, Instr.fill, newRow, h0]

/-! ### stores -/
theorem iv_upd {op : Op} {i b : Nat} {o1 o' : Obj} (hi : M[i]? = some (b, o1))
    (h : ∀ (a : Act) (w : World) (o : Oper), (∀ x u, opv L x = some u → a.eval x = u) → Own W0 M w → o.op = op → ∃ w', (execOp a.eval o).run P w = .ok .skip w' ∧ Upd w w' b o') :
    IV P W0 L M op (fun _ M' => M' = M.set i (b, o')) := by
  intro a w o Q K ha hO ho hK
  unfold Oper.wp
  obtain ⟨w', hrun, hu⟩ := h a w o ha hO ho
  rw [hrun]
  exact hK _ _ _ rfl (hO.upd hi hu)

theorem iv_store {T : TypeId} {x y : Operand} {i b off : Nat} {cs : Array Value} {E : TypeId} {v : Value} (hx : opv L x = some (.pointer (some ⟨b, off, none⟩))) (hy : opv L y = some v) (h1 : v.oneCell' = true) (hS : ∀ w, (sizeOf T).run P w = .ok 1 w)
    (hi : M[i]? = some (b, .cells cs E (0, 0))) (ho : off < cs.size) : IV P W0 L M (.store T x y) (fun _ M' => M' = M.set i (b, .cells (cs.setIfInBounds off v) E (0, 0))) :=
  iv_upd hi fun a w o ha hO hop => by
    have hh := hO.has b _ (List.mem_of_getElem? hi)
    have hcells : v.cells = #[v] := by cases v <;> first | rfl | cases h1
    have hc : w.cell? ⟨b, off, none⟩ = some cs[off] := by simp [World.cell?, hh, ho]
    have hfz : w.frozen? ⟨b, off, none⟩ = false := by simp [World.frozen?, hh]
    refine ⟨w.setCell ⟨b, off, none⟩ v, ?_, Upd.setCell hh⟩
    have hst := run_store P w ⟨b, off, none⟩ v .plain h1
    rw [hc] at hst
    simp only [hfz] at hst
    simp [execOp, hop, ha _ _ hx, ha _ _ hy, Instr.storeAt, Instr.sureAddr, storeVar, hcells, hS, storeCells, addr_add, hst]

theorem iv_storeA {T : TypeId} {x y : Operand} {i b : Nat} {cs vs : Array Value} {E : TypeId} (hx : opv L x = some (.pointer (some ⟨b, 0, none⟩))) (hy : opv L y = some (.agg vs)) (h1 : vs.all (·.oneCell') = true) (hS : ∀ w, (sizeOf T).run P w = .ok vs.size w)
    (hi : M[i]? = some (b, .cells cs E (0, 0))) (hs : cs.size = vs.size) : IV P W0 L M (.store T x y) (fun _ M' => M' = M.set i (b, .cells vs E (0, 0))) :=
  iv_upd hi fun a w o ha hO hop => by
    have hh := hO.has b _ (List.mem_of_getElem? hi)
    have h1' : ∀ v ∈ vs.toList, v.oneCell' = true := fun v hv => by
      have := Array.all_eq_true_iff_forall_mem.1 h1 v (by simpa using hv)
      exact this
    have hst := run_storeCells_at P b 0 E vs.toList 0 cs w hh (by simp; omega) h1'
    have he : (cs.toList.take (0 + 0) ++ vs.toList ++ cs.toList.drop (0 + 0 + vs.toList.length)).toArray = vs := by
      rw [List.drop_of_length_le (by simp; omega)]
      simp
    rw [he] at hst
    refine ⟨w.setRow b vs, ?_, Upd.setRow hh⟩
    simp [execOp, hop, ha _ _ hx, ha _ _ hy, Instr.storeAt, Instr.sureAddr, storeVar, Value.cells, hS, hst]

end

end Go.Proofs.Ytnnclcfklbeocaa

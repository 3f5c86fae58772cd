/-
  The engine, part 8: a few operations more; how this program's struct types lie.
  No condition: general lemmas.
-/
import Derived.Test.YtnnclcfklbeocaaR0
namespace Go.Proofs.Ytnnclcfklbeocaa
open Go.RowKit

section
variable {P : Program} {W0 : World} {L : Slots} {M : Heap}

theorem iv_boxA {T : TypeId} {x : Operand} {vs : Array Value} (hx : opv L x = some (.agg vs)) : IV P W0 L M (.box T x) (fun u M' => ∃ b, u = ptr b ∧ M' = (b, .cells vs T (0, 0)) :: M) := iv_box hx rfl
theorem iv_box1 {T : TypeId} {x : Operand} {v : Value} (hx : opv L x = some v) (hc : v.cells = #[v]) : IV P W0 L M (.box T x) (fun u M' => ∃ b, u = ptr b ∧ M' = (b, .cells #[v] T (0, 0)) :: M) := iv_box hx hc
theorem iv_makeKV {T : TypeId} : IV P W0 L M (.makeMap T none) (fun u M' => ∃ b, u = .map (some b) ∧ M' = (b, KV.empty.obj) :: M) := iv_makeMap
theorem iv_allocA {T : TypeId} {z : Array Value} (hz : ∀ w, (zeroValue T).run P w = .ok (.agg z) w) : IV P W0 L M (.alloc T) (fun v M' => ∃ b, v = ptr b ∧ M' = (b, .cells z T (0, 0)) :: M) := iv_alloc hz
theorem iv_alloc1 {T : TypeId} {z : Value} (hz : ∀ w, (zeroValue T).run P w = .ok z w) (hc : z.cells = #[z]) : IV P W0 L M (.alloc T) (fun v M' => ∃ b, v = ptr b ∧ M' = (b, .cells #[z] T (0, 0)) :: M) := by
  have := iv_alloc (P := P) (W0 := W0) (L := L) (M := M) hz
  rw [hc] at this
  exact this

theorem qv_strIndex {T : TypeId} {x i : Operand} {k : IntKind} {n : Int} {l : List UInt8} {b : UInt8} (hx : opv L x = some (str l)) (hi : opv L i = some (.int k n)) (hu : ∀ w, (underlying T).run P w = .ok .string w) (h0 : 0 ≤ n) (hb : l[n.toNat]? = some b) : QV P W0 L M (.index T x i) (.int .u8 b.toNat) := fun a w o ha _ ho => by
  have hg : (⟨l.toArray⟩ : ByteArray)[n.toNat]? = some b := by
    have hl := (List.getElem?_eq_some_iff.1 hb).1
    have hs : n.toNat < (⟨l.toArray⟩ : ByteArray).size := by simpa [ByteArray.size] using hl
    rw [getElem?_pos (⟨l.toArray⟩ : ByteArray) n.toNat hs]
    have := (List.getElem?_eq_some_iff.1 hb).2
    simpa [ByteArray.getElem_eq_getElem_data] using this
  have hx' : a.eval x = .string ⟨l.toArray⟩ := ha _ _ hx
  simp only [execOp, ho, hx', ha _ _ hi, Instr.index, asIntOf, Sem.run_bind, Sem.run_pure, Result.andThen_ok, hu]
  rw [if_pos h0, hg]
  rfl

theorem qv_strSlice {T : TypeId} {x lo hi : Operand} {k1 k2 : IntKind} {m n : Int} {l : List UInt8} (hx : opv L x = some (str l)) (hlo : opv L lo = some (.int k1 m)) (hhi : opv L hi = some (.int k2 n)) (hu : ∀ w, (underlying T).run P w = .ok .string w) (h0 : 0 ≤ m) (h1 : m ≤ n) (h2 : n ≤ l.length) :
    QV P W0 L M (.slice T x (some lo) (some hi) none) (str ((l.take n.toNat).drop m.toNat)) := fun a w o ha _ ho => by
  have hx' : a.eval x = .string ⟨l.toArray⟩ := ha _ _ hx
  have hs : (⟨l.toArray⟩ : ByteArray).size = l.length := by simp [ByteArray.size]
  have he : (⟨l.toArray⟩ : ByteArray).extract m.toNat n.toNat = ⟨((l.take n.toNat).drop m.toNat).toArray⟩ := by
    apply ByteArray.ext
    simp [List.drop_take]
  have hn0 : 0 ≤ n := by omega
  simp [execOp, ho, hx', ha _ _ hlo, ha _ _ hhi, Instr.sliceAt, hu, Instr.slice, Instr.sliceBounds, Instr.sliceBound, asIntOf, hs, h0, h2, hn0, he, str]
  exact fun h => absurd h (by omega)

theorem qv_strTake {T : TypeId} {x hi : Operand} {k2 : IntKind} {n : Int} {l : List UInt8} (hx : opv L x = some (str l)) (hhi : opv L hi = some (.int k2 n)) (hu : ∀ w, (underlying T).run P w = .ok .string w) (h1 : 0 ≤ n) (h2 : n ≤ l.length) :
    QV P W0 L M (.slice T x none (some hi) none) (str (l.take n.toNat)) := fun a w o ha _ ho => by
  have hx' : a.eval x = .string ⟨l.toArray⟩ := ha _ _ hx
  have hs : (⟨l.toArray⟩ : ByteArray).size = l.length := by simp [ByteArray.size]
  have he : (⟨l.toArray⟩ : ByteArray).extract 0 n.toNat = ⟨(l.take n.toNat).toArray⟩ := by
    apply ByteArray.ext
    simp
  simp [execOp, ho, hx', ha _ _ hhi, Instr.sliceAt, hu, Instr.slice, Instr.sliceBounds, Instr.sliceBound, asIntOf, hs, h1, h2, he, str]
end

/-- A region that draws; what is read is what is owned as it begins. -/
theorem c_drawM {P : Program} {W0 : World} {n : Nat} {Q : Exit → Act → World → Prop} {L : Slots} {M : Heap} {id : Nat} {l : List Oper} (need : Nat → Bool) (hm : P.follows .mixedOrders = true) (h : D P W0 n l.toArray Q M need l.length (Array.replicate l.length false) L M) : C P W0 n Q L M (.region id l.toArray true) := c_draw M need hm h

/-- An integer that fits. -/
theorem wrap_i64 {n : Int} (h1 : -9223372036854775808 ≤ n) (h2 : n ≤ 9223372036854775807) : IntKind.i64.wrap n = n := by
  rw [IntKind.wrap_i64]; omega

theorem lay40 : Lay Try.prog 40 (sCells 0 false 0 [] nilS nilM) [(0, 1), (1, 1), (2, 1), (3, 1), (4, 1), (5, 1), (6, 1)] :=
  ⟨Try.zeroValue40, _, Try.runUnderlying40, fun w => by simp [Try.sizeOf3, Try.sizeOf4, Try.sizeOf2, Try.sizeOf29, Try.sizeOf9, Try.sizeOf37, Try.sizeOf38]⟩
theorem lay32 : Lay Try.prog 32 (dCells 0 false 0 [] nilS nilS) [(0, 1), (1, 1), (2, 1), (3, 1), (4, 1), (5, 1), (6, 1)] :=
  ⟨Try.zeroValue32, _, Try.runUnderlying32, fun w => by simp [Try.sizeOf3, Try.sizeOf4, Try.sizeOf2, Try.sizeOf29, Try.sizeOf9, Try.sizeOf30, Try.sizeOf27]⟩
theorem lay107 : Lay Try.prog 107 #[str []] [(0, 1)] := ⟨Try.zeroValue107, _, Try.runUnderlying107, fun w => by simp [Try.sizeOf9]⟩
theorem lay118 : Lay Try.prog 118 #[str []] [(0, 1)] := ⟨Try.zeroValue118, _, Try.runUnderlying118, fun w => by simp [Try.sizeOf9]⟩
theorem info27 : Try.prog.info? 27 = some Try.t27 := by kernel_rfl
theorem info9 : Try.prog.info? 9 = some Try.t9 := by kernel_rfl
theorem info32 : Try.prog.info? 32 = some Try.t32 := by kernel_rfl
theorem info24 : Try.prog.info? 24 = some Try.t24 := by kernel_rfl
theorem info20 : Try.prog.info? 20 = some Try.t20 := by kernel_rfl

end Go.Proofs.Ytnnclcfklbeocaa

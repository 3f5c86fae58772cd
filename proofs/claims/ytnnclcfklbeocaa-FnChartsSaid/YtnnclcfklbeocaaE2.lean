/-
  The engine, part 2: the operations that only compute or read, and those that make or write cells.
  No condition: general lemmas.
-/
import Derived.Test.YtnnclcfklbeocaaE1
namespace Go.Proofs.Ytnnclcfklbeocaa
open Go.RowKit

/-- A text as a value. -/
def str (l : List UInt8) : Value := .string ⟨l.toArray⟩

section
variable {P : Program} {W0 : World} {L : Slots} {M : Heap}

theorem QV.of {op : Op} {v : Value} (h : ∀ (a : Act) (w : World) (o : Oper), (∀ x u, opv L x = some u → a.eval x = u) → Rd W0 M w → o.op = op → (execOp a.eval o).run P w = .ok (.value v) w) : QV P W0 L M op v := h

theorem qv_move {x : Operand} {v : Value} (h : opv L x = some v) : QV P W0 L M (.move x) v := fun a w o ha _ ho => by simp [execOp, ho, ha _ _ h]
theorem qv_assign {x : Operand} {v : Value} (h : opv L x = some v) : QV P W0 L M (.assign x) v := fun a w o ha _ ho => by simp [execOp, ho, ha _ _ h]
theorem qv_pick_t {c x y : Operand} {v : Value} (hc : opv L c = some (.bool true)) (h : opv L x = some v) : QV P W0 L M (.pick c x y) v := fun a w o ha _ ho => by simp [execOp, ho, ha _ _ h, ha _ _ hc, asBool]
theorem qv_pick_f {c x y : Operand} {v : Value} (hc : opv L c = some (.bool false)) (h : opv L y = some v) : QV P W0 L M (.pick c x y) v := fun a w o ha _ ho => by simp [execOp, ho, ha _ _ h, ha _ _ hc, asBool]
theorem qv_extract {x : Operand} {i : Nat} {vs : Array Value} {v : Value} (hx : opv L x = some (.tuple vs)) (h : vs.toList[i]? = some v) : QV P W0 L M (.extract x i) v := fun a w o ha _ ho => by
  have h' : vs[i]? = some v := by rw [← Array.getElem?_toList]; exact h
  simp [execOp, ho, ha _ _ hx, Instr.extract, h']
theorem qv_iface {T : TypeId} {d : TypeDesc} {x : Operand} {v : Value} (hu : ∀ w, (underlying T).run P w = .ok d w) (hd : ∀ ms, d ≠ .interface ms) (hx : opv L x = some v) : QV P W0 L M (.makeInterface T x) (.iface T v) := fun a w o ha _ ho => by
  simp [execOp, ho, ha _ _ hx, Instr.makeInterface, hu]
theorem qv_nil {x : Operand} {p : Addr} (hx : opv L x = some (.pointer (some p))) : QV P W0 L M (.nilCheck x) (.pointer (some p)) := fun a w o ha _ ho => by
  simp [execOp, ho, ha _ _ hx]
theorem qv_func {fn : Fn} {xs : List Operand} {vs : List Value} (hv : Args L xs vs) : QV P W0 L M (.makeFunc fn #[] xs.toArray) (.func fn #[] vs.toArray) := fun a w o ha _ ho => by
  simp [execOp, ho, Instr.makeFunc, hv.map ha]
theorem qv_field {S : TypeId} {x : Operand} {i : Nat} {fs : Array Field} {f : Field} {k b off : Nat} (hx : opv L x = some (.pointer (some ⟨b, off, none⟩))) (hu : ∀ w, (underlying S).run P w = .ok (.struct fs) w) (hf : fs[i]? = some f)
    (hs : ∀ w, (sizeOf f.type).run P w = .ok k w) (hk : Nat.beq k 0 = false) : QV P W0 L M (.fieldAddr S x i) (.pointer (some ⟨b, off + f.offset, none⟩)) := fun a w o ha _ ho => by
  have h0 : ¬ k = 0 := fun e => by subst e; cases hk
  simp [execOp, ho, ha _ _ hx, Instr.fieldAt, hu, hf, Instr.sureAddr, fieldPlace, hs, h0, addr_add]
theorem qv_index {T E : TypeId} {x i : Operand} {k : IntKind} {n : Int} {sz b off len cap : Nat} (hx : opv L x = some (.slice (some ⟨b, off, none⟩) len cap)) (hi : opv L i = some (.int k n)) (hu : ∀ w, (underlying T).run P w = .ok (.slice E) w)
    (hs : ∀ w, (sizeOf E).run P w = .ok sz w) (h0 : 0 ≤ n) (hn : n < len) : QV P W0 L M (.indexAddr T x i) (.pointer (some ⟨b, off + n.toNat * sz, none⟩)) := fun a w o ha _ ho => by
  simp [execOp, ho, ha _ _ hx, ha _ _ hi, Instr.indexAt, asIntOf, hu, hs, h0, hn, addr_add]
theorem qv_load {T : TypeId} {x : Operand} {b off : Nat} {cs : Array Value} {E : TypeId} {fz : Nat × Nat} {v : Value} (hx : opv L x = some (.pointer (some ⟨b, off, none⟩))) (hA : ∀ w, (isAgg T).run P w = .ok false w) (hm : (b, Obj.cells cs E fz) ∈ M) (hv : cs.toList[off]? = some v) :
    QV P W0 L M (.load T x) v := fun a w o ha hr ho => by
  have hv' : cs[off]? = some v := by rw [← Array.getElem?_toList]; exact hv
  have hc := hr.cell (off := off) hm
  rw [hv'] at hc
  simp [execOp, ho, ha _ _ hx, Instr.loadAt, Instr.sureAddr, loadVar, hA, hc]
theorem qv_load_old {T : TypeId} {x : Operand} {p : Addr} {v : Value} (hx : opv L x = some (.pointer (some p))) (hA : ∀ w, (isAgg T).run P w = .ok false w) (hp : p.block < W0.heap.size) (hv : W0.cell? p = some v) : QV P W0 L M (.load T x) v := fun a w o ha hr ho => by
  have hc : w.cell? p = some v := (World.cell?_of_block (hr.old p.block hp)).trans hv
  simp [execOp, ho, ha _ _ hx, Instr.loadAt, Instr.sureAddr, loadVar, hA, hc]
theorem qv_loadA {T : TypeId} {x : Operand} {b off : Nat} {cs : Array Value} {E : TypeId} {fz : Nat × Nat} {vs : List Value} (hx : opv L x = some (.pointer (some ⟨b, off, none⟩))) (hA : ∀ w, (isAgg T).run P w = .ok true w) (hS : ∀ w, (sizeOf T).run P w = .ok vs.length w)
    (hm : (b, Obj.cells cs E fz) ∈ M) (hv : ∀ j u, vs[j]? = some u → cs[off + j]? = some u) : QV P W0 L M (.load T x) (.agg vs.toArray) := fun a w o ha hr ho => by
  simp [execOp, ho, ha _ _ hx, Instr.loadAt, Instr.sureAddr, run_loadVar_agg hr hA hS hm hv]
theorem qv_len_slice {T E : TypeId} {x : Operand} {p : Option Addr} {n c : Nat} (hx : opv L x = some (.slice p n c)) (hu : ∀ w, (underlying T).run P w = .ok (.slice E) w) : QV P W0 L M (.call { callee := .builtin .len, args := #[x], argTypes := #[T] }) (.int .i64 n) := fun a w o ha _ ho => by
  simp [execOp, ho, ha _ _ hx, resolve, invoke, builtin, Builtin.len_, hu, goInt]
theorem qv_len_string {T : TypeId} {x : Operand} {s : ByteArray} (hx : opv L x = some (.string s)) (hu : ∀ w, (underlying T).run P w = .ok .string w) : QV P W0 L M (.call { callee := .builtin .len, args := #[x], argTypes := #[T] }) (.int .i64 s.size) := fun a w o ha _ ho => by
  simp [execOp, ho, ha _ _ hx, resolve, invoke, builtin, Builtin.len_, hu, goInt]
theorem qv_not {T : TypeId} {x : Operand} {b : Bool} (hx : opv L x = some (.bool b)) : QV P W0 L M (.unOp .not T x) (.bool (!b)) := fun a w o ha _ ho => by simp [execOp, ho, ha _ _ hx, Op.unary]
theorem qv_conv {S D : TypeId} {d : TypeDesc} {j k : IntKind} {x : Operand} {n m : Int} (hx : opv L x = some (.int j n)) (hs : ∀ w, (underlying S).run P w = .ok d w) (hd : ∀ w, (underlying D).run P w = .ok (.int k) w) (hm : k.wrap n = m) : QV P W0 L M (.convert S D x) (.int k m) := fun a w o ha _ ho => by
  simp [execOp, ho, ha _ _ hx, convert, hs, hd, Conv.intToInt, hm]

/-! ### two operands -/
theorem qv_bin {op : BinOp} {T T' : TypeId} {x y : Operand} {u v r : Value} (hx : opv L x = some u) (hy : opv L y = some v) (hr : ∀ w, (do eqGuard op T x y u v; binOp op T u v : Sem Value).run P w = .ok r w) : QV P W0 L M (.binOp op T x y T') r := fun a w o ha _ ho => by
  have := hr w
  simp only [execOp, ho, ha _ _ hx, ha _ _ hy]
  rw [Sem.run_bind]
  rw [this]
  rfl
section
variable {T T' : TypeId} {x y : Operand} {k : IntKind} {a b c : Int}
theorem guard_int {op : BinOp} (w : World) : (eqGuard op T x y (.int k a) (.int k b)).run P w = .ok () w := by unfold eqGuard; cases op <;> rfl
theorem guard_string {op : BinOp} {s t : ByteArray} (w : World) : (eqGuard op T x y (.string s) (.string t)).run P w = .ok () w := by unfold eqGuard; cases op <;> rfl
theorem guard_bool {op : BinOp} {s t : Bool} (w : World) : (eqGuard op T x y (.bool s) (.bool t)).run P w = .ok () w := by unfold eqGuard; cases op <;> rfl
theorem qv_lss (hx : opv L x = some (.int k a)) (hy : opv L y = some (.int k b)) : QV P W0 L M (.binOp .lss T x y T') (.bool (decide (a < b))) := qv_bin hx hy fun w => by simp [guard_int, binOp, Op.intCmp]
theorem qv_gtr (hx : opv L x = some (.int k a)) (hy : opv L y = some (.int k b)) : QV P W0 L M (.binOp .gtr T x y T') (.bool (decide (b < a))) := qv_bin hx hy fun w => by simp [guard_int, binOp, Op.intCmp]
theorem qv_eqi (hx : opv L x = some (.int k a)) (hy : opv L y = some (.int k b)) : QV P W0 L M (.binOp .eql T x y T') (.bool (decide (a = b))) := qv_bin hx hy fun w => by
  simp [guard_int, binOp, Op.intCmp]
  by_cases h : a = b <;> simp [h]
theorem qv_nei (hx : opv L x = some (.int k a)) (hy : opv L y = some (.int k b)) : QV P W0 L M (.binOp .neq T x y T') (.bool (!decide (a = b))) := qv_bin hx hy fun w => by
  simp [guard_int, binOp, Op.intCmp]
  by_cases h : a = b <;> simp [h]
theorem qv_add (hx : opv L x = some (.int k a)) (hy : opv L y = some (.int k b)) (hc : k.wrap (a + b) = c) : QV P W0 L M (.binOp .add T x y T') (.int k c) := qv_bin hx hy fun w => by simp [guard_int, binOp, Op.intArith, hc]
theorem qv_sub (hx : opv L x = some (.int k a)) (hy : opv L y = some (.int k b)) (hc : k.wrap (a - b) = c) : QV P W0 L M (.binOp .sub T x y T') (.int k c) := qv_bin hx hy fun w => by simp [guard_int, binOp, Op.intArith, hc]
theorem qv_mul (hx : opv L x = some (.int k a)) (hy : opv L y = some (.int k b)) (hc : k.wrap (a * b) = c) : QV P W0 L M (.binOp .mul T x y T') (.int k c) := qv_bin hx hy fun w => by simp [guard_int, binOp, Op.intArith, hc]
theorem qv_rem (hx : opv L x = some (.int k a)) (hy : opv L y = some (.int k b)) (hb : b ≠ 0) (hc : a.tmod b = c) : QV P W0 L M (.binOp .rem T x y T') (.int k c) := qv_bin hx hy fun w => by simp [guard_int, binOp, Op.intDiv, hb, hc]
theorem qv_quo (hx : opv L x = some (.int k a)) (hy : opv L y = some (.int k b)) (hb : b ≠ 0) (hc : k.wrap (a.tdiv b) = c) : QV P W0 L M (.binOp .quo T x y T') (.int k c) := qv_bin hx hy fun w => by simp [guard_int, binOp, Op.intDiv, hb, hc]
theorem qv_and (hx : opv L x = some (.int k a)) (hy : opv L y = some (.int k b)) (hc : ∀ w, (Op.intBits .and k a b).run P w = .ok (.int k c) w) : QV P W0 L M (.binOp .and T x y T') (.int k c) := qv_bin hx hy fun w => by simp [guard_int, binOp, hc]
theorem qv_shr {k' : IntKind} (hx : opv L x = some (.int k a)) (hy : opv L y = some (.int k' b)) (hb : ¬ b < 0) (hc : a.fdiv (2 ^ (min b.toNat k.bits)) = c) : QV P W0 L M (.binOp .shr T x y T') (.int k c) := qv_bin hx hy fun w => by
  have hg : (eqGuard .shr T x y (.int k a) (.int k' b)).run P w = .ok () w := rfl
  simp [hg, binOp, Op.shift, hb, hc]

/-! ### texts -/
theorem toList_mk (l : List UInt8) : (⟨l.toArray⟩ : ByteArray).toList = l := ByteArray.toList_mk l
theorem str_inj {l l' : List UInt8} (h : str l = str l') : l = l' := by
  unfold str at h
  injection h with h
  injection h with h
  simpa using congrArg Array.toList h
theorem qv_eqs {s t : List UInt8} (hx : opv L x = some (str s)) (hy : opv L y = some (str t)) : QV P W0 L M (.binOp .eql T x y T') (.bool (s == t)) := qv_bin hx hy fun w => by
  unfold str
  simp [guard_string, binOp, Op.stringOp]
theorem qv_nes {s t : List UInt8} (hx : opv L x = some (str s)) (hy : opv L y = some (str t)) : QV P W0 L M (.binOp .neq T x y T') (.bool (!(s == t))) := qv_bin hx hy fun w => by
  unfold str
  simp [guard_string, binOp, Op.stringOp]
theorem qv_lts {s t : List UInt8} (hx : opv L x = some (str s)) (hy : opv L y = some (str t)) : QV P W0 L M (.binOp .lss T x y T') (.bool (Op.bytesLess s t)) := qv_bin hx hy fun w => by
  unfold str
  simp [guard_string, binOp, Op.stringOp]
theorem qv_gts {s t : List UInt8} (hx : opv L x = some (str s)) (hy : opv L y = some (str t)) : QV P W0 L M (.binOp .gtr T x y T') (.bool (!(Op.bytesLess s t || s == t))) := qv_bin hx hy fun w => by
  unfold str
  simp [guard_string, binOp, Op.stringOp]
theorem qv_adds {s t : List UInt8} (hx : opv L x = some (str s)) (hy : opv L y = some (str t)) (hl : s.length + t.length ≤ 9223372036854775807) : QV P W0 L M (.binOp .add T x y T') (str (s ++ t)) := qv_bin hx hy fun w => by
  have h1 : ¬ ((s.length + t.length : Nat) : Int) > IntKind.i64.max := by
    have : IntKind.i64.max = 9223372036854775807 := by decide
    omega
  have h2 : (⟨s.toArray⟩ : ByteArray) ++ ⟨t.toArray⟩ = ⟨(s ++ t).toArray⟩ := by
    apply ByteArray.ext
    simp
  unfold str
  simp only [guard_string, Sem.run_bind, Result.andThen_ok, binOp, Op.stringOp]
  have hs : (⟨s.toArray⟩ : ByteArray).size = s.length := by simp [ByteArray.size]
  have ht : (⟨t.toArray⟩ : ByteArray).size = t.length := by simp [ByteArray.size]
  rw [hs, ht, if_neg h1, h2]
  rfl

/-! ### nothing -/
theorem run_eq_nil_iface {E : TypeId} {ms : Array (String × TypeId)} (hu : ∀ w, (underlying E).run P w = .ok (.interface ms) w) {v : Value} (hv : v = .nilIface ∨ ∃ t u, v = .iface t u) (w : World) :
    (Op.equal E v .nilIface).run P w = .ok (match v with | .nilIface => true | _ => false) w := by
  have h : ∀ d : Nat, (Op.equalIn (d + 1) E v .nilIface).run P w = .ok (match v with | .nilIface => true | _ => false) w := fun d => by
    rcases hv with rfl | ⟨t, u, rfl⟩ <;> simp [Op.equalIn, hu]
  exact h 9999
theorem qv_eqn {E : TypeId} {ms : Array (String × TypeId)} {v : Value} (hu : ∀ w, (underlying E).run P w = .ok (.interface ms) w) (hx : opv L x = some v) (hv : v = .nilIface ∨ ∃ t u, v = .iface t u) :
    QV P W0 L M (.binOp .eql E x (.const .nilIface) T') (.bool (match v with | .nilIface => true | _ => false)) := qv_bin hx rfl fun w => by
  have hg : (eqGuard .eql E x (.const .nilIface) v .nilIface).run P w = .ok () w := by
    rcases hv with rfl | ⟨t, u, rfl⟩ <;> simp [eqGuard]
  have he := run_eq_nil_iface hu hv w
  rcases hv with rfl | ⟨t, u, rfl⟩ <;> simp [hg, binOp, he]
theorem qv_nen {E : TypeId} {ms : Array (String × TypeId)} {v : Value} (hu : ∀ w, (underlying E).run P w = .ok (.interface ms) w) (hx : opv L x = some v) (hv : v = .nilIface ∨ ∃ t u, v = .iface t u) :
    QV P W0 L M (.binOp .neq E x (.const .nilIface) T') (.bool (match v with | .nilIface => false | _ => true)) := qv_bin hx rfl fun w => by
  have hg : (eqGuard .neq E x (.const .nilIface) v .nilIface).run P w = .ok () w := by
    rcases hv with rfl | ⟨t, u, rfl⟩ <;> simp [eqGuard]
  have he := run_eq_nil_iface hu hv w
  rcases hv with rfl | ⟨t, u, rfl⟩ <;> simp [hg, binOp, he]
theorem qv_eqp {E E' : TypeId} {p : Option Addr} (hu : ∀ w, (underlying E).run P w = .ok (.pointer E') w) (hx : opv L x = some (.pointer p)) : QV P W0 L M (.binOp .eql E x (.const (.pointer none)) T') (.bool p.isNone) := qv_bin hx rfl fun w => by
  have hg : (eqGuard .eql E x (.const (.pointer none)) (.pointer p) (.pointer none)).run P w = .ok () w := by unfold eqGuard; rfl
  have h : ∀ d : Nat, (Op.equalIn (d + 1) E (.pointer p) (.pointer none)).run P w = .ok p.isNone w := fun d => by
    cases p <;> simp [Op.equalIn, hu]
  have he : (Op.equal E (.pointer p) (.pointer none)).run P w = .ok p.isNone w := h 9999
  simp [hg, binOp, he]
theorem qv_eqm {E K V : TypeId} {p : Option Nat} (hu : ∀ w, (underlying E).run P w = .ok (.map K V) w) (hx : opv L x = some (.map p)) : QV P W0 L M (.binOp .eql E x (.const (.map none)) T') (.bool p.isNone) := qv_bin hx rfl fun w => by
  have hg : (eqGuard .eql E x (.const (.map none)) (.map p) (.map none)).run P w = .ok () w := by unfold eqGuard; rfl
  have h : ∀ d : Nat, (Op.equalIn (d + 1) E (.map p) (.map none)).run P w = .ok p.isNone w := fun d => by
    cases p <;> simp [Op.equalIn, hu]
  have he : (Op.equal E (.map p) (.map none)).run P w = .ok p.isNone w := h 9999
  simp [hg, binOp, he]
theorem qv_eqsl {E K : TypeId} {p : Option Addr} {n c : Nat} (hu : ∀ w, (underlying E).run P w = .ok (.slice K) w) (hx : opv L x = some (.slice p n c)) : QV P W0 L M (.binOp .eql E x (.const (.slice none 0 0)) T') (.bool p.isNone) := qv_bin hx rfl fun w => by
  have hg : (eqGuard .eql E x (.const (.slice none 0 0)) (.slice p n c) (.slice none 0 0)).run P w = .ok () w := by unfold eqGuard; rfl
  have h : ∀ d : Nat, (Op.equalIn (d + 1) E (.slice p n c) (.slice none 0 0)).run P w = .ok p.isNone w := fun d => by
    cases p <;> simp [Op.equalIn, hu]
  have he : (Op.equal E (.slice p n c) (.slice none 0 0)).run P w = .ok p.isNone w := h 9999
  simp [hg, binOp, he]
theorem qv_eqb {E : TypeId} {b c : Bool} (hu : ∀ w, (underlying E).run P w = .ok .bool w) (hx : opv L x = some (.bool b)) (hy : opv L y = some (.bool c)) : QV P W0 L M (.binOp .eql E x y T') (.bool (b == c)) := qv_bin hx hy fun w => by
  have h : ∀ d : Nat, (Op.equalIn (d + 1) E (.bool b) (.bool c)).run P w = .ok (b == c) w := fun d => by simp [Op.equalIn, hu]
  have he : (Op.equal E (.bool b) (.bool c)).run P w = .ok (b == c) w := h 9999
  simp [guard_bool, binOp, he]
end

/-! ### a value seen through an interface -/
theorem qv_is {S T : TypeId} {d : TypeDesc} {x : Operand} {v : Value} (hx : opv L x = some (.iface T v)) (hu : ∀ w, (underlying T).run P w = .ok d w) (hd : ∀ ms, d ≠ .interface ms) : QV P W0 L M (.typeAssert x S T true) (.tuple #[v, .bool true]) := fun a w o ha _ ho => by
  simp only [execOp, ho, ha _ _ hx, Instr.typeAssert, Sem.run_bind, hu, Result.andThen_ok]
  cases d <;> first | rfl | (exact absurd rfl (hd _)) | simp
theorem qv_isnt {S T T' : TypeId} {d : TypeDesc} {x : Operand} {v z : Value} (hx : opv L x = some (.iface T' v)) (hne : Nat.beq T' T = false) (hu : ∀ w, (underlying T).run P w = .ok d w) (hd : ∀ ms, d ≠ .interface ms) (hz : ∀ w, (zeroValue T).run P w = .ok z w) :
    QV P W0 L M (.typeAssert x S T true) (.tuple #[z, .bool false]) := fun a w o ha _ ho => by
  have h : ¬ T' = T := fun e => by
    subst e
    rw [Nat.beq_refl] at hne
    cases hne
  simp only [execOp, ho, ha _ _ hx, Instr.typeAssert, Sem.run_bind, hu, Result.andThen_ok]
  cases d <;> first | (exact absurd rfl (hd _)) | simp [h, hz]
theorem qv_isnt_nil {S T : TypeId} {d : TypeDesc} {x : Operand} {z : Value} (hx : opv L x = some .nilIface) (hu : ∀ w, (underlying T).run P w = .ok d w) (hd : ∀ ms, d ≠ .interface ms) (hz : ∀ w, (zeroValue T).run P w = .ok z w) :
    QV P W0 L M (.typeAssert x S T true) (.tuple #[z, .bool false]) := fun a w o ha _ ho => by
  simp only [execOp, ho, ha _ _ hx, Instr.typeAssert, Sem.run_bind, hu, Result.andThen_ok]
  cases d <;> first | (exact absurd rfl (hd _)) | simp [hz]
theorem qv_as {S T : TypeId} {d : TypeDesc} {x : Operand} {v : Value} (hx : opv L x = some (.iface T v)) (hu : ∀ w, (underlying T).run P w = .ok d w) (hd : ∀ ms, d ≠ .interface ms) : QV P W0 L M (.typeAssert x S T false) v := fun a w o ha _ ho => by
  simp only [execOp, ho, ha _ _ hx, Instr.typeAssert, Sem.run_bind, hu, Result.andThen_ok]
  cases d <;> first | rfl | (exact absurd rfl (hd _)) | simp
end

end Go.Proofs.Ytnnclcfklbeocaa

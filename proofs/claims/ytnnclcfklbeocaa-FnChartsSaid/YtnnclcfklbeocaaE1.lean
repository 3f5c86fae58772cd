/-
  The engine, part 1: walking code. 'G': a list of operations, 'C': a piece of code, 'E': a way out of it, from whatever frame and memory fit; 'Tri': a call.
  No condition: definitions and general lemmas.
-/
import Derived.Test.YtnnclcfklbeocaaE0
namespace Go.Proofs.Ytnnclcfklbeocaa
open Go.RowKit

structure G (P : Program) (W0 : World) (n : Nat) (ops : Array Oper) (Q : Exit → Act → World → Prop) (L : Slots) (M : Heap) (l : List Oper) : Prop where
  run : ∀ a w, St n L a → Own W0 M w → wpList P ops Q l a w
structure C (P : Program) (W0 : World) (n : Nat) (Q : Exit → Act → World → Prop) (L : Slots) (M : Heap) (c : Code) : Prop where
  run : ∀ a w, St n L a → Own W0 M w → c.wp P Q a w
structure E (W0 : World) (n : Nat) (Q : Exit → Act → World → Prop) (L : Slots) (M : Heap) (e : Exit) : Prop where
  run : ∀ a w, St n L a → Own W0 M w → Q e a w

section
variable {P : Program} {W0 : World} {n : Nat} {ops : Array Oper} {Q : Exit → Act → World → Prop} {L : Slots} {M : Heap}

/-! ### operations, one behind the other -/
theorem g_nil (h : E W0 n Q L M .normal) : G P W0 n ops Q L M [] := ⟨fun a w ha hw => h.run a w ha hw⟩

theorem g_i {op : Op} {R : Value → Heap → Prop} {d : Nat} {ty : TypeId} {pos : String} {aft : Array Edge} {rest : List Oper} (h : IV P W0 L M op R) (hd : Nat.blt d n = true)
    (k : ∀ v M', R v M' → G P W0 n ops Q ((d, v) :: L) M' rest) : G P W0 n ops Q L M (⟨some d, op, ty, pos, aft, none⟩ :: rest) := by
  refine ⟨fun a w ha hw => wpList_plain rfl fun K hK => ?_⟩
  exact h a w _ Q K (fun x u hx => ha.eval hx) hw rfl fun v M' w' hR hO => hK _ _ ((k v M' hR).run _ _ (ha.put hd v) hO)

theorem g_i0 {op : Op} {R : Value → Heap → Prop} {ty : TypeId} {pos : String} {aft : Array Edge} {rest : List Oper} (h : IV P W0 L M op R)
    (k : ∀ v M', R v M' → G P W0 n ops Q L M' rest) : G P W0 n ops Q L M (⟨none, op, ty, pos, aft, none⟩ :: rest) := by
  refine ⟨fun a w ha hw => wpList_plain rfl fun K hK => ?_⟩
  exact h a w _ Q K (fun x u hx => ha.eval hx) hw rfl fun v M' w' hR hO => hK _ _ ((k v M' hR).run _ _ (ha.put_none v) hO)

theorem g_q {op : Op} {v : Value} {d : Nat} {ty : TypeId} {pos : String} {aft : Array Edge} {rest : List Oper} (h : QV P W0 L M op v) (hd : Nat.blt d n = true)
    (k : G P W0 n ops Q ((d, v) :: L) M rest) : G P W0 n ops Q L M (⟨some d, op, ty, pos, aft, none⟩ :: rest) :=
  g_i h.iv hd fun u M' ⟨hu, hM⟩ => by subst hu; subst hM; exact k

theorem yielded_of {a : Act} {j dj : Nat} {b : Bool} (hj : (ops[j]?).bind (·.dst) = some dj) (hb : a.tmps[dj]? = some (.bool b)) : yielded ops a.tmps j = some b := by
  unfold yielded
  rw [hj]
  simp only [Option.bind_some, hb]

/-- The guard says yes. -/
theorem g_on {op : Op} {dst : Option Tmp} {ty : TypeId} {pos : String} {aft : Array Edge} {rest : List Oper} {j dj : Nat} {want : Bool} (hj : (ops[j]?).bind (·.dst) = some dj) (hl : look L dj = some (.bool want))
    (k : G P W0 n ops Q L M (⟨dst, op, ty, pos, aft, none⟩ :: rest)) : G P W0 n ops Q L M (⟨dst, op, ty, pos, aft, some (j, want)⟩ :: rest) := by
  refine ⟨fun a w ha hw => ?_⟩
  have h := k.run a w ha hw
  have hy := yielded_of (a := a) hj (ha.got _ _ hl)
  have hwt : Region.wanted (⟨dst, op, ty, pos, aft, some (j, want)⟩ : Oper) (yielded ops a.tmps) = true := by simp [Region.wanted, hy]
  have hwn : Region.wanted (⟨dst, op, ty, pos, aft, none⟩ : Oper) (yielded ops a.tmps) = true := rfl
  unfold wpList at h ⊢
  rw [if_pos hwn] at h
  rw [if_pos hwt]
  exact h

/-- The guard says no. -/
theorem g_off {op : Op} {d : Nat} {ty : TypeId} {pos : String} {aft : Array Edge} {rest : List Oper} {j dj : Nat} {want b : Bool} (hj : (ops[j]?).bind (·.dst) = some dj) (hl : look L dj = some (.bool b)) (hne : (b == want) = false) (hd : Nat.blt d n = true)
    (k : G P W0 n ops Q ((d, undef) :: L) M rest) : G P W0 n ops Q L M (⟨some d, op, ty, pos, aft, some (j, want)⟩ :: rest) := by
  refine ⟨fun a w ha hw => ?_⟩
  have hy := yielded_of (a := a) hj (ha.got _ _ hl)
  refine wpList_skip ?_ (k.run _ w (ha.put hd undef) hw)
  simp only [Region.wanted, hy]
  cases b <;> cases want <;> first | rfl | (exact absurd hne (by decide))

theorem g_keep {L' : Slots} {l : List Oper} (hk : Keep L L') (k : G P W0 n ops Q L' M l) : G P W0 n ops Q L M l := ⟨fun a w ha hw => k.run a w (ha.keep hk) hw⟩
theorem g_perm {M' : Heap} {l : List Oper} (hp : M.Perm M') (k : G P W0 n ops Q L M' l) : G P W0 n ops Q L M l := ⟨fun a w ha hw => k.run a w ha (hw.perm hp)⟩
theorem g_drop {M' : Heap} {l : List Oper} (hp : M'.Sublist M) (k : G P W0 n ops Q L M' l) : G P W0 n ops Q L M l := ⟨fun a w ha hw => k.run a w ha (hw.sublist hp)⟩

/-! ### code -/
theorem c_seq {x y : Code} (h : C P W0 n (Exit.then (fun a w => y.wp P Q a w) Q) L M x) : C P W0 n Q L M (.seq x y) := ⟨fun a w ha hw => wp_seq (h.run a w ha hw)⟩
theorem c_region {id : Nat} {l : List Oper} (h : G P W0 n l.toArray Q L M l) : C P W0 n Q L M (.region id l.toArray false) := ⟨fun a w ha hw => wp_region_lit (h.run a w ha hw)⟩
theorem c_block {id : Nat} {c : Code} (h : C P W0 n (Exit.inBlock id Q) L M c) : C P W0 n Q L M (.block id c) := ⟨fun a w ha hw => wp_block (h.run a w ha hw)⟩
theorem c_skip (h : E W0 n Q L M .normal) : C P W0 n Q L M .skip := ⟨fun a w ha hw => wp_skip (h.run a w ha hw)⟩
theorem c_exit {id : Nat} (h : E W0 n Q L M (.exit id)) : C P W0 n Q L M (.exit id) := ⟨fun a w ha hw => wp_exit (h.run a w ha hw)⟩
theorem c_ret (h : E W0 n Q L M .ret) : C P W0 n Q L M .ret := ⟨fun a w ha hw => wp_ret (h.run a w ha hw)⟩
theorem c_true {c : Operand} {x y : Code} (hc : opv L c = some (.bool true)) (h : C P W0 n Q L M x) : C P W0 n Q L M (.cond c x y) := ⟨fun a w ha hw => wp_cond_true (ha.eval hc) (h.run a w ha hw)⟩
theorem c_false {c : Operand} {x y : Code} (hc : opv L c = some (.bool false)) (h : C P W0 n Q L M y) : C P W0 n Q L M (.cond c x y) := ⟨fun a w ha hw => wp_cond_false (ha.eval hc) (h.run a w ha hw)⟩
theorem c_cond {c : Operand} {x y : Code} {b : Bool} (hc : opv L c = some (.bool b)) (h1 : b = true → C P W0 n Q L M x) (h2 : b = false → C P W0 n Q L M y) : C P W0 n Q L M (.cond c x y) :=
  ⟨fun a w ha hw => wp_cond_split (ha.eval hc) (fun hb => (h1 hb).run a w ha hw) (fun hb => (h2 hb).run a w ha hw)⟩
theorem c_keep {L' : Slots} {c : Code} (hk : Keep L L') (k : C P W0 n Q L' M c) : C P W0 n Q L M c := ⟨fun a w ha hw => k.run a w (ha.keep hk) hw⟩
theorem c_perm {M' : Heap} {c : Code} (hp : M.Perm M') (k : C P W0 n Q L M' c) : C P W0 n Q L M c := ⟨fun a w ha hw => k.run a w ha (hw.perm hp)⟩
theorem c_drop {M' : Heap} {c : Code} (hp : M'.Sublist M) (k : C P W0 n Q L M' c) : C P W0 n Q L M c := ⟨fun a w ha hw => k.run a w ha (hw.sublist hp)⟩

theorem wp_loop_ix {ι : Type} {c : Code} {a : Act} {w : World} (I : ι → Act → World → Prop) (μ : ι → Nat) (i0 : ι) (h0 : I i0 a w)
    (round : ∀ i a w, I i a w → c.wp P (Exit.then (fun a' w' => ∃ j, μ j < μ i ∧ I j a' w') Q) a w) : (Code.loop c).wp P Q a w := by
  intro b k cs
  have key : ∀ m i a w, μ i = m → I i a w →
      ∃ e a' w', Q e a' w' ∧ Arrives P (lone (b.at a (.code c :: .inLoop c :: k)) cs w) b k cs e a' w' := by
    intro m
    induction m using Nat.strongRecOn with
    | _ m ih =>
      intro i a w hn hI
      obtain ⟨e, a₁, w₁, hq, harr⟩ := round i a w hI b (.inLoop c :: k) cs
      cases e with
      | normal =>
        obtain ⟨j, hlt, hI₁⟩ := hq
        obtain ⟨e₂, a₂, w₂, hq₂, harr₂⟩ := ih (μ j) (hn ▸ hlt) j a₁ w₁ rfl hI₁
        exact ⟨e₂, a₂, w₂, hq₂, .of_steps (Steps.trans harr (.one step_inLoop)) harr₂⟩
      | exit id => exact ⟨_, a₁, w₁, hq, .pass (x := .inLoop c) rfl (fun _ _ => .inl (by simp)) harr⟩
      | goto l => exact ⟨_, a₁, w₁, hq, .pass (x := .inLoop c) rfl (fun _ _ => .inl (by simp)) harr⟩
      | ret => exact ⟨_, a₁, w₁, hq, .pass (x := .inLoop c) rfl (fun _ _ => .inl (by simp)) harr⟩
      | panic ch => exact ⟨_, a₁, w₁, hq, .pass (x := .inLoop c) rfl (fun _ _ => .inl (by simp)) harr⟩
      | outgrown => exact ⟨_, a₁, w₁, hq, .pass (x := .inLoop c) rfl (fun _ _ => .inl (by simp)) harr⟩
  obtain ⟨e, a', w', hq, harr⟩ := key _ i0 a w rfl h0
  exact ⟨e, a', w', hq, .of_steps (.one step_loop) harr⟩

/-- Where a round has come to: a state of the family, nearer to the end. -/
def Again {ι : Type} (W0 : World) (n : Nat) (I : ι → Slots → Heap → Prop) (μ : ι → Nat) (i : ι) : Act → World → Prop :=
  fun a w => ∃ j L M, μ j < μ i ∧ I j L M ∧ St n L a ∧ Own W0 M w

/-- A loop, by a family of states: I says which slots and memory belong to an index. -/
theorem c_loop {ι : Type} {c : Code} (I : ι → Slots → Heap → Prop) (μ : ι → Nat) (i0 : ι) (h0 : I i0 L M)
    (round : ∀ i L M, I i L M → C P W0 n (Exit.then (Again W0 n I μ i) Q) L M c) : C P W0 n Q L M (.loop c) :=
  ⟨fun a w ha hw => wp_loop_ix (fun i a w => ∃ L M, I i L M ∧ St n L a ∧ Own W0 M w) μ i0 ⟨L, M, h0, ha, hw⟩ (by
    rintro i a w ⟨L, M, hI, ha, hw⟩
    refine Code.wp_mono (fun e a' w' h => ?_) ((round i L M hI).run a w ha hw)
    cases e <;> first
      | exact h
      | (obtain ⟨j, L', M', hlt, hI', ha', hw'⟩ := h; exact ⟨j, hlt, L', M', hI', ha', hw'⟩))⟩

/-- A loop of a few rounds, one behind the other. -/
theorem c_rounds {c : Code} (k : Nat) (h : C P W0 n (Exit.then (Code.rounds P c Q k) Q) L M c) : C P W0 n Q L M (.loop c) :=
  ⟨fun a w ha hw => wp_loop_rounds (k + 1) (by rw [rounds_succ]; exact h.run a w ha hw)⟩

/-! ### ways out -/
theorem e_seq {y : Code} (h : C P W0 n Q L M y) : E W0 n (Exit.then (fun a w => y.wp P Q a w) Q) L M .normal := ⟨fun a w ha hw => h.run a w ha hw⟩
theorem e_round {c : Code} {k : Nat} (h : C P W0 n (Exit.then (Code.rounds P c Q k) Q) L M c) : E W0 n (Exit.then (Code.rounds P c Q (k + 1)) Q) L M .normal := ⟨fun a w ha hw => by
  show Code.rounds P c Q (k + 1) a w
  rw [rounds_succ]; exact h.run a w ha hw⟩
theorem e_again {ι : Type} {I : ι → Slots → Heap → Prop} {μ : ι → Nat} {i : ι} (j : ι) {L' : Slots} (hμ : μ j < μ i) (hk : Keep L L') (hI : I j L' M) : E W0 n (Exit.then (Again W0 n I μ i) Q) L M .normal :=
  ⟨fun _ _ ha hw => ⟨j, L', M, hμ, hI, ha.keep hk, hw⟩⟩
theorem e_exit_then {K : Act → World → Prop} {id : Nat} (h : E W0 n Q L M (.exit id)) : E W0 n (Exit.then K Q) L M (.exit id) := ⟨fun a w ha hw => h.run a w ha hw⟩
theorem e_ret_then {K : Act → World → Prop} (h : E W0 n Q L M .ret) : E W0 n (Exit.then K Q) L M .ret := ⟨fun a w ha hw => h.run a w ha hw⟩
theorem e_ret_block {id : Nat} (h : E W0 n Q L M .ret) : E W0 n (Exit.inBlock id Q) L M .ret := ⟨fun a w ha hw => h.run a w ha hw⟩
theorem e_normal_block {id : Nat} (h : E W0 n Q L M .normal) : E W0 n (Exit.inBlock id Q) L M .normal := ⟨fun a w ha hw => h.run a w ha hw⟩
theorem e_exit_block {id : Nat} (h : E W0 n Q L M .normal) : E W0 n (Exit.inBlock id Q) L M (.exit id) := ⟨fun a w ha hw => by
  simp only [Exit.inBlock, ↓reduceIte]; exact h.run a w ha hw⟩
theorem e_exit_other {id id' : Nat} (hne : Nat.beq id' id = false) (h : E W0 n Q L M (.exit id')) : E W0 n (Exit.inBlock id Q) L M (.exit id') := ⟨fun a w ha hw => by
  have : ¬ id' = id := fun e => by
    subst e
    rw [Nat.beq_refl] at hne
    cases hne
  simp only [Exit.inBlock, if_neg this]; exact h.run a w ha hw⟩
theorem e_keep {L' : Slots} {e : Exit} (hk : Keep L L') (k : E W0 n Q L' M e) : E W0 n Q L M e := ⟨fun a w ha hw => k.run a w (ha.keep hk) hw⟩
theorem e_perm {M' : Heap} {e : Exit} (hp : M.Perm M') (k : E W0 n Q L M' e) : E W0 n Q L M e := ⟨fun a w ha hw => k.run a w ha (hw.perm hp)⟩
theorem e_drop {M' : Heap} {e : Exit} (hp : M'.Sublist M) (k : E W0 n Q L M' e) : E W0 n Q L M e := ⟨fun a w ha hw => k.run a w ha (hw.sublist hp)⟩
end

/-! ### calls -/
/-- Called so, from whatever world in which M is owned: it returns, with a value and a memory that R tells. -/
def Tri (P : Program) (W0 : World) (f : FuncId) (args : List Value) (M : Heap) (R : Value → Heap → Prop) : Prop :=
  ∀ w, Own W0 M w → Calls P f args.toArray w fun e w' => ∃ v M', e = .returned v ∧ R v M' ∧ Own W0 M' w'

def TriPost (W0 : World) (R : Value → Heap → Prop) : Ending → World → Prop := fun e w' => ∃ v M', e = .returned v ∧ R v M' ∧ Own W0 M' w'

theorem Tri.mono {P : Program} {W0 : World} {f : FuncId} {args : List Value} {M : Heap} {R R' : Value → Heap → Prop} (h : Tri P W0 f args M R) (hr : ∀ v M', R v M' → R' v M') : Tri P W0 f args M R' :=
  fun w hw => (h w hw).mono fun _ _ ⟨v, M', he, hR, hO⟩ => ⟨v, M', he, hr _ _ hR, hO⟩
theorem Tri.perm {P : Program} {W0 : World} {f : FuncId} {args : List Value} {M M' : Heap} {R : Value → Heap → Prop} (h : Tri P W0 f args M' R) (hp : M.Perm M') : Tri P W0 f args M R :=
  fun w hw => h w (hw.perm hp)
/-- What stands beside is owned still. -/
theorem Tri.of_world {P : Program} {W0 : World} {f : FuncId} {args : List Value} {M : Heap} {R : Value → Heap → Prop} (h : ∀ w, Own W0 M w → Tri P W0 f args M R) : Tri P W0 f args M R := fun w hw => h w hw w hw

def argSlots : Nat → List Value → Slots
  | _, [] => []
  | i, v :: r => (i, v) :: argSlots (i + 1) r

theorem argSlots_got : ∀ (vs : List Value) (i k : Nat) (v : Value), look (argSlots i vs) k = some v → i ≤ k ∧ vs[k - i]? = some v
  | [], _, _, _, h => by simp [argSlots, look] at h
  | u :: r, i, k, v, h => by
    rw [argSlots, look_cons] at h
    by_cases e : i = k
    · subst e
      rw [if_pos rfl] at h
      cases h
      exact ⟨Nat.le_refl _, by simp⟩
    · rw [if_neg e] at h
      obtain ⟨h1, h2⟩ := argSlots_got r (i + 1) k v h
      refine ⟨by omega, ?_⟩
      rw [show k - i = (k - (i + 1)) + 1 from by omega]
      simpa using h2

theorem tri_of {P : Program} {W0 : World} {f : FuncId} {fn : Func} {c : Code} {args : List Value} {M : Heap} {R : Value → Heap → Prop} (n : Nat) (hf : P.funcs[f]? = some fn) (hb : fn.body = some c) (hn : fn.ntmps = n) (ha : args.length ≤ n)
    (h : C P W0 n (bodyPost P fn (TriPost W0 R)) (argSlots 0 args) M c) : Tri P W0 f args M R := by
  intro w hw
  refine calls_of_wp hf hb (h.run _ w ⟨?_, rfl, fun k v hk => ?_⟩ hw)
  · subst hn
    simp
    omega
  · obtain ⟨_, h2⟩ := argSlots_got args 0 k v hk
    have hl : k < args.length := by
      rw [Nat.sub_zero] at h2
      exact (List.getElem?_eq_some_iff.1 h2).1
    simp only [Nat.sub_zero] at h2
    rw [Array.getElem?_append_left (by simpa using hl)]
    simpa using h2

theorem e_ret1 {P : Program} {W0 : World} {n : Nat} {fn : Func} {R : Value → Heap → Prop} {L : Slots} {M : Heap} {e : Exit} {t : Tmp} {v : Value} (he : e = .ret ∨ e = .normal) (hr : fn.results = #[.tmp t]) (hv : look L t = some v) (h : R v M) : E W0 n (bodyPost P fn (TriPost W0 R)) L M e := by
  refine ⟨fun a w ha hw => ?_⟩
  have hg : a.tmps.getD t undef = v := by simp [ha.got _ _ hv]
  have hp : a.defers = [] ∧ ∃ v, (results fn a.tmps).run P w = .ok v w ∧ TriPost W0 R (.returned v) w :=
    ⟨ha.defers, v, by rw [results_tmp hr, hg], v, M, rfl, h, hw⟩
  rcases he with rfl | rfl <;> exact hp

theorem e_ret2 {P : Program} {W0 : World} {n : Nat} {fn : Func} {R : Value → Heap → Prop} {L : Slots} {M : Heap} {e : Exit} {t u : Tmp} {v x : Value} (he : e = .ret ∨ e = .normal) (hr : fn.results = #[.tmp t, .tmp u]) (hv : look L t = some v) (hx : look L u = some x) (h : R (.tuple #[v, x]) M) :
    E W0 n (bodyPost P fn (TriPost W0 R)) L M e := by
  refine ⟨fun a w ha hw => ?_⟩
  have hg : a.tmps.getD t undef = v := by simp [ha.got _ _ hv]
  have hg' : a.tmps.getD u undef = x := by simp [ha.got _ _ hx]
  have hp : a.defers = [] ∧ ∃ v, (results fn a.tmps).run P w = .ok v w ∧ TriPost W0 R (.returned v) w :=
    ⟨ha.defers, _, by rw [results_tmp2 hr, hg, hg'], _, M, rfl, h, hw⟩
  rcases he with rfl | rfl <;> exact hp

theorem e_ret0 {P : Program} {W0 : World} {n : Nat} {fn : Func} {R : Value → Heap → Prop} {L : Slots} {M : Heap} {e : Exit} (he : e = .ret ∨ e = .normal) (hr : fn.results = #[]) (h : R (.tuple #[]) M) :
    E W0 n (bodyPost P fn (TriPost W0 R)) L M e := by
  refine ⟨fun a w ha hw => ?_⟩
  have hp : a.defers = [] ∧ ∃ v, (results fn a.tmps).run P w = .ok v w ∧ TriPost W0 R (.returned v) w :=
    ⟨ha.defers, _, by rw [results_none hr], _, M, rfl, h, hw⟩
  rcases he with rfl | rfl <;> exact hp

theorem addr_add (b off j : Nat) : (⟨b, off, none⟩ : Addr).add j = ⟨b, off + j, none⟩ := by
  unfold Addr.add
  split <;> simp_all

/-- A struct variable is loaded. -/
theorem run_loadVar_agg {P : Program} {W0 : World} {M : Heap} {w : World} (hr : Rd W0 M w) {T : TypeId} {b off : Nat} {cs : Array Value} {E : TypeId} {fz : Nat × Nat}
    {vs : List Value} (hA : ∀ w, (isAgg T).run P w = .ok true w) (hS : ∀ w, (sizeOf T).run P w = .ok vs.length w)
    (hm : (b, Obj.cells cs E fz) ∈ M) (hv : ∀ j u, vs[j]? = some u → cs[off + j]? = some u) :
    (loadVar T ⟨b, off, none⟩).run P w = .ok (.agg vs.toArray) w := by
  have hl : (loadCells ⟨b, off, none⟩ vs.length).run P w = .ok vs.toArray w := run_loadCells_list w _ vs fun j u hj => by
    rw [addr_add, hr.cell hm]
    exact hv j u hj
  simp [loadVar, hA, hS, hl]

/-- One result, a struct that lies in memory. -/
theorem e_retc {P : Program} {W0 : World} {n : Nat} {fn : Func} {R : Value → Heap → Prop} {L : Slots} {M : Heap} {e : Exit} {t : Tmp} {T : TypeId} {b off : Nat} {cs : Array Value} {E' : TypeId} {fz : Nat × Nat} {vs : List Value}
    (he : e = .ret ∨ e = .normal) (hr : fn.results = #[.cell t T]) (hA : ∀ w, (isAgg T).run P w = .ok true w) (hS : ∀ w, (sizeOf T).run P w = .ok vs.length w) (hv : look L t = some (.pointer (some ⟨b, off, none⟩)))
    (hm : (b, Obj.cells cs E' fz) ∈ M) (hc : ∀ j u, vs[j]? = some u → cs[off + j]? = some u) (h : R (.agg vs.toArray) M) : E W0 n (bodyPost P fn (TriPost W0 R)) L M e := by
  refine ⟨fun a w ha hw => ?_⟩
  have hg := ha.got _ _ hv
  have hl := run_loadVar_agg hw.rd (P := P) (off := off) hA hS hm hc
  have hp : a.defers = [] ∧ ∃ v, (results fn a.tmps).run P w = .ok v w ∧ TriPost W0 R (.returned v) w :=
    ⟨ha.defers, .agg vs.toArray, by simp [results, hr, hg, asAddr, hl], _, M, rfl, h, hw⟩
  rcases he with rfl | rfl <;> exact hp

/-- Two results, the first a struct that lies in memory. -/
theorem e_retc2 {P : Program} {W0 : World} {n : Nat} {fn : Func} {R : Value → Heap → Prop} {L : Slots} {M : Heap} {e : Exit} {t s : Tmp} {T : TypeId} {b off : Nat} {cs : Array Value} {E' : TypeId} {fz : Nat × Nat} {vs : List Value} {x : Value}
    (he : e = .ret ∨ e = .normal) (hr : fn.results = #[.cell t T, .tmp s]) (hA : ∀ w, (isAgg T).run P w = .ok true w) (hS : ∀ w, (sizeOf T).run P w = .ok vs.length w) (hv : look L t = some (.pointer (some ⟨b, off, none⟩))) (hx : look L s = some x)
    (hm : (b, Obj.cells cs E' fz) ∈ M) (hc : ∀ j u, vs[j]? = some u → cs[off + j]? = some u) (h : R (.tuple #[.agg vs.toArray, x]) M) : E W0 n (bodyPost P fn (TriPost W0 R)) L M e := by
  refine ⟨fun a w ha hw => ?_⟩
  have hg := ha.got _ _ hv
  have hg' := ha.got _ _ hx
  have hl := run_loadVar_agg hw.rd (P := P) (off := off) hA hS hm hc
  have hp : a.defers = [] ∧ ∃ v, (results fn a.tmps).run P w = .ok v w ∧ TriPost W0 R (.returned v) w :=
    ⟨ha.defers, .tuple #[.agg vs.toArray, x], by simp [results, hr, hg, hg', asAddr, hl], _, M, rfl, h, hw⟩
  rcases he with rfl | rfl <;> exact hp

/-- Function f is entered when it is called ('Try.call<f>'). -/
def Enters (P : Program) (f : FuncId) : Prop := ∀ (args : Array Value) (w : World), (callFunc f args).run P w = .ok (.enter f args) w

/-- The values of a list of operands. -/
def Args (L : Slots) : List Operand → List Value → Prop
  | [], [] => True
  | x :: xs, v :: vs => opv L x = some v ∧ Args L xs vs
  | _, _ => False

theorem Args.map {L : Slots} {a : Act} (ha : ∀ x u, opv L x = some u → a.eval x = u) : ∀ {xs : List Operand} {vs : List Value}, Args L xs vs → xs.map a.eval = vs
  | [], [], _ => rfl
  | x :: xs, v :: vs, h => by rw [List.map_cons, ha x v h.1, Args.map ha h.2]
  | [], _ :: _, h => h.elim
  | _ :: _, [], h => h.elim

theorem iv_call {P : Program} {W0 : World} {L : Slots} {M : Heap} {f : FuncId} {xs : List Operand} {ts : Array TypeId} {vs : List Value} {R : Value → Heap → Prop} (hen : Enters P f) (hv : Args L xs vs) (ht : Tri P W0 f vs M R) :
    IV P W0 L M (.call { callee := .value (.func f), args := xs.toArray, argTypes := ts }) R := by
  intro a w o Q K ha hO ho hK
  have hm := hv.map ha
  have hf : a.eval (.func f) = .func (.func f) #[] #[] := rfl
  unfold Oper.wp
  have hrun : (execOp a.eval o).run P w = .ok (.enter f vs.toArray) w := by
    simp [execOp, ho, resolve, hf, Deferred.ofValue, invoke, hm, hen _ _]
  rw [hrun, Oper.upon_enter]
  refine (ht w hO).mono fun e w' ⟨v, M', he, hR, hO'⟩ => ?_
  subst he
  exact hK v M' w' hR hO'

/-- A call of a closure. -/
theorem iv_callc {P : Program} {W0 : World} {L : Slots} {M : Heap} {f : FuncId} {x : Operand} {xs : List Operand} {ts : Array TypeId} {vs caps : List Value} {R : Value → Heap → Prop} (hen : Enters P f) (hx : opv L x = some (.func (.func f) #[] caps.toArray)) (hv : Args L xs vs)
    (ht : Tri P W0 f (vs ++ caps) M R) : IV P W0 L M (.call { callee := .value x, args := xs.toArray, argTypes := ts }) R := by
  intro a w o Q K ha hO ho hK
  have hm := hv.map ha
  have hf := ha _ _ hx
  unfold Oper.wp
  have hrun : (execOp a.eval o).run P w = .ok (.enter f (vs ++ caps).toArray) w := by
    simp [execOp, ho, resolve, hf, Deferred.ofValue, invoke, hm, hen _ _]
  rw [hrun, Oper.upon_enter]
  refine (ht w hO).mono fun e w' ⟨v, M', he, hR, hO'⟩ => ?_
  subst he
  exact hK v M' w' hR hO'

end Go.Proofs.Ytnnclcfklbeocaa

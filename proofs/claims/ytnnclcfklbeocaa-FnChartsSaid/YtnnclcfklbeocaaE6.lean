/-
  The engine, part 6: maps with texts as keys: asked, struck, ranged over.
  No condition: general lemmas.
-/
import Derived.Test.YtnnclcfklbeocaaE5
namespace Go.Proofs.Ytnnclcfklbeocaa
open Go.RowKit

section
variable {P : Program} {W0 : World} {L : Slots} {M : Heap}

theorem run_findKey {K : TypeId} (m : KV) (hK : ∀ w, (underlying K).run P w = .ok .string w) (k : List UInt8) (w : World) : (Instr.findKey K (str k) m.ents.toList).run P w = .ok (findKV m.ents.toList k 0) w := by
  simp [Instr.findKey, hK, findNow_str _ m.ok.keys]
theorem run_getKV {w : World} {r : Nat} {m : KV} (hr : w.heap[r]? = some m.obj) : (getObj r).run P w = .ok (.map m.ents m.clk) w := by simp [getObj, Sem.run, hr, KV.obj]

theorem run_lookup {T K E : TypeId} {z : Value} {r : Nat} {m : KV} {k : List UInt8} (b : Bool) (hT : ∀ w, (underlying T).run P w = .ok (.map K E) w) (hK : ∀ w, (underlying K).run P w = .ok .string w) (hz : ∀ w, (zeroValue E).run P w = .ok z w) {w : World} (hr : w.heap[r]? = some m.obj) :
    (Instr.lookup T (.map (some r)) (str k) b).run P w = .ok (if b then .tuple #[(m.list.lookup k).getD z, .bool (m.list.lookup k).isSome] else (m.list.lookup k).getD z) w := by
  have hl : (findKV m.ents.toList k 0).map (·.2) = m.list.lookup k := findKV_lookup _ _ 0
  have hc := fun w => checkKey_str (P := P) hK m.ents.isEmpty k 9999 w
  have hf := fun w => run_findKey (P := P) m hK k w
  have hg := run_getKV (P := P) hr
  simp only [Instr.lookup, Sem.run_bind, hT, Result.andThen_ok, hg, Sem.run_pure]
  rw [show (10000 : Nat) = 9999 + 1 from rfl, hc]
  simp only [Result.andThen_ok, hf]
  rw [← hl]
  cases findKV m.ents.toList k 0 with
  | none =>
    simp only [Sem.run_bind, hz, Result.andThen_ok, Sem.run_pure, Option.map_none, Option.getD_none, Option.isSome_none]
  | some p =>
    obtain ⟨i, v⟩ := p
    simp only [Sem.run_bind, Sem.run_pure, Result.andThen_ok, Option.map_some, Option.getD_some, Option.isSome_some]

theorem qv_lookup2 {T K E : TypeId} {x y : Operand} {z : Value} {r : Nat} {m : KV} {k : List UInt8} (hx : opv L x = some (.map (some r))) (hy : opv L y = some (str k)) (hT : ∀ w, (underlying T).run P w = .ok (.map K E) w) (hK : ∀ w, (underlying K).run P w = .ok .string w) (hz : ∀ w, (zeroValue E).run P w = .ok z w)
    (hm : (r, m.obj) ∈ M) : QV P W0 L M (.lookup T x y true) (.tuple #[(m.list.lookup k).getD z, .bool (m.list.lookup k).isSome]) := fun a w o ha hr ho => by
  have := run_lookup (k := k) true hT hK hz (hr.has r _ hm)
  simp only [execOp, ho, ha _ _ hx, ha _ _ hy, Sem.run_bind, this]
  rfl
theorem qv_lookup1 {T K E : TypeId} {x y : Operand} {z : Value} {r : Nat} {m : KV} {k : List UInt8} (hx : opv L x = some (.map (some r))) (hy : opv L y = some (str k)) (hT : ∀ w, (underlying T).run P w = .ok (.map K E) w) (hK : ∀ w, (underlying K).run P w = .ok .string w) (hz : ∀ w, (zeroValue E).run P w = .ok z w)
    (hm : (r, m.obj) ∈ M) : QV P W0 L M (.lookup T x y false) ((m.list.lookup k).getD z) := fun a w o ha hr ho => by
  have := run_lookup (k := k) false hT hK hz (hr.has r _ hm)
  simp only [execOp, ho, ha _ _ hx, ha _ _ hy, Sem.run_bind, this]
  rfl
theorem qv_len_map {T K E : TypeId} {x : Operand} {r : Nat} {m : KV} (hx : opv L x = some (.map (some r))) (hT : ∀ w, (underlying T).run P w = .ok (.map K E) w) (hm : (r, m.obj) ∈ M) : QV P W0 L M (.call { callee := .builtin .len, args := #[x], argTypes := #[T] }) (.int .i64 m.list.length) := fun a w o ha hr ho => by
  have hg := run_getKV (P := P) (hr.has r _ hm)
  simp [execOp, ho, ha _ _ hx, resolve, invoke, builtin, Builtin.len_, hT, hg, goInt, KV.list]

/-! ### delete -/
theorem KV.del_ex (m : KV) (k : List UInt8) : ∃ m' : KV, m'.list = m.list.filter (fun p => !(p.1 == k)) ∧
    ∀ (P : Program) (w : World) (T K E r ty : Nat), (∀ w, (underlying T).run P w = .ok (.map K E) w) → (∀ w, (underlying K).run P w = .ok .string w) → w.heap[r]? = some m.obj →
      (Builtin.delete_ #[T, K] ty #[.map (some r), str k]).run P w = .ok (.tuple #[]) { w with heap := w.heap.setIfInBounds r m'.obj } := by
  have run : ∀ (P : Program) (w : World) (T K E r ty : Nat), (∀ w, (underlying T).run P w = .ok (.map K E) w) → (∀ w, (underlying K).run P w = .ok .string w) → w.heap[r]? = some m.obj →
      (Builtin.delete_ #[T, K] ty #[.map (some r), str k]).run P w = .ok (.tuple #[]) { w with heap := w.heap.setIfInBounds r (match findKV m.ents.toList k 0 with
        | some (i, _) => .map (m.ents.eraseIdxIfInBounds i) m.clk
        | none => .map m.ents m.clk) } := by
    intro P w T K E r ty hT hK hr
    have hc := fun w => checkKey_str (P := P) hK m.ents.isEmpty k 9999 w
    have hf := fun w => run_findKey (P := P) m hK k w
    have hg := run_getKV (P := P) hr
    have hr' : w.heap[r]? = some (.map m.ents m.clk) := hr
    have hset : ∀ o, (setObj r o).run P w = .ok () { w with heap := w.heap.setIfInBounds r o } := fun o => by simp [setObj, Sem.run, hr']
    unfold Builtin.delete_
    simp only [List.getElem?_toArray, List.getElem?_cons_zero, List.getElem?_cons_succ, Sem.run_bind, hT, Result.andThen_ok, hg]
    rw [show (10000 : Nat) = 9999 + 1 from rfl, hc]
    simp only [Result.andThen_ok, hf]
    cases findKV m.ents.toList k 0 with
    | none => simp only [Sem.run_bind, hset, Result.andThen_ok, Sem.run_pure]
    | some p => simp only [Sem.run_bind, hset, Result.andThen_ok, Sem.run_pure]
  cases hfk : findKV m.ents.toList k 0 with
  | none =>
    refine ⟨m, ?_, fun P w T K E r ty hT hK hr => ?_⟩
    · have hn := findKV_none _ _ _ hfk
      rw [List.filter_eq_self.2]
      intro p hp
      obtain ⟨e, he, rfl⟩ := List.mem_map.1 hp
      simpa using hn e he
    · rw [run P w T K E r ty hT hK hr, hfk]; rfl
  | some p =>
    obtain ⟨i, u⟩ := p
    obtain ⟨_, e, hi, hk, hu⟩ := findKV_some _ _ _ _ _ hfk
    simp only [Nat.sub_zero] at hi
    refine ⟨⟨_, _, m.ok.erase i⟩, ?_, fun P w T K E r ty hT hK hr => ?_⟩
    · have hil : i < m.ents.size := by simpa using (List.getElem?_eq_some_iff.1 hi).1
      have he : (m.ents.eraseIdxIfInBounds i).toList = m.ents.toList.eraseIdx i := by
        unfold Array.eraseIdxIfInBounds
        rw [dif_pos hil]
        simp
      show (m.ents.eraseIdxIfInBounds i).toList.map (fun e => (unstr e.key, e.val)) = (m.ents.toList.map fun e => (unstr e.key, e.val)).filter _
      rw [he]
      have key : ∀ (l : List MapEntry) (i : Nat) (e : MapEntry), (l.map fun e => unstr e.key).Nodup → l[i]? = some e → unstr e.key = k →
          (l.eraseIdx i).map (fun e => (unstr e.key, e.val)) = (l.map fun e => (unstr e.key, e.val)).filter (fun p => !(p.1 == k)) := by
        intro l
        induction l with
        | nil => intro i e _ h; simp at h
        | cons x l ih =>
          intro i e hnd hi hk
          rw [List.map_cons, List.nodup_cons] at hnd
          cases i with
          | zero =>
            simp only [List.getElem?_cons_zero, Option.some.injEq] at hi
            subst hi
            have hall : (l.map fun e => (unstr e.key, e.val)).filter (fun p => !(p.1 == k)) = l.map fun e => (unstr e.key, e.val) := by
              rw [List.filter_eq_self]
              intro p hp
              obtain ⟨y, hy, rfl⟩ := List.mem_map.1 hp
              have : unstr y.key ≠ k := fun h => hnd.1 (List.mem_map.2 ⟨y, hy, by rw [h, hk]⟩)
              simpa using this
            simp [hk, hall]
          | succ i =>
            simp only [List.getElem?_cons_succ] at hi
            have hne : unstr x.key ≠ k := fun h => hnd.1 (List.mem_map.2 ⟨e, List.mem_of_getElem? hi, by rw [h, hk]⟩)
            simp [hne, ih i e hnd.2 hi hk]
      exact key _ i e m.ok.uniq hi hk
    · rw [run P w T K E r ty hT hK hr, hfk]; rfl

noncomputable def KV.del (m : KV) (k : List UInt8) : KV := (m.del_ex k).choose
theorem KV.list_del (m : KV) (k : List UInt8) : (m.del k).list = m.list.filter (fun p => !(p.1 == k)) := (m.del_ex k).choose_spec.1

theorem iv_del {T K E : TypeId} {x y : Operand} {i r : Nat} {m : KV} {k : List UInt8} (hx : opv L x = some (.map (some r))) (hy : opv L y = some (str k)) (hT : ∀ w, (underlying T).run P w = .ok (.map K E) w) (hK : ∀ w, (underlying K).run P w = .ok .string w)
    (hi : M[i]? = some (r, m.obj)) : IV P W0 L M (.call { callee := .builtin .delete, args := #[x, y], argTypes := #[T, K] }) (fun _ M' => M' = M.set i (r, (m.del k).obj)) := by
  intro a w o Q K' ha hO hop hK'
  have hh := hO.has r _ (List.mem_of_getElem? hi)
  have := (m.del_ex k).choose_spec.2 P w T K E r o.type hT hK hh
  unfold Oper.wp
  have hrun : (execOp a.eval o).run P w = .ok (.value (.tuple #[])) { w with heap := w.heap.setIfInBounds r (m.del k).obj } := by
    simp only [execOp, hop, resolve, invoke, builtin, Sem.run_bind, Sem.run_pure, Result.andThen_ok, List.map_toArray, List.map_cons, List.map_nil, ha _ _ hx, ha _ _ hy, this]
    rfl
  rw [hrun]
  exact hK' _ _ _ rfl (hO.upd hi (Upd.set hh))

/-! ### range -/
/-- An iterator over block r, a map that holds m; 'seen': the stamps of what has come. -/
def iterObj (r : Nat) (m : KV) (seen : Array Nat) : Obj := .mapIter (some r) m.clk seen m.clk
/-- What is still to come. -/
def KV.left (m : KV) (seen : Array Nat) : List (List UInt8 × Value) := (m.ents.toList.filter fun e => !seen.contains e.born).map fun e => (unstr e.key, e.val)
/-- k, v came last. -/
def KV.cur (m : KV) (seen : Array Nat) (k : List UInt8) (v : Value) : Prop := ∃ (s : Array Nat) (e : MapEntry), seen = s.push e.born ∧ e ∈ m.ents.toList ∧ unstr e.key = k ∧ e.val = v

theorem KV.left_start (m : KV) : m.left #[] = m.list := by
  unfold KV.left KV.list
  rw [List.filter_eq_self.2 (fun e _ => by simp)]

theorem iv_range {T K E : TypeId} {x : Operand} {r : Nat} {m : KV} (hx : opv L x = some (.map (some r))) (hT : ∀ w, (underlying T).run P w = .ok (.map K E) w) (hm : (r, m.obj) ∈ M) :
    IV P W0 L M (.range T x) (fun v M' => ∃ b, v = .pointer (some ⟨b, 0, none⟩) ∧ M' = (b, iterObj r m #[]) :: M) :=
  iv_new (F := fun b => .pointer (some ⟨b, 0, none⟩)) fun a w o ha hO ho => by
    have hg := run_getKV (P := P) (hO.has r _ hm)
    simp [execOp, ho, ha _ _ hx, Instr.range, hT, hg, iterObj]

theorem perm_left {m : KV} {seen : Array Nat} {e : MapEntry} (he : e ∈ m.ents.toList) (hs : seen.contains e.born = false) : (m.left seen).Perm ((unstr e.key, e.val) :: m.left (seen.push e.born)) := by
  have key : ∀ (l : List MapEntry), (l.map (·.born)).Nodup → e ∈ l →
      (l.filter fun e => !seen.contains e.born).Perm (e :: l.filter fun x => !(seen.push e.born).contains x.born) := by
    intro l
    induction l with
    | nil => intro _ h; cases h
    | cons x l ih =>
      intro hnd h
      rw [List.map_cons, List.nodup_cons] at hnd
      rcases List.mem_cons.1 h with rfl | h
      · have hs' : ¬ e.born ∈ seen := by simpa using hs
        have hrest : (l.filter fun x => !(seen.push e.born).contains x.born) = l.filter fun x => !seen.contains x.born := by
          apply List.filter_congr
          intro y hy
          have hne : y.born ≠ e.born := fun hb => hnd.1 (List.mem_map.2 ⟨y, hy, hb⟩)
          simp [hne]
        rw [List.filter_cons_of_pos (by simp [hs']), List.filter_cons_of_neg (by simp), hrest]
      · have hne : x.born ≠ e.born := fun hb => hnd.1 (List.mem_map.2 ⟨e, h, hb.symm⟩)
        have ih' := ih hnd.2 h
        by_cases hc : seen.contains x.born = true
        · have hc' : x.born ∈ seen := by simpa using hc
          rw [List.filter_cons_of_neg (by simp [hc']), List.filter_cons_of_neg (by simp [hc'])]
          exact ih'
        · have hc' : ¬ x.born ∈ seen := by simpa using hc
          rw [List.filter_cons_of_pos (by simp [hc']), List.filter_cons_of_pos (by simp [hc', hne])]
          exact (List.Perm.cons x ih').trans (List.Perm.swap _ _ _)
  have := (key _ m.ok.born he).map fun e => (unstr e.key, e.val)
  simpa [KV.left] using this

theorem iv_next {x : Operand} {i it r : Nat} {m : KV} {seen : Array Nat} (hx : opv L x = some (.pointer (some ⟨it, 0, none⟩))) (hi : M[i]? = some (it, iterObj r m seen)) (hm : (r, m.obj) ∈ M) :
    IV P W0 L M (.next x false) (fun v M' => (m.left seen = [] ∧ v = .tuple #[.bool false] ∧ M' = M) ∨
      ∃ k u seen', v = .tuple #[.bool true, str k, u] ∧ M' = M.set i (it, iterObj r m seen') ∧ (m.left seen).Perm ((k, u) :: m.left seen') ∧ m.cur seen' k u) := by
  intro a w o Q K ha hO hop hK
  have hit : w.heap[it]? = some (.mapIter (some r) m.clk seen m.clk) := hO.has it _ (List.mem_of_getElem? hi)
  have hg := run_getKV (P := P) (hO.has r _ hm)
  have hgi : (getObj it).run P w = .ok (.mapIter (some r) m.clk seen m.clk) w := by simp [getObj, Sem.run, hit]
  have hcond : (!seen.isEmpty && !m.ents.isEmpty && m.ents.all (fun e => decide (e.born ≥ m.clk))) = false := by
    cases hemp : m.ents.isEmpty with
    | true => simp
    | false =>
      have : m.ents.all (fun e => decide (e.born ≥ m.clk)) = false := by
        rw [Array.all_eq_false]
        have hne : 0 < m.ents.size := by
          rcases Nat.eq_zero_or_pos m.ents.size with h | h
          · rw [Array.isEmpty_iff_size_eq_zero.2 h] at hemp; cases hemp
          · exact h
        exact ⟨0, hne, by
          have := m.ok.clock m.ents[0] (by simp)
          simpa using this⟩
      rw [this]; simp
  have hold : ((m.ents.filter fun e => !seen.contains e.born).filter fun e => decide (e.born < m.clk)) = m.ents.filter fun e => !seen.contains e.born := by
    rw [Array.filter_eq_self]
    intro e he
    have := m.ok.clock e (by simpa using (Array.mem_filter.1 he).1)
    simpa using this
  have hnew : ((m.ents.filter fun e => !seen.contains e.born).filter fun e => decide (e.born ≥ m.clk)) = #[] := by
    rw [Array.filter_eq_empty_iff]
    intro e he
    have := m.ok.clock e (by simpa using (Array.mem_filter.1 he).1)
    simpa using this
  have hleft : m.left seen = (m.ents.filter fun e => !seen.contains e.born).toList.map fun e => (unstr e.key, e.val) := by
    rw [Array.toList_filter]; rfl
  unfold Oper.wp
  generalize hls : (m.ents.filter fun e => !seen.contains e.born) = ls at *
  have hrun : (execOp a.eval o).run P w = (((do
      let candidates := (if ls.isEmpty then #[none] else #[]) ++ (ls ++ #[]).map some
      match candidates[← choose (.mapNext candidates.size)]? with
      | some (some e) =>
        setObj it (.mapIter (some r) m.clk (seen.push e.born) m.clk)
        pure (.tuple #[.bool true, e.key, e.val])
      | some none => pure (.tuple #[.bool false])
      | none => stuck "Next: no such candidate") : Sem Value).run P w).andThen fun v w' => .ok (.value v) w' := by
    simp only [execOp, hop, ha _ _ hx, Instr.next, Sem.run_bind, hgi, Result.andThen_ok, hg, Sem.run_pure]
    rw [if_neg (by simp only [hcond]; simp)]
    simp only [hls, hold, hnew, Sem.run_bind]
    rfl
  rw [hrun]
  by_cases hemp : ls = #[]
  · subst hemp
    have h0 : ((do
      let candidates := (if (#[] : Array MapEntry).isEmpty then #[none] else #[]) ++ ((#[] : Array MapEntry) ++ #[]).map some
      match candidates[← choose (.mapNext candidates.size)]? with
      | some (some e) =>
        setObj it (.mapIter (some r) m.clk (seen.push e.born) m.clk)
        pure (.tuple #[.bool true, e.key, e.val])
      | some none => pure (.tuple #[.bool false])
      | none => stuck "Next: no such candidate") : Sem Value).run P w = .ok (.tuple #[.bool false]) w := by
      simp [choose, Sem.run, Question.forced]
    rw [h0]
    exact hK _ _ _ (Or.inl ⟨by rw [hleft]; rfl, rfl, rfl⟩) hO
  · have hpos : 0 < ls.size := by
      rcases Nat.eq_zero_or_pos ls.size with h | h
      · exact absurd (Array.eq_empty_of_size_eq_zero h) hemp
      · exact h
    have hie : ls.isEmpty = false := by
      cases h : ls.isEmpty with
      | false => rfl
      | true => exact absurd (Array.isEmpty_iff.1 h) hemp
    have hch : ∃ (j : Nat) (hj : j < ls.size) (w1 : World), (choose (.mapNext ls.size)).run P w = .ok j w1 ∧ w1.heap = w.heap ∧ Own W0 M w1 := by
      simp only [choose, Sem.run]
      split
      · exact ⟨0, hpos, w, rfl, rfl, hO⟩
      · refine ⟨_, ?_, _, rfl, rfl, hO.drew⟩
        simp only [Question.cut]
        exact Nat.mod_lt _ hpos
    obtain ⟨j, hj, w1, hc, hw1, hO1⟩ := hch
    have hset : ∀ ob, (setObj it ob).run P w1 = .ok () { w1 with heap := w1.heap.setIfInBounds it ob } := fun ob => by
      have : w1.heap[it]? = some (.mapIter (some r) m.clk seen m.clk) := by rw [hw1]; exact hit
      simp [setObj, Sem.run, this]
    have h1 : ((do
      let candidates := (if ls.isEmpty then #[none] else #[]) ++ (ls ++ #[]).map some
      match candidates[← choose (.mapNext candidates.size)]? with
      | some (some e) =>
        setObj it (.mapIter (some r) m.clk (seen.push e.born) m.clk)
        pure (.tuple #[.bool true, e.key, e.val])
      | some none => pure (.tuple #[.bool false])
      | none => stuck "Next: no such candidate") : Sem Value).run P w = .ok (.tuple #[.bool true, ls[j].key, ls[j].val]) { w1 with heap := w1.heap.setIfInBounds it (iterObj r m (seen.push ls[j].born)) } := by
      have hcand : ((if ls.isEmpty then #[none] else #[]) ++ (ls ++ #[]).map some : Array (Option MapEntry)) = ls.map some := by simp [hie]
      simp only [hcand, Array.size_map, Sem.run_bind, hc, Result.andThen_ok]
      rw [Array.getElem?_map, Array.getElem?_eq_getElem hj]
      simp only [Option.map_some, Sem.run_bind, hset, Result.andThen_ok, Sem.run_pure]
      rfl
    rw [h1]
    have hmem : ls[j] ∈ m.ents.toList ∧ seen.contains ls[j].born = false := by
      have hin : ls[j] ∈ ls := Array.getElem_mem hj
      generalize ls[j] = e at hin ⊢
      rw [← hls] at hin
      have := Array.mem_filter.1 hin
      exact ⟨by simpa using this.1, by simpa using this.2⟩
    have hkey := m.ok.keys _ hmem.1
    have hu : Upd w1 { w1 with heap := w1.heap.setIfInBounds it (iterObj r m (seen.push ls[j].born)) } it (iterObj r m (seen.push ls[j].born)) := by
      have : w1.heap[it]? = some (iterObj r m seen) := by rw [hw1]; exact hit
      exact Upd.set this
    refine hK _ _ _ (Or.inr ⟨unstr ls[j].key, ls[j].val, seen.push ls[j].born, ?_, rfl, perm_left hmem.1 hmem.2, seen, ls[j], rfl, hmem.1, rfl, rfl⟩) (hO1.upd hi hu)
    rw [← hkey]

theorem qv_entry {x : Operand} {it r : Nat} {m : KV} {seen : Array Nat} {k : List UInt8} {v : Value} (hx : opv L x = some (.pointer (some ⟨it, 0, none⟩))) (hi : (it, iterObj r m seen) ∈ M) (hm : (r, m.obj) ∈ M) (hc : m.cur seen k v) : QV P W0 L M (.entry x) (.tuple #[str k, v]) := fun a w o ha hr ho => by
  obtain ⟨s, e, rfl, he, rfl, rfl⟩ := hc
  have hg := run_getKV (P := P) (hr.has r _ hm)
  have hit : w.heap[it]? = some (.mapIter (some r) m.clk (s.push e.born) m.clk) := hr.has it _ hi
  have hgi : (getObj it).run P w = .ok (.mapIter (some r) m.clk (s.push e.born) m.clk) w := by simp [getObj, Sem.run, hit]
  have hfind : m.ents.find? (fun x => x.born == e.born) = some e := by
    rw [← Array.find?_toList]
    have key : ∀ (l : List MapEntry), (l.map (·.born)).Nodup → e ∈ l → l.find? (fun x => x.born == e.born) = some e := by
      intro l
      induction l with
      | nil => intro _ h; cases h
      | cons x l ih =>
        intro hnd h
        rw [List.map_cons, List.nodup_cons] at hnd
        rcases List.mem_cons.1 h with rfl | h
        · simp
        · have hne : x.born ≠ e.born := fun hb => hnd.1 (List.mem_map.2 ⟨e, h, hb.symm⟩)
          rw [List.find?_cons_of_neg (by simpa using hne)]
          exact ih hnd.2 h
    exact key _ m.ok.born he
  have hkey := m.ok.keys e he
  simp only [execOp, ho, ha _ _ hx, Instr.entry, Sem.run_bind, hgi, Result.andThen_ok, Array.back?_push, hg]
  rw [if_neg (by simp), hfind]
  simp only [Sem.run_pure, Result.andThen_ok]
  rw [← hkey]
end

end Go.Proofs.Ytnnclcfklbeocaa

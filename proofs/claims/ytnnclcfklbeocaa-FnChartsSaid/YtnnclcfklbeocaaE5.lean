/-
  The engine, part 5: maps with texts as keys: made, written, asked, ranged over.
  No condition: general lemmas.
-/
import Derived.Test.YtnnclcfklbeocaaE4
namespace Go.Proofs.Ytnnclcfklbeocaa
open Go.RowKit

def unstr : Value → List UInt8
  | .string s => s.data.toList
  | _ => []
theorem unstr_str (l : List UInt8) : unstr (str l) = l := by simp [unstr, str]

structure MapOk (ents : Array MapEntry) (clk : Nat) : Prop where
  keys : ∀ e ∈ ents.toList, e.key = str (unstr e.key)
  uniq : (ents.toList.map fun e => unstr e.key).Nodup
  born : (ents.toList.map (·.born)).Nodup
  clock : ∀ e ∈ ents.toList, e.born < clk

/-- What a map's block holds. -/
structure KV where
  ents : Array MapEntry
  clk : Nat
  ok : MapOk ents clk

def KV.obj (m : KV) : Obj := .map m.ents m.clk
/-- Keys and values, in the order in which they came. -/
def KV.list (m : KV) : List (List UInt8 × Value) := m.ents.toList.map fun e => (unstr e.key, e.val)
def KV.empty : KV := ⟨#[], 0, ⟨by simp, by simp, by simp, by simp⟩⟩
@[simp] theorem KV.list_empty : KV.empty.list = [] := rfl

theorem KV.nodup (m : KV) : (m.list.map (·.1)).Nodup := by
  have := m.ok.uniq
  simpa [KV.list, List.map_map, Function.comp_def] using this

theorem nodup_ne {α : Type} {l : List α} (h : l.Nodup) {i j : Nat} {x y : α} (hij : i < j) (hi : l[i]? = some x) (hj : l[j]? = some y) : x ≠ y := by
  have hil := (List.getElem?_eq_some_iff.1 hi).1
  have hjl := (List.getElem?_eq_some_iff.1 hj).1
  rw [List.getElem?_eq_getElem hil] at hi
  rw [List.getElem?_eq_getElem hjl] at hj
  intro e
  exact List.pairwise_iff_getElem.1 h i j hil hjl hij ((Option.some.inj hi).trans (e.trans (Option.some.inj hj).symm))

/-- Where a key stands. -/
def findKV : List MapEntry → List UInt8 → Nat → Option (Nat × Value)
  | [], _, _ => none
  | e :: es, k, i => if unstr e.key = k then some (i, e.val) else findKV es k (i + 1)

theorem beq_str (k l : List UInt8) : ((⟨k.toArray⟩ : ByteArray) == ⟨l.toArray⟩) = decide (l = k) := by
  show (k.toArray == l.toArray) = _
  by_cases h : l = k
  · subst h; simp
  · have h1 : ¬ (k = l) := fun e => h e.symm
    simp [h, h1]
theorem same_str (k l : List UInt8) : Instr.sameNow .string (str k) (str l) = some (decide (l = k)) := by
  simp only [Instr.sameNow, str, beq_str]

theorem findNow_str : ∀ (es : List MapEntry), (∀ e ∈ es, e.key = str (unstr e.key)) → ∀ (k : List UInt8) (i : Nat), Instr.findNow .string (str k) es i = some (findKV es k i)
  | [], _, _, _ => rfl
  | e :: es, h, k, i => by
    have he := h e List.mem_cons_self
    have ih := findNow_str es (fun x hx => h x (List.mem_cons_of_mem _ hx)) k (i + 1)
    unfold Instr.findNow findKV
    have hs : Instr.sameNow .string (str k) e.key = some (decide (unstr e.key = k)) := by
      generalize unstr e.key = l at he ⊢
      rw [he]
      exact same_str k l
    rw [hs]
    by_cases e' : unstr e.key = k
    · simp [e']
    · simp [e', ih]

theorem findKV_lookup : ∀ (es : List MapEntry) (k : List UInt8) (i : Nat), (findKV es k i).map (·.2) = (es.map fun e => (unstr e.key, e.val)).lookup k
  | [], _, _ => rfl
  | e :: es, k, i => by
    unfold findKV
    rw [List.map_cons, List.lookup_cons]
    by_cases h : unstr e.key = k
    · subst h
      simp
    · have : (k == unstr e.key) = false := by simpa using fun hh => h hh.symm
      rw [if_neg h, this, findKV_lookup es k (i + 1)]

theorem findKV_some : ∀ (es : List MapEntry) (k : List UInt8) (i j : Nat) (v : Value), findKV es k i = some (j, v) → i ≤ j ∧ ∃ e, es[j - i]? = some e ∧ unstr e.key = k ∧ e.val = v
  | [], _, _, _, _, h => by cases h
  | e :: es, k, i, j, v, h => by
    unfold findKV at h
    by_cases h1 : unstr e.key = k
    · rw [if_pos h1] at h
      cases h
      exact ⟨Nat.le_refl _, e, by simp, h1, rfl⟩
    · rw [if_neg h1] at h
      obtain ⟨h2, x, h3, h4⟩ := findKV_some es k (i + 1) j v h
      refine ⟨by omega, x, ?_, h4⟩
      rw [show j - i = (j - (i + 1)) + 1 from by omega]
      simpa using h3

theorem findKV_none : ∀ (es : List MapEntry) (k : List UInt8) (i : Nat), findKV es k i = none → ∀ e ∈ es, unstr e.key ≠ k
  | [], _, _, _, _, he => by cases he
  | e :: es, k, i, h, x, hx => by
    unfold findKV at h
    by_cases h1 : unstr e.key = k
    · rw [if_pos h1] at h; cases h
    · rw [if_neg h1] at h
      rcases List.mem_cons.1 hx with rfl | hx
      · exact h1
      · exact findKV_none es k (i + 1) h x hx

/-- A list in which a key's value is set: in its place, or at the end. -/
def putL (l : List (List UInt8 × Value)) (k : List UInt8) (v : Value) : List (List UInt8 × Value) :=
  if (l.lookup k).isSome then l.map fun p => if p.1 = k then (k, v) else p else l ++ [(k, v)]

theorem MapOk.put {ents : Array MapEntry} {clk : Nat} (h : MapOk ents clk) (k : List UInt8) (v : Value) (hn : ∀ e ∈ ents.toList, unstr e.key ≠ k) : MapOk (ents.push { key := str k, val := v, born := clk }) (clk + 1) := by
  refine ⟨fun e he => ?_, ?_, ?_, fun e he => ?_⟩
  · rw [Array.toList_push, List.mem_append, List.mem_singleton] at he
    rcases he with he | rfl
    · exact h.keys e he
    · rw [unstr_str]
  · rw [Array.toList_push, List.map_append, List.nodup_append]
    refine ⟨h.uniq, by simp, fun x hx y hy => ?_⟩
    obtain ⟨e, he, rfl⟩ := List.mem_map.1 hx
    simp only [List.map_cons, List.map_nil, List.mem_singleton, unstr_str] at hy
    subst hy
    exact hn e he
  · rw [Array.toList_push, List.map_append, List.nodup_append]
    refine ⟨h.born, by simp, fun x hx y hy => ?_⟩
    obtain ⟨e, he, rfl⟩ := List.mem_map.1 hx
    simp only [List.map_cons, List.map_nil, List.mem_singleton] at hy
    subst hy
    exact Nat.ne_of_lt (h.clock e he)
  · rw [Array.toList_push, List.mem_append, List.mem_singleton] at he
    rcases he with he | rfl
    · exact Nat.lt_succ_of_lt (h.clock e he)
    · exact Nat.lt_succ_self _

theorem modify_keys {ents : Array MapEntry} {k : List UInt8} {v : Value} {i : Nat} {e : MapEntry} (hi : ents.toList[i]? = some e) (hks : e.key = str k) :
    ((ents.modify i fun e => { e with key := str k, val := v }).toList.map fun e => (e.key, e.born)) = ents.toList.map fun e => (e.key, e.born) := by
  rw [Array.toList_modify]
  apply List.ext_getElem?
  intro j
  rw [List.getElem?_map, List.getElem?_map, List.getElem?_modify]
  by_cases h : i = j
  · subst h
    rw [hi]
    simp [hks]
  · cases ents.toList[j]? <;> simp [h]

theorem MapOk.modify {ents : Array MapEntry} {clk : Nat} (h : MapOk ents clk) {k : List UInt8} {v : Value} {i : Nat} {e : MapEntry} (hi : ents.toList[i]? = some e) (hk : unstr e.key = k) :
    MapOk (ents.modify i fun e => { e with key := str k, val := v }) clk := by
  have hks : e.key = str k := by rw [h.keys e (List.mem_of_getElem? hi), hk]
  have hm := modify_keys (v := v) hi hks
  have h1 : (ents.modify i fun e => { e with key := str k, val := v }).toList.map (·.key) = ents.toList.map (·.key) := by
    have := congrArg (List.map (·.1)) hm
    simpa [List.map_map, Function.comp_def] using this
  have h2 : (ents.modify i fun e => { e with key := str k, val := v }).toList.map (·.born) = ents.toList.map (·.born) := by
    have := congrArg (List.map (·.2)) hm
    simpa [List.map_map, Function.comp_def] using this
  refine ⟨fun x hx => ?_, ?_, by rw [h2]; exact h.born, fun x hx => ?_⟩
  · have : x.key ∈ ents.toList.map (·.key) := by rw [← h1]; exact List.mem_map.2 ⟨x, hx, rfl⟩
    obtain ⟨y, hy, e1⟩ := List.mem_map.1 this
    rw [← e1]
    exact h.keys y hy
  · have h3 : (ents.modify i fun e => { e with key := str k, val := v }).toList.map (fun e => unstr e.key) = ents.toList.map (fun e => unstr e.key) := by
      have := congrArg (List.map unstr) h1
      simpa [List.map_map, Function.comp_def] using this
    rw [h3]
    exact h.uniq
  · have : x.born ∈ ents.toList.map (·.born) := by rw [← h2]; exact List.mem_map.2 ⟨x, hx, rfl⟩
    obtain ⟨y, hy, e1⟩ := List.mem_map.1 this
    rw [← e1]
    exact h.clock y hy

theorem MapOk.erase {ents : Array MapEntry} {clk : Nat} (h : MapOk ents clk) (i : Nat) : MapOk (ents.eraseIdxIfInBounds i) clk := by
  have hsub : (ents.eraseIdxIfInBounds i).toList.Sublist ents.toList := by
    unfold Array.eraseIdxIfInBounds
    split
    · simp only [Array.toList_eraseIdx]
      exact List.eraseIdx_sublist _ _
    · exact List.Sublist.refl _
  exact ⟨fun e he => h.keys e (hsub.subset he), (hsub.map _).nodup h.uniq, (hsub.map _).nodup h.born, fun e he => h.clock e (hsub.subset he)⟩

theorem checkKey_str {P : Program} {K : TypeId} (hK : ∀ w, (underlying K).run P w = .ok .string w) (b : Bool) (k : List UInt8) (n : Nat) (w : World) : (Instr.checkKey b (n + 1) K (str k)).run P w = .ok () w := by
  simp [Instr.checkKey, hK, str]
theorem sameBits_str (n : Nat) (k : List UInt8) : Instr.sameBits n (str k) (str k) = true := by
  have h := beq_str k k
  cases n <;> simpa [Instr.sameBits, str] using h

/-- What a write to the map leaves. -/
theorem KV.put_ex (m : KV) (k : List UInt8) (v : Value) : ∃ m' : KV, m'.list = putL m.list k v ∧
    ∀ (P : Program) (w : World) (T K E r : Nat), (∀ w, (underlying T).run P w = .ok (.map K E) w) → (∀ w, (underlying K).run P w = .ok .string w) → w.heap[r]? = some m.obj →
      (Instr.mapUpdate T (.map (some r)) (str k) v).run P w = .ok () { w with heap := w.heap.setIfInBounds r m'.obj } := by
  have run : ∀ (P : Program) (w : World) (T K E r : Nat), (∀ w, (underlying T).run P w = .ok (.map K E) w) → (∀ w, (underlying K).run P w = .ok .string w) → w.heap[r]? = some m.obj →
      (Instr.mapUpdate T (.map (some r)) (str k) v).run P w = ((match findKV m.ents.toList k 0 with
        | some (i, _) => (do let key ← Instr.keyThatStays (((m.ents[i]?).map MapEntry.key).getD (str k)) (str k); setObj r (.map (m.ents.modify i fun e => { e with key, val := v }) m.clk) : Sem Unit)
        | none => setObj r (.map (m.ents.push { key := str k, val := v, born := m.clk }) (m.clk + 1))).run P w) := by
    intro P w T K E r hT hK hr
    have hc : ∀ w, (Instr.checkKey false 10000 K (str k)).run P w = .ok () w := fun w => checkKey_str hK false k 9999 w
    have hf : ∀ w, (Instr.findKey K (str k) m.ents.toList).run P w = .ok (findKV m.ents.toList k 0) w := fun w => by
      simp [Instr.findKey, hK, findNow_str _ m.ok.keys]
    have hg : (getObj r).run P w = .ok m.obj w := by simp [getObj, Sem.run, hr, KV.obj]
    simp only [Instr.mapUpdate, Sem.run_bind, hT, Result.andThen_ok, hg, KV.obj, hc, hf]
    rfl
  cases hfk : findKV m.ents.toList k 0 with
  | none =>
    have hn := findKV_none _ _ _ hfk
    refine ⟨⟨_, _, m.ok.put k v hn⟩, ?_, fun P w T K E r hT hK hr => ?_⟩
    · have hl : m.list.lookup k = none := by rw [KV.list, ← findKV_lookup _ _ 0, hfk]; rfl
      simp [putL, hl]
      simp [KV.list, unstr_str]
    · rw [run P w T K E r hT hK hr, hfk]
      simp [setObj, Sem.run, hr, KV.obj]
  | some p =>
    obtain ⟨i, u⟩ := p
    obtain ⟨_, e, hi, hk, hu⟩ := findKV_some _ _ _ _ _ hfk
    simp only [Nat.sub_zero] at hi
    refine ⟨⟨_, _, m.ok.modify (v := v) hi hk⟩, ?_, fun P w T K E r hT hK hr => ?_⟩
    · have hl : m.list.lookup k = some u := by rw [KV.list, ← findKV_lookup _ _ 0, hfk]; rfl
      rw [putL, if_pos (by rw [hl]; rfl)]
      show (m.ents.modify i fun e => { e with key := str k, val := v }).toList.map (fun e => (unstr e.key, e.val)) = (m.ents.toList.map fun e => (unstr e.key, e.val)).map fun p => if p.1 = k then (k, v) else p
      rw [Array.toList_modify]
      apply List.ext_getElem?
      intro j
      rw [List.getElem?_map, List.getElem?_modify, List.getElem?_map, List.getElem?_map]
      by_cases hij : i = j
      · subst hij
        rw [hi]
        simp [hk, unstr_str]
      · cases hj : m.ents.toList[j]? with
        | none => simp
        | some x =>
          have hne : unstr x.key ≠ k := by
            intro hx
            have hnd := m.ok.uniq
            have e1 : (m.ents.toList.map fun e => unstr e.key)[i]? = some k := by rw [List.getElem?_map, hi]; simp [hk]
            have e2 : (m.ents.toList.map fun e => unstr e.key)[j]? = some k := by rw [List.getElem?_map, hj]; simp [hx]
            rcases Nat.lt_or_gt_of_ne hij with hlt | hlt
            · exact nodup_ne hnd hlt e1 e2 rfl
            · exact nodup_ne hnd hlt e2 e1 rfl
          simp [hij, hne]
    · rw [run P w T K E r hT hK hr, hfk]
      have hks : e.key = str k := by rw [m.ok.keys e (List.mem_of_getElem? hi), hk]
      have hi' : m.ents[i]? = some e := by simpa using hi
      have hstay : Instr.keyThatStays (str k) (str k) = pure (str k) := by
        unfold Instr.keyThatStays
        rw [if_pos (sameBits_str _ _)]
      simp [hi', hks, hstay, setObj, Sem.run, hr, KV.obj]

noncomputable def KV.put (m : KV) (k : List UInt8) (v : Value) : KV := (m.put_ex k v).choose
theorem KV.list_put (m : KV) (k : List UInt8) (v : Value) : (m.put k v).list = putL m.list k v := (m.put_ex k v).choose_spec.1

section
variable {P : Program} {W0 : World} {L : Slots} {M : Heap}

theorem iv_put {T K E : TypeId} {x y z : Operand} {i r : Nat} {m : KV} {k : List UInt8} {v : Value} (hx : opv L x = some (.map (some r))) (hy : opv L y = some (str k)) (hz : opv L z = some v) (hT : ∀ w, (underlying T).run P w = .ok (.map K E) w) (hK : ∀ w, (underlying K).run P w = .ok .string w)
    (hi : M[i]? = some (r, m.obj)) : IV P W0 L M (.mapUpdate T x y z) (fun _ M' => M' = M.set i (r, (m.put k v).obj)) :=
  iv_upd hi fun a w o ha hO hop => by
    have hh := hO.has r _ (List.mem_of_getElem? hi)
    refine ⟨_, ?_, Upd.set (o' := (m.put k v).obj) hh⟩
    have := (m.put_ex k v).choose_spec.2 P w T K E r hT hK hh
    simp only [execOp, hop, ha _ _ hx, ha _ _ hy, ha _ _ hz, Sem.run_bind, this]
    rfl
end

end Go.Proofs.Ytnnclcfklbeocaa

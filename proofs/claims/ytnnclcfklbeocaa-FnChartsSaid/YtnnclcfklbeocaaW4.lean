/-
  The walks, part 4: laws.of makes data of a value: the same tree.
  Conditions: the value lies in memory as RepS says.
-/
import Derived.Test.YtnnclcfklbeocaaW3
import Derived.Sort.Walk0
namespace Go.Proofs.Ytnnclcfklbeocaa
open Go.RowKit

variable {W0 : World}

/-! ### steps -/
section
variable {P : Program} {n : Nat} {ops : Array Oper} {Q : Exit → Act → World → Prop} {L : Slots} {M : Heap}
theorem QV.to {op : Op} {v v' : Value} (h : QV P W0 L M op v) (e : v = v') : QV P W0 L M op v' := e ▸ h
/-- The guard hangs on what was passed over itself. -/
theorem g_off2 {op : Op} {d : Nat} {ty : TypeId} {pos : String} {aft : Array Edge} {rest : List Oper} {j dj : Nat} {want : Bool} (hj : (ops[j]?).bind (·.dst) = some dj) (hl : look L dj = some undef) (hd : Nat.blt d n = true)
    (k : G P W0 n ops Q ((d, undef) :: L) M rest) : G P W0 n ops Q L M (⟨some d, op, ty, pos, aft, some (j, want)⟩ :: rest) := by
  refine ⟨fun a w ha hw => ?_⟩
  have hy : yielded ops a.tmps j = none := by
    unfold yielded
    rw [hj]
    simp only [Option.bind_some, ha.got _ _ hl]
    rfl
  refine wpList_skip ?_ (k.run _ w (ha.put hd undef) hw)
  simp only [Region.wanted, hy]
  rfl
/-- One result, a struct that lies in memory, of which less is kept. -/
theorem e_retcF {fn : Func} {R : Value → Heap → Prop} {M' : Heap} {e : Exit} {t : Tmp} {T : TypeId} {b off : Nat} {cs : Array Value} {E' : TypeId} {fz : Nat × Nat} {vs : List Value} (hf : Fits M M')
    (he : e = .ret ∨ e = .normal) (hr : fn.results = #[.cell t T]) (hA : ∀ w, (isAgg T).run P w = .ok true w) (hS : ∀ w, (sizeOf T).run P w = .ok vs.length w) (hv : look L t = some (.pointer (some ⟨b, off, none⟩)))
    (hm : (b, Obj.cells cs E' fz) ∈ M) (hc : ∀ j u, vs[j]? = some u → cs[off + j]? = some u) (h : R (.agg vs.toArray) M') : E W0 n (bodyPost P fn (TriPost W0 R)) L M e := by
  refine ⟨fun a w ha hw => ?_⟩
  have hg := ha.got _ _ hv
  have hl := run_loadVar_agg hw.rd (P := P) (off := off) hA hS hm hc
  have hp : a.defers = [] ∧ ∃ v, (results fn a.tmps).run P w = .ok v w ∧ TriPost W0 R (.returned v) w :=
    ⟨ha.defers, .agg vs.toArray, by simp [results, hr, hg, asAddr, hl], _, M', rfl, h, hw.fits hf⟩
  rcases he with rfl | rfl <;> exact hp
end
theorem all_dCells {kk : Int} {x : Bool} {i : Int} {s : Key} {p1 p2 : Option Addr} {n1 n2 c1 c2 : Nat} : (dCells kk x i s (.slice p1 n1 c1) (.slice p2 n2 c2)).all (·.oneCell') = true := by simp [dCells, str, Value.oneCell']
theorem lookup_of_mem {α : Type} : ∀ {l : List (Key × α)}, (l.map (·.1)).Nodup → ∀ {p : Key × α}, p ∈ l → l.lookup p.1 = some p.2
  | [], _, _, hp => by cases hp
  | (k, a) :: l, hn, p, hp => by
    rw [List.map_cons, List.nodup_cons] at hn
    rw [List.lookup_cons]
    rcases List.mem_cons.1 hp with rfl | h
    · simp
    · have hne : p.1 ≠ k := fun e => hn.1 (List.mem_map.2 ⟨p, h, e⟩)
      rw [show (p.1 == k) = false by simpa using hne]
      exact lookup_of_mem hn.2 h
theorem bytesLess_true {s t : Key} (h : s < t) : Op.bytesLess s t = true := by rw [bytesLess_eq]; exact decide_eq_true h
theorem bytesLess_false {s t : Key} (h : ¬ s < t) : Op.bytesLess s t = false := by rw [bytesLess_eq]; exact decide_eq_false h
theorem gts_true {s t : Key} (h : t < s) : (!(Op.bytesLess s t || s == t)) = true := by
  have h1 : ¬ s < t := List.lt_asymm h
  have h2 : s ≠ t := fun e => by subst e; exact List.lt_irrefl _ h
  rw [bytesLess_false h1]
  simpa using h2
theorem gts_false {s t : Key} (h : ¬ t < s) : (!(Op.bytesLess s t || s == t)) = false := by
  by_cases h1 : s < t
  · rw [bytesLess_true h1]; rfl
  · have : s = t := List.le_antisymm (List.not_lt.1 h) (List.not_lt.1 h1)
    subst this
    simp

/-! ### the least key above the last -/
def lastOf (es : List (Key × T)) : Nat → Option Key
  | 0 => none
  | k + 1 => (es.map (·.1))[k]?
def Cand (last : Option Key) (k : Key) : Prop := ∀ l, last = some l → l < k
def Sel (last : Option Key) (kv : KV) (seen : Array Nat) (least : Key) (hav : Bool) : Prop :=
  (hav = false → ∀ p ∈ kv.list, p ∈ kv.left seen ∨ ¬ Cand last p.1) ∧
  (hav = true → Cand last least ∧ (∃ p ∈ kv.list, p.1 = least) ∧ ∀ p ∈ kv.list, p ∈ kv.left seen ∨ ¬ Cand last p.1 ∨ least ≤ p.1)

theorem Sel.start (last : Option Key) (kv : KV) (least : Key) : Sel last kv #[] least false :=
  ⟨fun _ p hp => Or.inl (by rw [KV.left_start]; exact hp), fun h => by cases h⟩
theorem KV.cur_mem {m : KV} {seen : Array Nat} {k : Key} {v : Value} (h : m.cur seen k v) : (k, v) ∈ m.list := by
  obtain ⟨_, e, _, he, rfl, rfl⟩ := h
  exact List.mem_map.2 ⟨e, he, rfl⟩

theorem Sel.take {last : Option Key} {kv : KV} {seen seen' : Array Nat} {least key : Key} {hav : Bool} {u : Value} (h : Sel last kv seen least hav) (hp : (kv.left seen).Perm ((key, u) :: kv.left seen')) (hc : kv.cur seen' key u) (hcand : Cand last key) (hb : hav = false ∨ key < least) :
    Sel last kv seen' key true := by
  refine ⟨fun h => (by cases h), fun _ => ⟨hcand, ⟨_, KV.cur_mem hc, rfl⟩, fun p hpm => ?_⟩⟩
  have key1 : p ∈ kv.left seen → p ∈ kv.left seen' ∨ ¬ Cand last p.1 ∨ key ≤ p.1 := fun hin => by
    rcases List.mem_cons.1 (hp.mem_iff.1 hin) with rfl | h1
    · exact Or.inr (Or.inr (List.le_refl _))
    · exact Or.inl h1
  cases hav with
  | false =>
    rcases h.1 rfl p hpm with h1 | h1
    · exact key1 h1
    · exact Or.inr (Or.inl h1)
  | true =>
    rcases (h.2 rfl).2.2 p hpm with h1 | h1 | h1
    · exact key1 h1
    · exact Or.inr (Or.inl h1)
    · rcases hb with hb | hb
      · cases hb
      · exact Or.inr (Or.inr (List.le_trans (List.le_of_lt hb) h1))

theorem Sel.skip {last : Option Key} {kv : KV} {seen seen' : Array Nat} {least key : Key} {hav : Bool} {u : Value} (h : Sel last kv seen least hav) (hp : (kv.left seen).Perm ((key, u) :: kv.left seen')) (hb : ¬ Cand last key ∨ (hav = true ∧ ¬ key < least)) :
    Sel last kv seen' least hav := by
  refine ⟨fun hf p hpm => ?_, fun ht => ⟨(h.2 ht).1, (h.2 ht).2.1, fun p hpm => ?_⟩⟩
  · subst hf
    rcases h.1 rfl p hpm with h1 | h1
    · rcases List.mem_cons.1 (hp.mem_iff.1 h1) with rfl | h2
      · rcases hb with hb | ⟨hb, _⟩
        · exact Or.inr hb
        · cases hb
      · exact Or.inl h2
    · exact Or.inr h1
  · rcases (h.2 ht).2.2 p hpm with h1 | h1 | h1
    · rcases List.mem_cons.1 (hp.mem_iff.1 h1) with rfl | h2
      · rcases hb with hb | ⟨_, hb⟩
        · exact Or.inr (Or.inl hb)
        · exact Or.inr (Or.inr (List.not_lt.1 hb))
      · exact Or.inl h2
    · exact Or.inr (Or.inl h1)
    · exact Or.inr (Or.inr h1)

/-- When all keys were seen, the least is the next of the sorted ones. -/
theorem Sel.done {es : List (Key × T)} {kv : KV} {seen : Array Nat} {least : Key} {hav : Bool} {j : Nat} {p : Key × T} (hok : KeysOk es) (hkeys : ∀ k, k ∈ kv.list.map (·.1) ↔ k ∈ es.map (·.1)) (h : Sel (lastOf es j) kv seen least hav) (hl : kv.left seen = [])
    (hp : es[j]? = some p) : least = p.1 := by
  have hs := hok.1
  have hj : (es.map (·.1))[j]? = some p.1 := by rw [List.getElem?_map, hp]; rfl
  have hlt : ∀ {i i' : Nat} {a b : Key}, i < i' → (es.map (·.1))[i]? = some a → (es.map (·.1))[i']? = some b → a < b := fun {i i' a b} hii ha hb => by
    obtain ⟨h1, rfl⟩ := List.getElem?_eq_some_iff.1 ha
    obtain ⟨h2, rfl⟩ := List.getElem?_eq_some_iff.1 hb
    exact List.pairwise_iff_getElem.1 hs _ _ h1 h2 hii
  have hcp : Cand (lastOf es j) p.1 := fun l hl => by
    cases j with
    | zero => cases hl
    | succ j => exact hlt (Nat.lt_succ_self j) hl hj
  obtain ⟨q, hq, hqe⟩ := List.mem_map.1 ((hkeys p.1).2 (List.mem_of_getElem? hj))
  cases hav with
  | false =>
    rcases h.1 rfl q hq with h1 | h1
    · rw [hl] at h1; cases h1
    · rw [hqe] at h1; exact absurd hcp h1
  | true =>
    obtain ⟨hc, ⟨q', hq', hqe'⟩, hmin⟩ := h.2 rfl
    have h1 : least ≤ p.1 := by
      rcases hmin q hq with h1 | h1 | h1
      · rw [hl] at h1; cases h1
      · rw [hqe] at h1; exact absurd hcp h1
      · rw [hqe] at h1; exact h1
    obtain ⟨i, hi⟩ := List.getElem?_of_mem ((hkeys least).1 (List.mem_map.2 ⟨q', hq', hqe'⟩))
    have hij : j ≤ i := by
      cases j with
      | zero => exact Nat.zero_le _
      | succ j =>
        obtain ⟨l, hl'⟩ : ∃ l, (es.map (·.1))[j]? = some l := ⟨_, List.getElem?_eq_getElem (by have := (List.getElem?_eq_some_iff.1 hj).1; omega)⟩
        have h2 := hc l hl'
        rcases Nat.lt_or_ge j i with h3 | h3
        · exact h3
        · rcases Nat.lt_or_ge i j with h4 | h4
          · exact absurd (hlt h4 hi hl') (List.lt_asymm h2)
          · obtain rfl : i = j := by omega
            rw [hi] at hl'
            cases hl'
            exact absurd h2 (List.lt_irrefl _)
    rcases Nat.lt_or_ge j i with h3 | h3
    · exact absurd (hlt h3 hj hi) (List.not_lt.2 h1)
    · obtain rfl : i = j := by omega
      rw [hi] at hj
      cases hj
      rfl

/-! ### shapes -/
theorem RepD.agg : ∀ {n : Nat} {t : T} {r : Value} {m : Heap}, RepD n t r m → ∃ kk x i s p1 n1 c1 p2 n2 c2, r = .agg (dCells kk x i s (.slice p1 n1 c1) (.slice p2 n2 c2)) := by
  intro n t r m h
  have h' : RepD1 (fun _ _ _ => True) t r m := by
    cases n with
    | zero => exact RepD1.mono (fun _ _ _ _ => trivial) h
    | succ n => exact RepD1.mono (fun _ _ _ _ => trivial) h
  cases t with
  | null => exact ⟨_, _, _, _, _, _, _, _, _, _, h'.1⟩
  | truth x => exact ⟨_, _, _, _, _, _, _, _, _, _, h'.1⟩
  | int x => exact ⟨_, _, _, _, _, _, _, _, _, _, h'.1⟩
  | text x => exact ⟨_, _, _, _, _, _, _, _, _, _, h'.1⟩
  | one x =>
    obtain ⟨it, h1, hr⟩ := h'
    obtain ⟨_, _, rfl⟩ := hr.shape
    exact ⟨_, _, _, _, _, _, _, _, _, _, h1⟩
  | tab es =>
    obtain ⟨it, ks, mi, mk, cs, mc, h1, _, hr1, hr2, _⟩ := h'
    obtain ⟨_, _, rfl⟩ := hr1.shape
    obtain ⟨_, _, rfl⟩ := hr2.shape
    exact ⟨_, _, _, _, _, _, _, _, _, _, h1⟩

/-- What laws.of reads of a value. -/
theorem RepS.shape {n : Nat} {t : T} {v : Value} {m : Heap} (h : RepS n t v m) : ∃ b kk x i s p N c mp mm, v = ptr b ∧ m = (b, Obj.cells (sCells kk x i s (.slice p N c) mp) 40 (0, 0)) :: mm ∧ N ≤ 1 ∧
    (N = 1 → ∃ y g cs bx, t = .one y ∧ p = some ⟨g, 0, none⟩ ∧ cs.toList[0 + 0 * 1]? = some (ptr bx) ∧ (g, Obj.cells cs 24 (0, 0)) ∈ mm ∧ (bx, Obj.cells (sCells 2 false y [] nilS nilM) 40 (0, 0)) ∈ mm) ∧
    (kk ≠ 6 → ∀ (itv : Value) (mj : Heap) (xs : List Value), Row 32 7 itv N xs mj → (N = 0 → itv = nilS ∧ mj = []) → (N = 1 → ∃ y, t = .one y ∧ xs = (dCells 2 false y [] nilS nilS).toList) → RepD n t (.agg (dCells kk x i s itv nilS)) mj) ∧
    (kk = 6 → N = 0 ∧ x = false ∧ i = 0 ∧ s = [] ∧ ∃ es r kv kts mk, t = .tab es ∧ mp = .map (some r) ∧ KeysOk es ∧ kts.Perm es ∧ Kids (fun t v m => ∃ n', n' < n ∧ RepS n' t v m) kts kv.list mk ∧ mm = (r, KV.obj kv) :: mk) := by
  have h' : RepS1 (fun t v m => ∃ n', n' < n ∧ RepS n' t v m) t v m := by
    cases n with
    | zero => exact RepS1.mono (fun _ _ _ hf => hf.elim) h
    | succ n => exact RepS1.mono (fun _ _ _ hf => ⟨n, Nat.lt_succ_self n, hf⟩) h
  cases t with
  | tab es =>
    obtain ⟨b, r, kv, kts, mk, hv, hok, hp, hk, hm⟩ := h'
    exact ⟨b, 6, _, _, _, _, _, _, _, _, hv, hm, Nat.zero_le _, fun e => (by cases e), fun e => absurd rfl e, fun _ => ⟨rfl, rfl, rfl, rfl, es, r, kv, kts, mk, rfl, rfl, hok, hp, hk, rfl⟩⟩
  | one y =>
    obtain ⟨b, it, mi, bx, hv, hrow, hm⟩ := h'
    obtain ⟨g, cap, cs, rfl, rfl, hcs⟩ := hrow.block (by decide)
    refine ⟨b, 5, _, _, _, _, _, _, _, _, hv, hm, Nat.le_refl _, fun _ => ⟨y, g, cs, bx, rfl, rfl, by simpa using hcs 0 _ rfl, by simp, by simp⟩, fun _ itv mj xs hr _ h1 => ?_, fun e => by cases e⟩
    obtain ⟨y', e, rfl⟩ := h1 rfl
    cases e
    cases n <;> exact ⟨itv, rfl, hr⟩
  | null => obtain ⟨b, hv, hm⟩ := h'; exact ⟨b, 0, _, _, _, _, _, _, _, _, hv, hm, Nat.zero_le _, fun e => (by cases e), fun _ itv mj xs _ h0 _ => (by obtain ⟨rfl, rfl⟩ := h0 rfl; cases n <;> exact ⟨rfl, rfl⟩), fun e => by cases e⟩
  | truth x => obtain ⟨b, hv, hm⟩ := h'; exact ⟨b, 1, _, _, _, _, _, _, _, _, hv, hm, Nat.zero_le _, fun e => (by cases e), fun _ itv mj xs _ h0 _ => (by obtain ⟨rfl, rfl⟩ := h0 rfl; cases n <;> exact ⟨rfl, rfl⟩), fun e => by cases e⟩
  | int x => obtain ⟨b, hv, hm⟩ := h'; exact ⟨b, 2, _, _, _, _, _, _, _, _, hv, hm, Nat.zero_le _, fun e => (by cases e), fun _ itv mj xs _ h0 _ => (by obtain ⟨rfl, rfl⟩ := h0 rfl; cases n <;> exact ⟨rfl, rfl⟩), fun e => by cases e⟩
  | text x => obtain ⟨b, hv, hm⟩ := h'; exact ⟨b, 4, _, _, _, _, _, _, _, _, hv, hm, Nat.zero_le _, fun e => (by cases e), fun _ itv mj xs _ h0 _ => (by obtain ⟨rfl, rfl⟩ := h0 rfl; cases n <;> exact ⟨rfl, rfl⟩), fun e => by cases e⟩

def OfSpec (W0 : World) (n : Nat) (t : T) : Prop := ∀ v mv M, RepS n t v mv → (∀ x, x ∈ mv → x ∈ M) → Tri Try.prog W0 12 [v] M fun r M' => ∃ m', RepD n t r m' ∧ M' = M ++ m'

theorem mem_row {a b x : Nat × Obj} {mi mk F : Heap} (h : x ∈ mk) : x ∈ a :: b :: (mi ++ (mk ++ F)) := .tail _ (.tail _ (List.mem_append_right _ (List.mem_append_left _ h)))
theorem mem_deep {a b x : Nat × Obj} {mi mk M mc : Heap} (h : x ∈ M) : x ∈ a :: b :: (mi ++ (mk ++ (M ++ mc))) := .tail _ (.tail _ (List.mem_append_right _ (List.mem_append_right _ (List.mem_append_left _ h))))

set_option maxHeartbeats 4000000 in
theorem of_step (n : Nat) (t : T) (hone : ∀ y, t = .one y → OfSpec W0 0 (.int y)) (hsub : ∀ es, t = .tab es → ∀ p, p ∈ es → ∀ n', n' < n → OfSpec W0 n' p.2) : OfSpec W0 n t := by
  intro v mv M hv hmv
  obtain ⟨b, kk, x, i, s, p, N, c, mp, mm, rfl, rfl, hN, hN1, hnot, htab⟩ := hv.shape
  have hb := hmv _ m0
  have hmm : ∀ x, x ∈ mm → x ∈ M := fun x hx => hmv _ (.tail _ hx)
  refine tri_of 115 Try.func12 rfl Try.ntmps12 (Nat.le_of_ble_eq_true rfl) ?_
  refine c_seq ?_
  refine c_region ?_   -- region 0
  refine g_i (iv_alloc Try.zeroValue32) rfl ?_
  rintro _ _ ⟨b2, rfl, rfl⟩
  refine g_nil ?_
  refine e_seq ?_
  refine c_seq ?_
  refine c_drawM (fun i => !(i == 22)) Try.mixed ?_
  refine d_takeW 0 rfl (by kernel_rfl) (by kernel_rfl) (by kernel_rfl) rfl (fun _ => qv_move rfl) ?_
  refine d_takeW 1 rfl (by kernel_rfl) (by kernel_rfl) (by kernel_rfl) rfl (fun _ => qv_nil rfl) ?_
  refine d_takeW 2 rfl (by kernel_rfl) (by kernel_rfl) (by kernel_rfl) rfl (fun _ => qv_field rfl Try.runUnderlying40 rfl Try.sizeOf3 rfl) ?_
  refine d_take 3 rfl (by kernel_rfl) (by kernel_rfl) (by kernel_rfl) (by kernel_rfl) rfl (qv_load (v := .int .i64 kk) rfl Try.isAgg3 (.tail _ hb) rfl) (fun _ h => h) ?_
  refine d_takeW 4 rfl (by kernel_rfl) (by kernel_rfl) (by kernel_rfl) rfl (fun _ => qv_move rfl) ?_
  refine d_takeW 5 rfl (by kernel_rfl) (by kernel_rfl) (by kernel_rfl) rfl (fun _ => qv_nil rfl) ?_
  refine d_takeW 6 rfl (by kernel_rfl) (by kernel_rfl) (by kernel_rfl) rfl (fun _ => qv_field rfl Try.runUnderlying40 rfl Try.sizeOf4 rfl) ?_
  refine d_take 7 rfl (by kernel_rfl) (by kernel_rfl) (by kernel_rfl) (by kernel_rfl) rfl (qv_load (v := .bool x) rfl Try.isAgg4 (.tail _ hb) rfl) (fun _ h => h) ?_
  refine d_takeW 8 rfl (by kernel_rfl) (by kernel_rfl) (by kernel_rfl) rfl (fun _ => qv_move rfl) ?_
  refine d_takeW 9 rfl (by kernel_rfl) (by kernel_rfl) (by kernel_rfl) rfl (fun _ => qv_nil rfl) ?_
  refine d_takeW 10 rfl (by kernel_rfl) (by kernel_rfl) (by kernel_rfl) rfl (fun _ => qv_field rfl Try.runUnderlying40 rfl Try.sizeOf2 rfl) ?_
  refine d_take 11 rfl (by kernel_rfl) (by kernel_rfl) (by kernel_rfl) (by kernel_rfl) rfl (qv_load (v := .int .i64 i) rfl Try.isAgg2 (.tail _ hb) rfl) (fun _ h => h) ?_
  refine d_takeW 12 rfl (by kernel_rfl) (by kernel_rfl) (by kernel_rfl) rfl (fun _ => qv_move rfl) ?_
  refine d_takeW 13 rfl (by kernel_rfl) (by kernel_rfl) (by kernel_rfl) rfl (fun _ => qv_nil rfl) ?_
  refine d_takeW 14 rfl (by kernel_rfl) (by kernel_rfl) (by kernel_rfl) rfl (fun _ => qv_field rfl Try.runUnderlying40 rfl Try.sizeOf29 rfl) ?_
  refine d_take 15 rfl (by kernel_rfl) (by kernel_rfl) (by kernel_rfl) (by kernel_rfl) rfl (qv_load (v := .int .u64 0) rfl Try.isAgg29 (.tail _ hb) rfl) (fun _ h => h) ?_
  refine d_takeW 16 rfl (by kernel_rfl) (by kernel_rfl) (by kernel_rfl) rfl (fun _ => qv_move rfl) ?_
  refine d_takeW 17 rfl (by kernel_rfl) (by kernel_rfl) (by kernel_rfl) rfl (fun _ => qv_nil rfl) ?_
  refine d_takeW 18 rfl (by kernel_rfl) (by kernel_rfl) (by kernel_rfl) rfl (fun _ => qv_field rfl Try.runUnderlying40 rfl Try.sizeOf9 rfl) ?_
  refine d_take 19 rfl (by kernel_rfl) (by kernel_rfl) (by kernel_rfl) (by kernel_rfl) rfl (qv_load (v := str s) rfl Try.isAgg9 (.tail _ hb) rfl) (fun _ h => h) ?_
  refine d_takeW 20 rfl (by kernel_rfl) (by kernel_rfl) (by kernel_rfl) rfl (fun _ => qv_build (vs := [(0, .int .i64 kk), (1, .bool x), (2, .int .i64 i), (3, .int .u64 0), (4, str s)]) (cs := dCells kk x i s nilS nilS) lay32 ⟨rfl, rfl, rfl, rfl, rfl, rfl, rfl, rfl, rfl, rfl, trivial⟩ rfl) ?_
  refine d_run 21 rfl (by kernel_rfl) rfl (iv_allocA Try.zeroValue32) (by rintro _ _ ⟨_, _, rfl⟩ _ x hx; exact .tail _ hx) ?_
  rintro _ _ ⟨b3, rfl, rfl⟩
  refine d_run0 22 rfl (by kernel_rfl) (iv_storeA (i := 0) rfl rfl all_dCells Try.sizeOf32 rfl rfl) (fun _ _ _ h => by cases h) ?_
  rintro _ _ rfl
  refine d_done (by kernel_rfl) ?_
  refine e_seq ?_
  refine c_seq ?_
  refine c_seq ?_
  refine c_region ?_   -- region 2
  refine g_q (qv_move rfl) rfl ?_
  refine g_q (qv_nil rfl) rfl ?_
  refine g_q (qv_field rfl Try.runUnderlying40 rfl Try.sizeOf37 rfl) rfl ?_
  refine g_q (qv_load (v := .slice p N c) rfl Try.isAgg37 (.tail _ (.tail _ hb)) rfl) rfl ?_
  refine g_q (qv_len_slice rfl Try.runUnderlying37) rfl ?_
  refine g_q (qv_move rfl) rfl ?_
  refine g_nil ?_
  refine e_seq ?_
  refine c_block ?_
  refine c_keep (L' := [(0, ptr b), (2, ptr b2), (3, ptr b3), (33, .slice p N c), (34, .int .i64 (N : Int)), (35, .int .i64 ((0 : Nat) : Int))]) ⟨rfl, rfl, rfl, rfl, rfl, rfl, trivial⟩ ?_
  refine c_to (M' := (b3, .cells (dCells kk x i s nilS nilS) 32 (0, 0)) :: (b2, .cells (dCells 0 false 0 [] nilS nilS) 32 (0, 0)) :: (M ++ [])) (by rw [List.append_nil]; exact Fits.refl _) ?_
  refine c_loop (ι := Nat) (fun j L M' => ∃ itv mj xs, L = [(0, ptr b), (2, ptr b2), (3, ptr b3), (33, .slice p N c), (34, .int .i64 (N : Int)), (35, .int .i64 (j : Int))] ∧ j ≤ N ∧ Row 32 7 itv j xs mj ∧ (j = 0 → itv = nilS ∧ mj = [] ∧ xs = []) ∧ (j = 1 → ∃ y, t = .one y ∧ xs = (dCells 2 false y [] nilS nilS).toList) ∧
    M' = (b3, .cells (dCells kk x i s itv nilS) 32 (0, 0)) :: (b2, .cells (dCells 0 false 0 [] nilS nilS) 32 (0, 0)) :: (M ++ mj)) (fun j => N - j) 0 ⟨nilS, [], [], rfl, Nat.zero_le _, Row.nil _ _, fun _ => ⟨rfl, rfl, rfl⟩, fun e => (by cases e), rfl⟩ ?_
  rintro j _ _ ⟨itv, mj, xs, rfl, hj, hrow, h0, h1, rfl⟩
  refine c_seq ?_
  refine c_region ?_   -- region 3
  refine g_q (qv_lss rfl rfl) rfl ?_
  refine g_nil ?_
  refine e_seq ?_
  refine c_seq ?_
  refine c_cond rfl (fun hc => ?_) (fun hc => ?_)   -- t36
  · -- true
    refine c_skip ?_
    refine e_seq ?_
    refine c_seq ?_
    refine c_block ?_
    refine c_seq ?_
    refine c_region ?_   -- region 4
    have hjN : j < N := by
      have := of_decide_eq_true hc
      omega
    obtain rfl : j = 0 := by omega
    obtain rfl : N = 1 := by omega
    obtain ⟨rfl, rfl, rfl⟩ := h0 rfl
    obtain ⟨y, g, cs, bx, ht, rfl, hcs, hg, hbx⟩ := hN1 rfl
    have hg' := hmm _ hg
    have hbx' := hmm _ hbx
    refine g_q (qv_index rfl rfl Try.runUnderlying37 Try.sizeOf24 (by omega) (by omega)) rfl ?_
    refine g_q (qv_load (v := ptr bx) rfl Try.isAgg24 (.tail _ (.tail _ (List.mem_append_left _ hg'))) hcs) rfl ?_
    refine g_q (qv_assign rfl) rfl ?_
    refine g_nil ?_
    refine e_seq ?_
    refine c_draw [(b3, .cells (dCells kk x i s nilS nilS) 32 (0, 0))] (fun i => !(i == 7)) Try.mixed ?_
    refine d_takeW 0 rfl (by kernel_rfl) (by kernel_rfl) (by kernel_rfl) rfl (fun _ => qv_field rfl Try.runUnderlying32 rfl Try.sizeOf30 rfl) ?_
    refine d_take 1 rfl (by kernel_rfl) (by kernel_rfl) (by kernel_rfl) (by kernel_rfl) rfl (qv_load (v := nilS) rfl Try.isAgg30 m0 rfl) (fun x hx => by rw [List.mem_singleton.1 hx]; exact m0) ?_
    refine d_takeW 2 rfl (by kernel_rfl) (by kernel_rfl) (by kernel_rfl) rfl (fun _ => qv_move rfl) ?_
    refine d_run 3 rfl (by kernel_rfl) rfl (iv_call (vs := [ptr bx]) Try.call12 ⟨rfl, trivial⟩ (hone y ht (ptr bx) [(bx, .cells (sCells 2 false y [] nilS nilM) 40 (0, 0))] _ ⟨bx, rfl, rfl⟩ (fun x hx => by rw [List.mem_singleton.1 hx]; exact .tail _ (.tail _ (List.mem_append_left _ hbx'))))) (by rintro _ _ ⟨m', _, rfl⟩ _ x hx; rw [List.mem_singleton.1 hx]; exact m0) ?_
    rintro _ _ ⟨_, ⟨rfl, rfl⟩, rfl⟩
    refine d_run 4 rfl (by kernel_rfl) rfl (iv_buildSlice (vs := [(0, .agg (dCells 2 false y [] nilS nilS))]) (cs := dCells 2 false y [] nilS nilS) Try.runUnderlying30 Try.sizeOf32 Try.zeroValue32 ⟨rfl, rfl, trivial⟩ rfl (by kernel_rfl) rfl) (by rintro _ _ ⟨_, _, rfl⟩ _ x hx; rw [List.mem_singleton.1 hx]; exact m1) ?_
    rintro _ _ ⟨bs, rfl, rfl⟩
    refine d_run 5 rfl (by kernel_rfl) rfl (iv_append (pre := [(b3, .cells (dCells kk x i s nilS nilS) 32 (0, 0))]) (m := []) (F := (b2, .cells (dCells 0 false 0 [] nilS nilS) 32 (0, 0)) :: (M ++ [] ++ [])) (k := 1) rfl rfl Try.underlying30 info32 rfl rfl rfl hrow rfl all_dCells (by decide) (by decide) (by omega) rfl) (by rintro _ _ ⟨_, _, rfl⟩ _ x hx; rw [List.mem_singleton.1 hx]; exact m0) ?_
    rintro v1 _ ⟨m1, hrow1, rfl⟩
    obtain ⟨p1, c1, rfl⟩ := hrow1.shape
    refine d_takeW 6 rfl (by kernel_rfl) (by kernel_rfl) (by kernel_rfl) rfl (fun _ => qv_field rfl Try.runUnderlying32 rfl Try.sizeOf30 rfl) ?_
    refine d_run0 7 rfl (by kernel_rfl) (iv_store (i := 0) rfl rfl rfl Try.sizeOf30 rfl (Nat.le_of_ble_eq_true rfl)) (fun _ _ _ h => by cases h) ?_
    rintro _ _ rfl
    refine d_done (by kernel_rfl) ?_
    refine e_normal_block ?_
    refine e_seq ?_
    refine c_region ?_   -- region 6
    refine g_q (qv_add (c := ((1 : Nat) : Int)) rfl rfl (by decide)) rfl ?_
    refine g_q (qv_move rfl) rfl ?_
    refine g_nil ?_
    refine e_to (M' := (b3, .cells (dCells kk x i s (.slice p1 1 c1) nilS) 32 (0, 0)) :: (b2, .cells (dCells 0 false 0 [] nilS nilS) 32 (0, 0)) :: (M ++ m1)) (fun f => by simp [dCells] <;> omega) ?_
    exact e_again 1 (by omega) (L' := [(0, ptr b), (2, ptr b2), (3, ptr b3), (33, .slice (some ⟨g, 0, none⟩) 1 c), (34, .int .i64 ((1 : Nat) : Int)), (35, .int .i64 ((1 : Nat) : Int))]) ⟨rfl, rfl, rfl, rfl, rfl, rfl, trivial⟩ ⟨.slice p1 1 c1, m1, _, rfl, Nat.le_refl _, hrow1, fun e => (by cases e), fun _ => ⟨y, ht, rfl⟩, rfl⟩
  · -- false
    refine c_exit ?_
    refine e_exit_then ?_
    refine e_exit_then ?_
    refine e_exit_block ?_
    refine e_seq ?_
    refine c_seq ?_
    refine c_seq ?_
    refine c_region ?_   -- region 7
    obtain rfl : j = N := by
      have := of_decide_eq_false hc
      omega
    refine g_q (qv_move rfl) rfl ?_
    refine g_q (qv_nil rfl) rfl ?_
    refine g_q (qv_field rfl Try.runUnderlying40 rfl Try.sizeOf3 rfl) rfl ?_
    refine g_q (qv_load (v := .int .i64 kk) rfl Try.isAgg3 (.tail _ (.tail _ (List.mem_append_left _ hb))) rfl) rfl ?_
    refine g_q (qv_eqi rfl rfl) rfl ?_
    refine g_nil ?_
    refine e_seq ?_
    refine c_cond rfl (fun hc => ?_) (fun hc => ?_)   -- t51
    · -- true
      refine c_block ?_
      have hkk : kk = 6 := of_decide_eq_true hc
      obtain ⟨rfl, rfl, rfl, rfl, es, r, kv, kts, mk, rfl, rfl, hok, hperm, hkids, rfl⟩ := htab hkk
      subst hkk
      obtain ⟨rfl, rfl, rfl⟩ := h0 rfl
      have hr := hmm _ m0
      have hkeys : ∀ k, k ∈ kv.list.map (·.1) ↔ k ∈ es.map (·.1) := fun k => by rw [← hkids.keys]; exact (hperm.map (·.1)).mem_iff
      have hlen : kv.list.length = es.length := by
        have h2 := congrArg List.length hkids.keys
        simp only [List.length_map] at h2
        rw [← h2, hperm.length_eq]
      have hlen6 := hok.len
      refine c_keep (L' := [(0, ptr b), (2, ptr b2), (3, ptr b3)]) ⟨rfl, rfl, rfl, trivial⟩ ?_
      refine c_loop (ι := Nat) (fun k L M' => L = [(0, ptr b), (2, ptr b2), (3, ptr b3)] ∧ k ≤ es.length ∧ ∃ itv ksv mi mkk cs mc, Row 9 1 ksv k ((es.take k).map fun p => str p.1) mkk ∧ Row 32 7 itv k cs mi ∧ DKids (fun t v m => ∃ n', n' < n ∧ RepD n' t v m) (es.take k) cs mc ∧
        M' = (b3, .cells (dCells 6 false 0 [] itv ksv) 32 (0, 0)) :: (b2, .cells (dCells 0 false 0 [] nilS nilS) 32 (0, 0)) :: (mi ++ (mkk ++ (M ++ mc)))) (fun k => es.length - k) 0 ⟨rfl, Nat.zero_le _, nilS, nilS, [], [], [], [], Row.nil _ _, Row.nil _ _, ⟨rfl, rfl⟩, rfl⟩ ?_
      rintro k _ _ ⟨rfl, hk, itv, ksv, mi, mkk, ics, mc, hrowk, hrowi, hkd, rfl⟩
      obtain ⟨p2, c2, rfl⟩ := hrowk.shape
      refine c_seq ?_
      refine c_seq ?_
      refine c_drawM (fun _ => true) Try.mixed ?_
      refine d_takeW 0 rfl (by kernel_rfl) (by kernel_rfl) (by kernel_rfl) rfl (fun _ => qv_field rfl Try.runUnderlying32 rfl Try.sizeOf27 rfl) ?_
      refine d_take 1 rfl (by kernel_rfl) (by kernel_rfl) (by kernel_rfl) (by kernel_rfl) rfl (qv_load (v := .slice p2 k c2) rfl Try.isAgg27 m0 rfl) (fun _ h => h) ?_
      refine d_takeW 2 rfl (by kernel_rfl) (by kernel_rfl) (by kernel_rfl) rfl (fun _ => qv_len_slice rfl Try.runUnderlying27) ?_
      refine d_takeW 3 rfl (by kernel_rfl) (by kernel_rfl) (by kernel_rfl) rfl (fun _ => qv_move rfl) ?_
      refine d_takeW 4 rfl (by kernel_rfl) (by kernel_rfl) (by kernel_rfl) rfl (fun _ => qv_nil rfl) ?_
      refine d_takeW 5 rfl (by kernel_rfl) (by kernel_rfl) (by kernel_rfl) rfl (fun _ => qv_field rfl Try.runUnderlying40 rfl Try.sizeOf38 rfl) ?_
      refine d_take 6 rfl (by kernel_rfl) (by kernel_rfl) (by kernel_rfl) (by kernel_rfl) rfl (qv_load (v := .map (some r)) rfl Try.isAgg38 (mem_deep hb) rfl) (fun _ h => h) ?_
      refine d_take 7 rfl (by kernel_rfl) (by kernel_rfl) (by kernel_rfl) (by kernel_rfl) rfl (qv_len_map rfl Try.runUnderlying38 (mem_deep hr)) (fun _ h => h) ?_
      refine d_takeW 8 rfl (by kernel_rfl) (by kernel_rfl) (by kernel_rfl) rfl (fun _ => qv_lss rfl rfl) ?_
      refine d_done (by kernel_rfl) ?_
      refine e_seq ?_
      refine c_cond rfl (fun hc => ?_) (fun hc => ?_)   -- t60
      · -- true
        refine c_skip ?_
        refine e_seq ?_
        refine c_block ?_
        refine c_seq ?_
        refine c_region ?_   -- region 9
        refine g_q (qv_assign rfl) rfl ?_
        refine g_q (qv_assign rfl) rfl ?_
        refine g_nil ?_
        refine e_seq ?_
        refine c_seq ?_
        refine c_seq ?_
        refine c_region ?_   -- region 10
        refine g_q (qv_move rfl) rfl ?_
        refine g_q (qv_nil rfl) rfl ?_
        refine g_q (qv_field rfl Try.runUnderlying40 rfl Try.sizeOf38 rfl) rfl ?_
        have hklt : k < es.length := by
          have := of_decide_eq_true hc
          omega
        refine g_q (qv_load (v := .map (some r)) rfl Try.isAgg38 (mem_deep hb) rfl) rfl ?_
        refine g_i (iv_range (m := kv) rfl Try.runUnderlying38 (mem_deep hr)) rfl ?_
        rintro _ _ ⟨it, rfl, rfl⟩
        refine g_nil ?_
        refine e_seq ?_
        refine c_block ?_
        refine c_keep (L' := [(0, ptr b), (2, ptr b2), (3, ptr b3), (6, str []), (7, .bool false), (65, ptr it)]) ⟨rfl, rfl, rfl, rfl, rfl, rfl, trivial⟩ ?_
        refine c_loop (ι := Array Nat × Key × Bool) (fun z L M' => L = [(0, ptr b), (2, ptr b2), (3, ptr b3), (6, str z.2.1), (7, .bool z.2.2), (65, ptr it)] ∧ Sel (lastOf es k) kv z.1 z.2.1 z.2.2 ∧
          M' = (it, iterObj r kv z.1) :: (b3, .cells (dCells 6 false 0 [] itv (.slice p2 k c2)) 32 (0, 0)) :: (b2, .cells (dCells 0 false 0 [] nilS nilS) 32 (0, 0)) :: (mi ++ (mkk ++ (M ++ mc)))) (fun z => (kv.left z.1).length) (#[], [], false) ⟨rfl, Sel.start _ _ _, rfl⟩ ?_
        rintro ⟨seen, least, hav⟩ _ _ ⟨rfl, hsel, rfl⟩
        refine c_seq ?_
        refine c_region ?_   -- region 11
        refine g_i (iv_next (i := 0) rfl rfl (.tail _ (mem_deep hr))) rfl ?_
        rintro _ _ (⟨hl0, rfl, rfl⟩ | ⟨key, u, seen2, rfl, rfl, hperm2, hcur⟩)
        · refine g_q (qv_extract rfl rfl) rfl ?_
          refine g_nil ?_
          refine e_seq ?_
          refine c_seq ?_
          refine c_false rfl ?_
          refine c_exit ?_
          refine e_exit_then ?_
          refine e_exit_then ?_
          refine e_exit_block ?_
          refine e_seq ?_
          obtain ⟨pk, hpk⟩ : ∃ p, es[k]? = some p := ⟨_, List.getElem?_eq_getElem hklt⟩
          obtain rfl := hsel.done hok hkeys hl0 hpk
          have hpm := List.mem_of_getElem? hpk
          have htake : es.take (k + 1) = es.take k ++ [pk] := by rw [List.take_add_one, hpk]; rfl
          have hlook : kts.lookup pk.1 = some pk.2 := by
            rw [lookup_perm hperm (perm_keys_nodup hok hperm), lookup_of_mem hok.nodup hpm]
          obtain ⟨v1, mv1, hv1, hrep1, hsub1⟩ : ∃ v1 mv1, kv.list.lookup pk.1 = some v1 ∧ (∃ n', n' < n ∧ RepS n' pk.2 v1 mv1) ∧ ∀ x, x ∈ mv1 → x ∈ mk := by
            rcases hkids.lookup pk.1 with ⟨h2, _⟩ | ⟨t1, v1, m1, h2, h3, h4, h5⟩
            · rw [hlook] at h2; cases h2
            · rw [hlook] at h2; cases h2; exact ⟨v1, m1, h3, h4, h5⟩
          obtain ⟨n', hn', hrep1⟩ := hrep1
          refine c_to Fits.tail ?_
          refine c_seq ?_
          refine c_region ?_   -- region 15
          refine g_q (qv_field rfl Try.runUnderlying32 rfl Try.sizeOf27 rfl) rfl ?_
          refine g_q (qv_load (v := .slice p2 k c2) rfl Try.isAgg27 m0 rfl) rfl ?_
          refine g_q (qv_move rfl) rfl ?_
          refine g_i (iv_buildSlice (vs := [(0, str pk.1)]) (cs := #[str pk.1]) Try.runUnderlying27 Try.sizeOf9 Try.zeroValue9 ⟨rfl, rfl, trivial⟩ rfl (by kernel_rfl) rfl) rfl ?_
          rintro _ _ ⟨bs, rfl, rfl⟩
          refine g_i (iv_append (pre := (b3, .cells (dCells 6 false 0 [] itv (.slice p2 k c2)) 32 (0, 0)) :: (b2, .cells (dCells 0 false 0 [] nilS nilS) 32 (0, 0)) :: mi) (m := mkk) (F := M ++ mc) (k := 1) rfl rfl Try.underlying27 info9 rfl rfl rfl hrowk rfl (by simp [str, Value.oneCell']) (by decide) (by decide) (by omega) rfl) rfl ?_
          rintro ksv' _ ⟨mkk', hrowk', rfl⟩
          refine g_q (qv_field rfl Try.runUnderlying32 rfl Try.sizeOf27 rfl) rfl ?_
          obtain ⟨p3, c3, rfl⟩ := hrowk'.shape
          refine g_i0 (iv_store (i := 0) (b := b3) (v := .slice p3 (k + 1) c3) rfl rfl rfl Try.sizeOf27 rfl (Nat.le_of_ble_eq_true rfl)) ?_
          rintro _ _ rfl
          refine g_nil ?_
          refine e_seq ?_
          refine c_keep (L' := [(0, ptr b), (2, ptr b2), (3, ptr b3), (6, str pk.1)]) ⟨rfl, rfl, rfl, rfl, trivial⟩ ?_
          refine c_to (M' := (b3, .cells (dCells 6 false 0 [] itv (.slice p3 (k + 1) c3)) 32 (0, 0)) :: (b2, .cells (dCells 0 false 0 [] nilS nilS) 32 (0, 0)) :: (mi ++ (mkk' ++ (M ++ mc)))) (fun f => by simp [dCells] <;> omega) ?_
          -- region 16
          refine c_draw ((b3, .cells (dCells 6 false 0 [] itv (.slice p3 (k + 1) c3)) 32 (0, 0)) :: M) (fun i => !(i == 12)) Try.mixed ?_
          have hRM : ∀ x, x ∈ (b3, Obj.cells (dCells 6 false 0 [] itv (.slice p3 (k + 1) c3)) 32 (0, 0)) :: M → x ∈ (b3, Obj.cells (dCells 6 false 0 [] itv (.slice p3 (k + 1) c3)) 32 (0, 0)) :: (b2, .cells (dCells 0 false 0 [] nilS nilS) 32 (0, 0)) :: (mi ++ (mkk' ++ (M ++ mc))) := fun x hx => by
            rcases List.mem_cons.1 hx with rfl | h2
            · exact m0
            · exact mem_deep h2
          refine d_takeW 0 rfl (by kernel_rfl) (by kernel_rfl) (by kernel_rfl) rfl (fun _ => qv_field rfl Try.runUnderlying32 rfl Try.sizeOf30 rfl) ?_
          refine d_take 1 rfl (by kernel_rfl) (by kernel_rfl) (by kernel_rfl) (by kernel_rfl) rfl (qv_load (v := itv) rfl Try.isAgg30 m0 rfl) hRM ?_
          refine d_takeW 2 rfl (by kernel_rfl) (by kernel_rfl) (by kernel_rfl) rfl (fun _ => qv_move rfl) ?_
          refine d_takeW 3 rfl (by kernel_rfl) (by kernel_rfl) (by kernel_rfl) rfl (fun _ => qv_nil rfl) ?_
          refine d_takeW 4 rfl (by kernel_rfl) (by kernel_rfl) (by kernel_rfl) rfl (fun _ => qv_field rfl Try.runUnderlying40 rfl Try.sizeOf38 rfl) ?_
          refine d_take 5 rfl (by kernel_rfl) (by kernel_rfl) (by kernel_rfl) (by kernel_rfl) rfl (qv_load (v := .map (some r)) rfl Try.isAgg38 (.tail _ hb) rfl) hRM ?_
          refine d_takeW 6 rfl (by kernel_rfl) (by kernel_rfl) (by kernel_rfl) rfl (fun _ => qv_move rfl) ?_
          refine d_take 7 rfl (by kernel_rfl) (by kernel_rfl) (by kernel_rfl) (by kernel_rfl) rfl (QV.to (v' := v1) (qv_lookup1 (m := kv) rfl rfl Try.runUnderlying38 Try.runUnderlying9 Try.zeroValue24 (.tail _ hr)) (by rw [hv1]; rfl)) hRM ?_
          refine d_run 8 rfl (by kernel_rfl) rfl (iv_call (vs := [v1]) Try.call12 ⟨rfl, trivial⟩ (hsub es rfl pk hpm n' hn' v1 mv1 _ hrep1 (fun x hx => mem_deep (hmm _ (.tail _ (hsub1 x hx)))))) (by rintro _ _ ⟨m', _, rfl⟩ _ x hx; exact List.mem_append_left _ (hRM x hx)) ?_
          rintro d1 _ ⟨m1, hd1, rfl⟩
          obtain ⟨kd, xd, id, sd, pd1, nd1, cd1, pd2, nd2, cd2, rfl⟩ := hd1.agg
          refine d_to (M' := (b3, .cells (dCells 6 false 0 [] itv (.slice p3 (k + 1) c3)) 32 (0, 0)) :: (b2, .cells (dCells 0 false 0 [] nilS nilS) 32 (0, 0)) :: (mi ++ (mkk' ++ (M ++ (mc ++ m1))))) (fun f => by simp <;> omega) ?_
          refine d_run 9 rfl (by kernel_rfl) rfl (iv_buildSlice (vs := [(0, .agg (dCells kd xd id sd (.slice pd1 nd1 cd1) (.slice pd2 nd2 cd2)))]) (cs := dCells kd xd id sd (.slice pd1 nd1 cd1) (.slice pd2 nd2 cd2)) Try.runUnderlying30 Try.sizeOf32 Try.zeroValue32 ⟨rfl, rfl, trivial⟩ rfl (by kernel_rfl) rfl) (by
            rintro _ _ ⟨_, _, rfl⟩ _ x hx
            rcases List.mem_cons.1 hx with rfl | h2
            · exact .tail _ m0
            · exact .tail _ (mem_deep h2)) ?_
          rintro _ _ ⟨bs2, rfl, rfl⟩
          refine d_run 10 rfl (by kernel_rfl) rfl (iv_append (pre := [(b3, .cells (dCells 6 false 0 [] itv (.slice p3 (k + 1) c3)) 32 (0, 0)), (b2, .cells (dCells 0 false 0 [] nilS nilS) 32 (0, 0))]) (m := mi) (F := mkk' ++ (M ++ (mc ++ m1))) (k := 1) rfl rfl Try.underlying30 info32 rfl rfl rfl hrowi rfl all_dCells (by decide) (by decide) (by omega) rfl) (by
            rintro _ _ ⟨_, _, rfl⟩ _ x hx
            rcases List.mem_cons.1 hx with rfl | h2
            · exact m0
            · exact List.mem_append_right _ (List.mem_append_right _ (List.mem_append_right _ (List.mem_append_left _ h2)))) ?_
          rintro itv' _ ⟨mi', hrowi', rfl⟩
          obtain ⟨p4, c4, rfl⟩ := hrowi'.shape
          refine d_takeW 11 rfl (by kernel_rfl) (by kernel_rfl) (by kernel_rfl) rfl (fun _ => qv_field rfl Try.runUnderlying32 rfl Try.sizeOf30 rfl) ?_
          refine d_run0 12 rfl (by kernel_rfl) (iv_store (i := 0) (b := b3) (v := .slice p4 (k + 1) c4) rfl rfl rfl Try.sizeOf30 rfl (Nat.le_of_ble_eq_true rfl)) (fun _ _ _ h => by cases h) ?_
          rintro _ _ rfl
          refine d_done (by kernel_rfl) ?_
          refine e_normal_block ?_
          refine e_to (M' := (b3, .cells (dCells 6 false 0 [] (.slice p4 (k + 1) c4) (.slice p3 (k + 1) c3)) 32 (0, 0)) :: (b2, .cells (dCells 0 false 0 [] nilS nilS) 32 (0, 0)) :: (mi' ++ (mkk' ++ (M ++ (mc ++ m1))))) (Fits.refl _) ?_
          exact e_again (k + 1) (by omega) (L' := [(0, ptr b), (2, ptr b2), (3, ptr b3)]) ⟨rfl, rfl, rfl, trivial⟩ ⟨rfl, hklt, _, _, mi', mkk', _, mc ++ m1, by rw [htake, List.map_append]; exact hrowk', hrowi', by rw [htake]; exact DKids.snoc rfl ⟨n', hn', hd1⟩ hkd, rfl⟩
        · have hmu : (kv.left seen2).length < (kv.left seen).length := by
            rw [hperm2.length_eq]
            exact Nat.lt_succ_self _
          have hperm := hperm2
          refine g_q (qv_extract rfl rfl) rfl ?_
          refine g_nil ?_
          refine e_seq ?_
          refine c_seq ?_
          refine c_true rfl ?_
          refine c_skip ?_
          refine e_seq ?_
          refine c_block ?_
          refine c_seq ?_
          refine c_region ?_   -- region 12
          refine g_q (qv_entry (k := key) (v := u) rfl m0 (.tail _ (mem_deep hr)) hcur) rfl ?_
          refine g_q (qv_extract rfl rfl) rfl ?_
          refine g_q (qv_assign rfl) rfl ?_
          refine g_nil ?_
          refine e_seq ?_
          refine c_seq ?_
          refine c_region ?_   -- region 13
          clear hnot htab hN1 hN hsub hone
          rcases Nat.eq_zero_or_pos k with hk00 | hkpos
          · subst hk00
            have hcand : Cand (lastOf es 0) key := fun l hl => by cases hl
            cases hav with
            | false =>
              refine g_q (qv_field rfl Try.runUnderlying32 rfl Try.sizeOf27 rfl) rfl ?_
              refine g_q (qv_load (b := b3) rfl Try.isAgg27 m1 rfl) rfl ?_
              refine g_q (qv_len_slice rfl Try.runUnderlying27) rfl ?_
              refine g_q (QV.to (qv_eqi rfl rfl) (congrArg Value.bool (decide_eq_true rfl))) rfl ?_
              refine g_q (qv_move rfl) rfl ?_
              refine g_off rfl rfl rfl rfl ?_
              refine g_off rfl rfl rfl rfl ?_
              refine g_off rfl rfl rfl rfl ?_
              refine g_off rfl rfl rfl rfl ?_
              refine g_off rfl rfl rfl rfl ?_
              refine g_off rfl rfl rfl rfl ?_
              refine g_off rfl rfl rfl rfl ?_
              refine g_off rfl rfl rfl rfl ?_
              refine g_off rfl rfl rfl rfl ?_
              refine g_off rfl rfl rfl rfl ?_
              refine g_q (qv_pick_t rfl rfl) rfl ?_
              refine g_q (qv_move rfl) rfl ?_
              refine g_on rfl rfl ?_
              refine g_q (qv_move rfl) rfl ?_
              refine g_on rfl rfl ?_
              refine g_q (qv_not rfl) rfl ?_
              refine g_on rfl rfl ?_
              refine g_q (qv_move rfl) rfl ?_
              refine g_off rfl rfl rfl rfl ?_
              refine g_off rfl rfl rfl rfl ?_
              refine g_off rfl rfl rfl rfl ?_
              refine g_on rfl rfl ?_
              refine g_q (qv_pick_t rfl rfl) rfl ?_
              refine g_q (qv_pick_t rfl rfl) rfl ?_
              refine g_nil ?_
              refine e_seq ?_
              refine c_true rfl ?_
              refine c_region ?_
              refine g_q (qv_move rfl) rfl ?_
              refine g_q (qv_assign rfl) rfl ?_
              refine g_q (qv_assign rfl) rfl ?_
              refine g_nil ?_
              refine e_normal_block ?_
              exact e_again (seen2, key, true) hmu (L' := [(0, ptr b), (2, ptr b2), (3, ptr b3), (6, str key), (7, .bool true), (65, ptr it)]) ⟨rfl, rfl, rfl, rfl, rfl, rfl, trivial⟩ ⟨rfl, hsel.take hperm hcur hcand (Or.inl rfl), rfl⟩
            | true =>
              by_cases hlt : key < least
              · refine g_q (qv_field rfl Try.runUnderlying32 rfl Try.sizeOf27 rfl) rfl ?_
                refine g_q (qv_load (b := b3) rfl Try.isAgg27 m1 rfl) rfl ?_
                refine g_q (qv_len_slice rfl Try.runUnderlying27) rfl ?_
                refine g_q (QV.to (qv_eqi rfl rfl) (congrArg Value.bool (decide_eq_true rfl))) rfl ?_
                refine g_q (qv_move rfl) rfl ?_
                refine g_off rfl rfl rfl rfl ?_
                refine g_off rfl rfl rfl rfl ?_
                refine g_off rfl rfl rfl rfl ?_
                refine g_off rfl rfl rfl rfl ?_
                refine g_off rfl rfl rfl rfl ?_
                refine g_off rfl rfl rfl rfl ?_
                refine g_off rfl rfl rfl rfl ?_
                refine g_off rfl rfl rfl rfl ?_
                refine g_off rfl rfl rfl rfl ?_
                refine g_off rfl rfl rfl rfl ?_
                refine g_q (qv_pick_t rfl rfl) rfl ?_
                refine g_q (qv_move rfl) rfl ?_
                refine g_on rfl rfl ?_
                refine g_q (qv_move rfl) rfl ?_
                refine g_on rfl rfl ?_
                refine g_q (qv_not rfl) rfl ?_
                refine g_on rfl rfl ?_
                refine g_q (qv_move rfl) rfl ?_
                refine g_on rfl rfl ?_
                refine g_q (qv_move rfl) rfl ?_
                refine g_on rfl rfl ?_
                refine g_q (qv_move rfl) rfl ?_
                refine g_on rfl rfl ?_
                refine g_q (QV.to (qv_lts rfl rfl) (congrArg Value.bool (bytesLess_true hlt))) rfl ?_
                refine g_on rfl rfl ?_
                refine g_q (qv_pick_f rfl rfl) rfl ?_
                refine g_q (qv_pick_t rfl rfl) rfl ?_
                refine g_nil ?_
                refine e_seq ?_
                refine c_true rfl ?_
                refine c_region ?_
                refine g_q (qv_move rfl) rfl ?_
                refine g_q (qv_assign rfl) rfl ?_
                refine g_q (qv_assign rfl) rfl ?_
                refine g_nil ?_
                refine e_normal_block ?_
                exact e_again (seen2, key, true) hmu (L' := [(0, ptr b), (2, ptr b2), (3, ptr b3), (6, str key), (7, .bool true), (65, ptr it)]) ⟨rfl, rfl, rfl, rfl, rfl, rfl, trivial⟩ ⟨rfl, hsel.take hperm hcur hcand (Or.inr hlt), rfl⟩
              · refine g_q (qv_field rfl Try.runUnderlying32 rfl Try.sizeOf27 rfl) rfl ?_
                refine g_q (qv_load (b := b3) rfl Try.isAgg27 m1 rfl) rfl ?_
                refine g_q (qv_len_slice rfl Try.runUnderlying27) rfl ?_
                refine g_q (QV.to (qv_eqi rfl rfl) (congrArg Value.bool (decide_eq_true rfl))) rfl ?_
                refine g_q (qv_move rfl) rfl ?_
                refine g_off rfl rfl rfl rfl ?_
                refine g_off rfl rfl rfl rfl ?_
                refine g_off rfl rfl rfl rfl ?_
                refine g_off rfl rfl rfl rfl ?_
                refine g_off rfl rfl rfl rfl ?_
                refine g_off rfl rfl rfl rfl ?_
                refine g_off rfl rfl rfl rfl ?_
                refine g_off rfl rfl rfl rfl ?_
                refine g_off rfl rfl rfl rfl ?_
                refine g_off rfl rfl rfl rfl ?_
                refine g_q (qv_pick_t rfl rfl) rfl ?_
                refine g_q (qv_move rfl) rfl ?_
                refine g_on rfl rfl ?_
                refine g_q (qv_move rfl) rfl ?_
                refine g_on rfl rfl ?_
                refine g_q (qv_not rfl) rfl ?_
                refine g_on rfl rfl ?_
                refine g_q (qv_move rfl) rfl ?_
                refine g_on rfl rfl ?_
                refine g_q (qv_move rfl) rfl ?_
                refine g_on rfl rfl ?_
                refine g_q (qv_move rfl) rfl ?_
                refine g_on rfl rfl ?_
                refine g_q (QV.to (qv_lts rfl rfl) (congrArg Value.bool (bytesLess_false hlt))) rfl ?_
                refine g_on rfl rfl ?_
                refine g_q (qv_pick_f rfl rfl) rfl ?_
                refine g_q (qv_pick_t rfl rfl) rfl ?_
                refine g_nil ?_
                refine e_seq ?_
                refine c_false rfl ?_
                refine c_skip ?_
                refine e_normal_block ?_
                exact e_again (seen2, least, true) hmu (L' := [(0, ptr b), (2, ptr b2), (3, ptr b3), (6, str least), (7, .bool true), (65, ptr it)]) ⟨rfl, rfl, rfl, rfl, rfl, rfl, trivial⟩ ⟨rfl, hsel.skip hperm (Or.inr ⟨rfl, hlt⟩), rfl⟩
          · obtain ⟨k, rfl⟩ : ∃ k', k = k' + 1 := ⟨k - 1, by omega⟩
            obtain ⟨pl, hpl⟩ : ∃ p, es[k]? = some p := ⟨_, List.getElem?_eq_getElem (by omega)⟩
            have hlast : (es.map (·.1))[k]? = some pl.1 := by rw [List.getElem?_map, hpl]; rfl
            obtain ⟨g, c2', cs, hv, hg, hcs⟩ := row_at hrowk (k := k) (u := str pl.1) (by rw [List.getElem?_map, List.getElem?_take_of_lt (by omega), hpl]; rfl)
            generalize pl.1 = lastK at hlast hcs
            cases hv
            have hk0 : ¬ (((k + 1 : Nat) : Int) = 0) := by omega
            have hgM : (g, Obj.cells cs 9 (0, 0)) ∈ (it, iterObj r kv seen2) :: (b3, .cells (dCells 6 false 0 [] itv (.slice (some ⟨g, 0, none⟩) (k + 1) c2)) 32 (0, 0)) :: (b2, .cells (dCells 0 false 0 [] nilS nilS) 32 (0, 0)) :: (mi ++ (mkk ++ (M ++ mc))) := .tail _ (mem_row hg)
            by_cases hgt : lastK < key
            · have hcand : Cand (lastOf es (k + 1)) key := fun l hl => by
                rw [lastOf, hlast] at hl
                cases hl
                exact hgt
              cases hav with
              | false =>
                refine g_q (qv_field rfl Try.runUnderlying32 rfl Try.sizeOf27 rfl) rfl ?_
                refine g_q (qv_load (b := b3) rfl Try.isAgg27 m1 rfl) rfl ?_
                refine g_q (qv_len_slice rfl Try.runUnderlying27) rfl ?_
                refine g_q (QV.to (qv_eqi rfl rfl) (congrArg Value.bool (decide_eq_false hk0))) rfl ?_
                refine g_q (qv_move rfl) rfl ?_
                refine g_on rfl rfl ?_
                refine g_q (qv_move rfl) rfl ?_
                refine g_on rfl rfl ?_
                refine g_q (qv_field rfl Try.runUnderlying32 rfl Try.sizeOf27 rfl) rfl ?_
                refine g_on rfl rfl ?_
                refine g_q (qv_load (b := b3) rfl Try.isAgg27 m1 rfl) rfl ?_
                refine g_on rfl rfl ?_
                refine g_q (qv_field rfl Try.runUnderlying32 rfl Try.sizeOf27 rfl) rfl ?_
                refine g_on rfl rfl ?_
                refine g_q (qv_load (b := b3) rfl Try.isAgg27 m1 rfl) rfl ?_
                refine g_on rfl rfl ?_
                refine g_q (qv_len_slice rfl Try.runUnderlying27) rfl ?_
                refine g_on rfl rfl ?_
                refine g_q (qv_sub (c := ((k : Nat) : Int)) rfl rfl (by rw [wrap_i64 (by omega) (by omega)]; omega)) rfl ?_
                refine g_on rfl rfl ?_
                refine g_q (qv_index rfl rfl Try.runUnderlying27 Try.sizeOf9 (by omega) (by omega)) rfl ?_
                refine g_on rfl rfl ?_
                refine g_q (qv_load (v := str lastK) rfl Try.isAgg9 hgM (by simpa using hcs)) rfl ?_
                refine g_on rfl rfl ?_
                refine g_q (QV.to (qv_gts rfl rfl) (congrArg Value.bool (gts_true hgt))) rfl ?_
                refine g_q (qv_pick_f rfl rfl) rfl ?_
                refine g_q (qv_move rfl) rfl ?_
                refine g_on rfl rfl ?_
                refine g_q (qv_move rfl) rfl ?_
                refine g_on rfl rfl ?_
                refine g_q (qv_not rfl) rfl ?_
                refine g_on rfl rfl ?_
                refine g_q (qv_move rfl) rfl ?_
                refine g_off rfl rfl rfl rfl ?_
                refine g_off rfl rfl rfl rfl ?_
                refine g_off rfl rfl rfl rfl ?_
                refine g_on rfl rfl ?_
                refine g_q (qv_pick_t rfl rfl) rfl ?_
                refine g_q (qv_pick_t rfl rfl) rfl ?_
                refine g_nil ?_
                refine e_seq ?_
                refine c_true rfl ?_
                refine c_region ?_
                refine g_q (qv_move rfl) rfl ?_
                refine g_q (qv_assign rfl) rfl ?_
                refine g_q (qv_assign rfl) rfl ?_
                refine g_nil ?_
                refine e_normal_block ?_
                exact e_again (seen2, key, true) hmu (L' := [(0, ptr b), (2, ptr b2), (3, ptr b3), (6, str key), (7, .bool true), (65, ptr it)]) ⟨rfl, rfl, rfl, rfl, rfl, rfl, trivial⟩ ⟨rfl, hsel.take hperm hcur hcand (Or.inl rfl), rfl⟩
              | true =>
                by_cases hlt : key < least
                · refine g_q (qv_field rfl Try.runUnderlying32 rfl Try.sizeOf27 rfl) rfl ?_
                  refine g_q (qv_load (b := b3) rfl Try.isAgg27 m1 rfl) rfl ?_
                  refine g_q (qv_len_slice rfl Try.runUnderlying27) rfl ?_
                  refine g_q (QV.to (qv_eqi rfl rfl) (congrArg Value.bool (decide_eq_false hk0))) rfl ?_
                  refine g_q (qv_move rfl) rfl ?_
                  refine g_on rfl rfl ?_
                  refine g_q (qv_move rfl) rfl ?_
                  refine g_on rfl rfl ?_
                  refine g_q (qv_field rfl Try.runUnderlying32 rfl Try.sizeOf27 rfl) rfl ?_
                  refine g_on rfl rfl ?_
                  refine g_q (qv_load (b := b3) rfl Try.isAgg27 m1 rfl) rfl ?_
                  refine g_on rfl rfl ?_
                  refine g_q (qv_field rfl Try.runUnderlying32 rfl Try.sizeOf27 rfl) rfl ?_
                  refine g_on rfl rfl ?_
                  refine g_q (qv_load (b := b3) rfl Try.isAgg27 m1 rfl) rfl ?_
                  refine g_on rfl rfl ?_
                  refine g_q (qv_len_slice rfl Try.runUnderlying27) rfl ?_
                  refine g_on rfl rfl ?_
                  refine g_q (qv_sub (c := ((k : Nat) : Int)) rfl rfl (by rw [wrap_i64 (by omega) (by omega)]; omega)) rfl ?_
                  refine g_on rfl rfl ?_
                  refine g_q (qv_index rfl rfl Try.runUnderlying27 Try.sizeOf9 (by omega) (by omega)) rfl ?_
                  refine g_on rfl rfl ?_
                  refine g_q (qv_load (v := str lastK) rfl Try.isAgg9 hgM (by simpa using hcs)) rfl ?_
                  refine g_on rfl rfl ?_
                  refine g_q (QV.to (qv_gts rfl rfl) (congrArg Value.bool (gts_true hgt))) rfl ?_
                  refine g_q (qv_pick_f rfl rfl) rfl ?_
                  refine g_q (qv_move rfl) rfl ?_
                  refine g_on rfl rfl ?_
                  refine g_q (qv_move rfl) rfl ?_
                  refine g_on rfl rfl ?_
                  refine g_q (qv_not rfl) rfl ?_
                  refine g_on rfl rfl ?_
                  refine g_q (qv_move rfl) rfl ?_
                  refine g_on rfl rfl ?_
                  refine g_q (qv_move rfl) rfl ?_
                  refine g_on rfl rfl ?_
                  refine g_q (qv_move rfl) rfl ?_
                  refine g_on rfl rfl ?_
                  refine g_q (QV.to (qv_lts rfl rfl) (congrArg Value.bool (bytesLess_true hlt))) rfl ?_
                  refine g_on rfl rfl ?_
                  refine g_q (qv_pick_f rfl rfl) rfl ?_
                  refine g_q (qv_pick_t rfl rfl) rfl ?_
                  refine g_nil ?_
                  refine e_seq ?_
                  refine c_true rfl ?_
                  refine c_region ?_
                  refine g_q (qv_move rfl) rfl ?_
                  refine g_q (qv_assign rfl) rfl ?_
                  refine g_q (qv_assign rfl) rfl ?_
                  refine g_nil ?_
                  refine e_normal_block ?_
                  exact e_again (seen2, key, true) hmu (L' := [(0, ptr b), (2, ptr b2), (3, ptr b3), (6, str key), (7, .bool true), (65, ptr it)]) ⟨rfl, rfl, rfl, rfl, rfl, rfl, trivial⟩ ⟨rfl, hsel.take hperm hcur hcand (Or.inr hlt), rfl⟩
                · refine g_q (qv_field rfl Try.runUnderlying32 rfl Try.sizeOf27 rfl) rfl ?_
                  refine g_q (qv_load (b := b3) rfl Try.isAgg27 m1 rfl) rfl ?_
                  refine g_q (qv_len_slice rfl Try.runUnderlying27) rfl ?_
                  refine g_q (QV.to (qv_eqi rfl rfl) (congrArg Value.bool (decide_eq_false hk0))) rfl ?_
                  refine g_q (qv_move rfl) rfl ?_
                  refine g_on rfl rfl ?_
                  refine g_q (qv_move rfl) rfl ?_
                  refine g_on rfl rfl ?_
                  refine g_q (qv_field rfl Try.runUnderlying32 rfl Try.sizeOf27 rfl) rfl ?_
                  refine g_on rfl rfl ?_
                  refine g_q (qv_load (b := b3) rfl Try.isAgg27 m1 rfl) rfl ?_
                  refine g_on rfl rfl ?_
                  refine g_q (qv_field rfl Try.runUnderlying32 rfl Try.sizeOf27 rfl) rfl ?_
                  refine g_on rfl rfl ?_
                  refine g_q (qv_load (b := b3) rfl Try.isAgg27 m1 rfl) rfl ?_
                  refine g_on rfl rfl ?_
                  refine g_q (qv_len_slice rfl Try.runUnderlying27) rfl ?_
                  refine g_on rfl rfl ?_
                  refine g_q (qv_sub (c := ((k : Nat) : Int)) rfl rfl (by rw [wrap_i64 (by omega) (by omega)]; omega)) rfl ?_
                  refine g_on rfl rfl ?_
                  refine g_q (qv_index rfl rfl Try.runUnderlying27 Try.sizeOf9 (by omega) (by omega)) rfl ?_
                  refine g_on rfl rfl ?_
                  refine g_q (qv_load (v := str lastK) rfl Try.isAgg9 hgM (by simpa using hcs)) rfl ?_
                  refine g_on rfl rfl ?_
                  refine g_q (QV.to (qv_gts rfl rfl) (congrArg Value.bool (gts_true hgt))) rfl ?_
                  refine g_q (qv_pick_f rfl rfl) rfl ?_
                  refine g_q (qv_move rfl) rfl ?_
                  refine g_on rfl rfl ?_
                  refine g_q (qv_move rfl) rfl ?_
                  refine g_on rfl rfl ?_
                  refine g_q (qv_not rfl) rfl ?_
                  refine g_on rfl rfl ?_
                  refine g_q (qv_move rfl) rfl ?_
                  refine g_on rfl rfl ?_
                  refine g_q (qv_move rfl) rfl ?_
                  refine g_on rfl rfl ?_
                  refine g_q (qv_move rfl) rfl ?_
                  refine g_on rfl rfl ?_
                  refine g_q (QV.to (qv_lts rfl rfl) (congrArg Value.bool (bytesLess_false hlt))) rfl ?_
                  refine g_on rfl rfl ?_
                  refine g_q (qv_pick_f rfl rfl) rfl ?_
                  refine g_q (qv_pick_t rfl rfl) rfl ?_
                  refine g_nil ?_
                  refine e_seq ?_
                  refine c_false rfl ?_
                  refine c_skip ?_
                  refine e_normal_block ?_
                  exact e_again (seen2, least, true) hmu (L' := [(0, ptr b), (2, ptr b2), (3, ptr b3), (6, str least), (7, .bool true), (65, ptr it)]) ⟨rfl, rfl, rfl, rfl, rfl, rfl, trivial⟩ ⟨rfl, hsel.skip hperm (Or.inr ⟨rfl, hlt⟩), rfl⟩
            · refine g_q (qv_field rfl Try.runUnderlying32 rfl Try.sizeOf27 rfl) rfl ?_
              refine g_q (qv_load (b := b3) rfl Try.isAgg27 m1 rfl) rfl ?_
              refine g_q (qv_len_slice rfl Try.runUnderlying27) rfl ?_
              refine g_q (QV.to (qv_eqi rfl rfl) (congrArg Value.bool (decide_eq_false hk0))) rfl ?_
              refine g_q (qv_move rfl) rfl ?_
              refine g_on rfl rfl ?_
              refine g_q (qv_move rfl) rfl ?_
              refine g_on rfl rfl ?_
              refine g_q (qv_field rfl Try.runUnderlying32 rfl Try.sizeOf27 rfl) rfl ?_
              refine g_on rfl rfl ?_
              refine g_q (qv_load (b := b3) rfl Try.isAgg27 m1 rfl) rfl ?_
              refine g_on rfl rfl ?_
              refine g_q (qv_field rfl Try.runUnderlying32 rfl Try.sizeOf27 rfl) rfl ?_
              refine g_on rfl rfl ?_
              refine g_q (qv_load (b := b3) rfl Try.isAgg27 m1 rfl) rfl ?_
              refine g_on rfl rfl ?_
              refine g_q (qv_len_slice rfl Try.runUnderlying27) rfl ?_
              refine g_on rfl rfl ?_
              refine g_q (qv_sub (c := ((k : Nat) : Int)) rfl rfl (by rw [wrap_i64 (by omega) (by omega)]; omega)) rfl ?_
              refine g_on rfl rfl ?_
              refine g_q (qv_index rfl rfl Try.runUnderlying27 Try.sizeOf9 (by omega) (by omega)) rfl ?_
              refine g_on rfl rfl ?_
              refine g_q (qv_load (v := str lastK) rfl Try.isAgg9 hgM (by simpa using hcs)) rfl ?_
              refine g_on rfl rfl ?_
              refine g_q (QV.to (qv_gts rfl rfl) (congrArg Value.bool (gts_false hgt))) rfl ?_
              refine g_q (qv_pick_f rfl rfl) rfl ?_
              refine g_q (qv_move rfl) rfl ?_
              refine g_off rfl rfl rfl rfl ?_
              refine g_off rfl rfl rfl rfl ?_
              refine g_off rfl rfl rfl rfl ?_
              refine g_off2 rfl rfl rfl ?_
              refine g_off2 rfl rfl rfl ?_
              refine g_off2 rfl rfl rfl ?_
              refine g_off rfl rfl rfl rfl ?_
              refine g_q (qv_pick_f rfl rfl) rfl ?_
              refine g_nil ?_
              refine e_seq ?_
              refine c_false rfl ?_
              refine c_skip ?_
              refine e_normal_block ?_
              exact e_again (seen2, least, hav) hmu (L' := [(0, ptr b), (2, ptr b2), (3, ptr b3), (6, str least), (7, .bool hav), (65, ptr it)]) ⟨rfl, rfl, rfl, rfl, rfl, rfl, trivial⟩ ⟨rfl, hsel.skip hperm (Or.inl fun hcand => hgt (hcand _ hlast)), rfl⟩
      · -- false
        refine c_exit ?_
        refine e_exit_then ?_
        refine e_exit_then ?_
        refine e_exit_block ?_
        refine e_seq ?_
        refine c_seq ?_
        refine c_region ?_   -- region 17
        obtain ⟨p4, c4, rfl⟩ := hrowi.shape
        refine g_q (qv_loadA (vs := (dCells 6 false 0 [] (.slice p4 k c4) (.slice p2 k c2)).toList) rfl Try.isAgg32 Try.sizeOf32 m0 (fun _ _ h => by simpa using h)) rfl ?_
        refine g_i0 (iv_storeA (i := 1) (b := b2) (vs := dCells 6 false 0 [] (.slice p4 k c4) (.slice p2 k c2)) rfl rfl all_dCells Try.sizeOf32 rfl rfl) ?_
        rintro _ _ rfl
        refine g_nil ?_
        refine e_seq ?_
        refine c_ret ?_
        refine ?_
        have hke : k = es.length := by
          have := of_decide_eq_false hc
          omega
        subst hke
        rw [List.take_length] at hrowk hkd
        refine e_retcF (M' := M ++ (mi ++ (mkk ++ mc))) (fun f => by simp <;> omega) (.inl rfl) Try.results12 Try.isAgg32 Try.sizeOf32 rfl m1 (vs := (dCells 6 false 0 [] (.slice p4 es.length c4) (.slice p2 es.length c2)).toList) (fun _ _ h => by simpa using h) ⟨mi ++ (mkk ++ mc), ?_, rfl⟩
        have hfin : RepD1 (fun t v m => ∃ n', n' < n ∧ RepD n' t v m) (.tab es) (.agg (dCells 6 false 0 [] (.slice p4 es.length c4) (.slice p2 es.length c2))) (mi ++ (mkk ++ mc)) := ⟨_, _, mi, mkk, ics, mc, rfl, hok, hrowk, hrowi, hkd, rfl⟩
        cases n with
        | zero => exact RepD1.mono (fun _ _ _ ⟨_, h, _⟩ => absurd h (Nat.not_lt_zero _)) hfin
        | succ n => exact RepD1.mono (fun _ _ _ ⟨_, h, h'⟩ => h'.le (Nat.le_of_lt_succ h)) hfin
    · -- false
      refine c_skip ?_
      refine e_seq ?_
      refine c_seq ?_
      refine c_region ?_   -- region 17
      obtain ⟨p4, c4, rfl⟩ := hrow.shape
      refine g_q (qv_loadA (vs := (dCells kk x i s (.slice p4 j c4) nilS).toList) rfl Try.isAgg32 Try.sizeOf32 m0 (fun _ _ h => by simpa using h)) rfl ?_
      refine g_i0 (iv_storeA (i := 1) (b := b2) (vs := dCells kk x i s (.slice p4 j c4) nilS) rfl rfl all_dCells Try.sizeOf32 rfl rfl) ?_
      rintro _ _ rfl
      refine g_nil ?_
      refine e_seq ?_
      refine c_ret ?_
      refine ?_
      have hkk : kk ≠ 6 := of_decide_eq_false hc
      exact e_retcF (M' := M ++ mj) (fun f => by simp <;> omega) (.inl rfl) Try.results12 Try.isAgg32 Try.sizeOf32 rfl m1 (vs := (dCells kk x i s (.slice p4 j c4) nilS).toList) (fun _ _ h => by simpa using h) ⟨mj, hnot hkk _ _ _ hrow (fun e => (h0 e).imp id And.left) h1, rfl⟩
theorem of_int (y : Int) : OfSpec W0 0 (.int y) := of_step 0 (.int y) (fun _ e => by cases e) (fun _ e => by cases e)
theorem of_any (n : Nat) : ∀ t, OfSpec W0 n t := by
  induction n using Nat.strongRecOn with
  | ind n ih => exact fun t => of_step n t (fun y _ => of_int y) (fun _ _ p _ n' hn' => ih n' hn' p.2)

end Go.Proofs.Ytnnclcfklbeocaa

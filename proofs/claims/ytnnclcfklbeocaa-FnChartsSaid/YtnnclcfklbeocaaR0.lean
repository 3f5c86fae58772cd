/-
  The values: abstract trees 'T' (tables sorted by key), and how they lie in memory: as a spec.Value ('RepS'), as a value of the package ('RepA'), as data ('RepD').
  No condition: definitions and lemmas.
-/
import Derived.Test.YtnnclcfklbeocaaE7
import Derived.Sort.KeysCollected
namespace Go.Proofs.Ytnnclcfklbeocaa
open Go.RowKit

/-! ### less memory, in another order -/
def Fits {α : Type} (M M' : List α) : Prop := ∀ f : α → Nat, (M'.map f).sum ≤ (M.map f).sum

theorem sum_pos_mem {α : Type} {M : List α} {x : α} (f : α → Nat) (hx : x ∈ M) (hf : 0 < f x) : 0 < (M.map f).sum := by
  induction M with
  | nil => cases hx
  | cons y M ih =>
    rw [List.map_cons, List.sum_cons]
    rcases List.mem_cons.1 hx with rfl | hx
    · omega
    · have := ih hx; omega
open Classical in
theorem Fits.mem {α : Type} {M M' : List α} (h : Fits M M') {x : α} (hx : x ∈ M') : x ∈ M := by
  have h1 := h (fun y => if y = x then 1 else 0)
  have h2 := sum_pos_mem (fun y => if y = x then 1 else 0) hx (by simp)
  have key : ∀ M : List α, 0 < (M.map (fun y => if y = x then 1 else 0)).sum → x ∈ M := by
    intro M
    induction M with
    | nil => simp
    | cons y M ih =>
      intro h
      rw [List.map_cons, List.sum_cons] at h
      by_cases e : y = x
      · subst e; simp
      · simp only [e, if_false, Nat.zero_add] at h
        exact List.mem_cons_of_mem _ (ih h)
  exact key M (by omega)
open Classical in
theorem Fits.nodup {M M' : Heap} (h : Fits M M') (hn : (M.map (·.1)).Nodup) : (M'.map (·.1)).Nodup := by
  have hc : ∀ (M : Heap) (b : Nat), (M.map (fun x : Nat × Obj => if x.1 = b then 1 else 0)).sum = (M.map (·.1)).count b := by
    intro M b
    induction M with
    | nil => simp
    | cons y M ih =>
      rw [List.map_cons, List.sum_cons, ih, List.map_cons, List.count_cons]
      by_cases e : y.1 = b <;> simp [e, Nat.add_comm]
  rw [List.nodup_iff_count] at hn ⊢
  intro b
  have h1 := h (fun x => if x.1 = b then 1 else 0)
  rw [hc, hc] at h1
  exact Nat.le_trans h1 (hn b)

theorem Own.fits {W0 : World} {M M' : Heap} {w : World} (h : Own W0 M w) (hf : Fits M M') : Own W0 M' w :=
  ⟨fun b o hm => h.has b o (hf.mem hm), hf.nodup h.nodup, fun b o hm => h.base b o (hf.mem hm), h.below⟩

section
variable {P : Program} {W0 : World} {n : Nat} {ops : Array Oper} {Q : Exit → Act → World → Prop} {L : Slots} {M R : Heap} {need : Nat → Bool} {fuel : Nat} {listed : Array Bool}
theorem g_to {M' : Heap} {l : List Oper} (hp : Fits M M') (k : G P W0 n ops Q L M' l) : G P W0 n ops Q L M l := ⟨fun a w ha hw => k.run a w ha (hw.fits hp)⟩
theorem c_to {M' : Heap} {c : Code} (hp : Fits M M') (k : C P W0 n Q L M' c) : C P W0 n Q L M c := ⟨fun a w ha hw => k.run a w ha (hw.fits hp)⟩
theorem e_to {M' : Heap} {e : Exit} (hp : Fits M M') (k : E W0 n Q L M' e) : E W0 n Q L M e := ⟨fun a w ha hw => k.run a w ha (hw.fits hp)⟩
theorem d_to {M' : Heap} (hp : Fits M M') (k : D P W0 n ops Q R need fuel listed L M') : D P W0 n ops Q R need fuel listed L M := ⟨fun a w ha hw => k.run a w ha (hw.fits hp)⟩
theorem Tri.to {f : FuncId} {args : List Value} {M' : Heap} {R : Value → Heap → Prop} (h : Tri P W0 f args M' R) (hp : Fits M M') : Tri P W0 f args M R := fun w hw => h w (hw.fits hp)
/-- Two blocks of one number are one. -/
theorem g_ne {l : List Oper} (h : (M.map (·.1)).Nodup → G P W0 n ops Q L M l) : G P W0 n ops Q L M l := ⟨fun a w ha hw => (h hw.nodup).run a w ha hw⟩
end

/-! ### trees -/
abbrev Key := List UInt8
inductive T where
  | null
  | truth (b : Bool)
  | int (n : Int)
  | text (s : Key)
  | one (n : Int)
  | tab (es : List (Key × T))

/-- The keys that there are. -/
def names : List Key := [[97], [98], [99], [115, 117, 98], [103, 108, 111, 98, 97, 108], [100]]
def Nm (k : Key) : Prop := k ∈ names
theorem Nm.ok {k : Key} (h : Nm k) : k ≠ [] ∧ (46 : UInt8) ∉ k ∧ k.length ≤ 6 := by
  have : k = [97] ∨ k = [98] ∨ k = [99] ∨ k = [115, 117, 98] ∨ k = [103, 108, 111, 98, 97, 108] ∨ k = [100] := by simpa [Nm, names] using h
  rcases this with rfl | rfl | rfl | rfl | rfl | rfl <;> exact ⟨by decide, by decide, by decide⟩

def KeysOk {α : Type} (es : List (Key × α)) : Prop := (es.map (·.1)).Pairwise (· < ·) ∧ ∀ p ∈ es, Nm p.1

/-- Keys and values that lie, pair by pair, as keys and trees. -/
def Kids (R : T → Value → Heap → Prop) : List (Key × T) → List (Key × Value) → Heap → Prop
  | [], [], m => m = []
  | (k, t) :: ts, (k', v) :: vs, m => k = k' ∧ ∃ m1 m2, m = m1 ++ m2 ∧ R t v m1 ∧ Kids R ts vs m2
  | _, _, _ => False

theorem Kids.mono {R R' : T → Value → Heap → Prop} (hR : ∀ t v m, R t v m → R' t v m) : ∀ {ts : List (Key × T)} {vs : List (Key × Value)} {m : Heap}, Kids R ts vs m → Kids R' ts vs m
  | [], [], _, h => h
  | (k, t) :: ts, (k', v) :: vs, m, h => by
    obtain ⟨hk, m1, m2, hm, hr, hs⟩ := h
    exact ⟨hk, m1, m2, hm, hR _ _ _ hr, Kids.mono hR hs⟩
  | [], _ :: _, _, h => h.elim
  | _ :: _, [], _, h => h.elim

theorem Kids.keys {R : T → Value → Heap → Prop} : ∀ {ts : List (Key × T)} {vs : List (Key × Value)} {m : Heap}, Kids R ts vs m → ts.map (·.1) = vs.map (·.1)
  | [], [], _, _ => rfl
  | (k, t) :: ts, (k', v) :: vs, m, h => by
    obtain ⟨hk, m1, m2, hm, hr, hs⟩ := h
    rw [List.map_cons, List.map_cons, Kids.keys hs, hk]
  | [], _ :: _, _, h => h.elim
  | _ :: _, [], _, h => h.elim

theorem Kids.append {R : T → Value → Heap → Prop} : ∀ {ts : List (Key × T)} {vs : List (Key × Value)} {m : Heap}, Kids R ts vs m → ∀ {ts' : List (Key × T)} {vs' : List (Key × Value)} {m' : Heap}, Kids R ts' vs' m' → Kids R (ts ++ ts') (vs ++ vs') (m ++ m')
  | [], [], _, h, _, _, _, h' => by
    have : _ = [] := h
    subst this
    exact h'
  | (k, t) :: ts, (k', v) :: vs, m, h, _, _, _, h' => by
    obtain ⟨hk, m1, m2, rfl, hr, hs⟩ := h
    exact ⟨hk, m1, _, List.append_assoc _ _ _, hr, Kids.append hs h'⟩
  | [], _ :: _, _, h, _, _, _, _ => h.elim
  | _ :: _, [], _, h, _, _, _, _ => h.elim

theorem Kids.single {R : T → Value → Heap → Prop} {k : Key} {t : T} {v : Value} {m : Heap} (h : R t v m) : Kids R [(k, t)] [(k, v)] m := ⟨rfl, m, [], by simp, h, rfl⟩

/-- In whatever order the pairs stand. -/
theorem Kids.perm {R : T → Value → Heap → Prop} {vs vs' : List (Key × Value)} (hp : vs.Perm vs') : ∀ {ts : List (Key × T)} {m : Heap}, Kids R ts vs m → ∃ ts' m', ts.Perm ts' ∧ m.Perm m' ∧ Kids R ts' vs' m' := by
  induction hp with
  | nil => intro ts m h; exact ⟨ts, m, .refl _, .refl _, h⟩
  | cons x _ ih =>
    intro ts m h
    cases ts with
    | nil => exact h.elim
    | cons y ts =>
      obtain ⟨k, t⟩ := y
      obtain ⟨k', v⟩ := x
      obtain ⟨hk, m1, m2, rfl, hr, hs⟩ := h
      obtain ⟨ts', m', h1, h2, h3⟩ := ih hs
      exact ⟨(k, t) :: ts', m1 ++ m', h1.cons _, h2.append_left _, hk, m1, m', rfl, hr, h3⟩
  | swap x y l =>
    intro ts m h
    match ts, h with
    | [], h => exact h.elim
    | [p], h =>
      obtain ⟨k, t⟩ := p
      obtain ⟨k', v⟩ := y
      obtain ⟨hk, m1, m2, rfl, hr, hs⟩ := h
      exact hs.elim
    | p :: q :: ts, h =>
      obtain ⟨k1, t1⟩ := p
      obtain ⟨k2, t2⟩ := q
      obtain ⟨k1', v1⟩ := y
      obtain ⟨k2', v2⟩ := x
      obtain ⟨hk1, m1, _, rfl, hr1, hk2, m2, m3, rfl, hr2, hs⟩ := h
      refine ⟨(k2, t2) :: (k1, t1) :: ts, m2 ++ (m1 ++ m3), .swap _ _ _, ?_, hk2, m2, _, rfl, hr2, hk1, m1, m3, rfl, hr1, hs⟩
      rw [← List.append_assoc, ← List.append_assoc]
      exact List.perm_append_comm.append_right _
  | trans _ _ ih1 ih2 =>
    intro ts m h
    obtain ⟨ts1, m1, h1, h2, h3⟩ := ih1 h
    obtain ⟨ts2, m2, h4, h5, h6⟩ := ih2 h3
    exact ⟨ts2, m2, h1.trans h4, h2.trans h5, h6⟩

/-- What a key has. -/
theorem Kids.lookup {R : T → Value → Heap → Prop} (k : Key) : ∀ {ts : List (Key × T)} {vs : List (Key × Value)} {m : Heap}, Kids R ts vs m →
    (ts.lookup k = none ∧ vs.lookup k = none) ∨ ∃ t v m1, ts.lookup k = some t ∧ vs.lookup k = some v ∧ R t v m1 ∧ ∀ x ∈ m1, x ∈ m
  | [], [], _, _ => Or.inl ⟨rfl, rfl⟩
  | (k', t) :: ts, (k'', v) :: vs, m, h => by
    obtain ⟨rfl, m1, m2, rfl, hr, hs⟩ := h
    rw [List.lookup_cons, List.lookup_cons]
    cases e : (k == k') with
    | true => exact Or.inr ⟨t, v, m1, rfl, rfl, hr, fun x hx => List.mem_append_left _ hx⟩
    | false =>
      rcases Kids.lookup k hs with ⟨h1, h2⟩ | ⟨t', v', m', h1, h2, h3, h4⟩
      · exact Or.inl ⟨h1, h2⟩
      · exact Or.inr ⟨t', v', m', h1, h2, h3, fun x hx => List.mem_append_right _ (h4 x hx)⟩
  | [], _ :: _, _, h => h.elim
  | _ :: _, [], _, h => h.elim

/-! ### how trees lie -/
abbrev ptr (b : Nat) : Value := .pointer (some ⟨b, 0, none⟩)
abbrev nilS : Value := .slice none 0 0
abbrev nilM : Value := .map none

/-- The cells of a spec.Value. -/
def sCells (k : Int) (b : Bool) (i : Int) (t : Key) (items keys : Value) : Array Value := #[.int .i64 k, .bool b, .int .i64 i, .int .u64 0, str t, items, keys]

def RepS1 (sub : T → Value → Heap → Prop) : T → Value → Heap → Prop
  | .null, v, m => ∃ b, v = ptr b ∧ m = [(b, .cells (sCells 0 false 0 [] nilS nilM) 40 (0, 0))]
  | .truth x, v, m => ∃ b, v = ptr b ∧ m = [(b, .cells (sCells 1 x 0 [] nilS nilM) 40 (0, 0))]
  | .int n, v, m => ∃ b, v = ptr b ∧ m = [(b, .cells (sCells 2 false n [] nilS nilM) 40 (0, 0))]
  | .text s, v, m => ∃ b, v = ptr b ∧ m = [(b, .cells (sCells 4 false 0 s nilS nilM) 40 (0, 0))]
  | .one n, v, m => ∃ b it mi bx, v = ptr b ∧ Row 24 1 it 1 [ptr bx] mi ∧ m = (b, .cells (sCells 5 false 0 [] it nilM) 40 (0, 0)) :: (mi ++ [(bx, .cells (sCells 2 false n [] nilS nilM) 40 (0, 0))])
  | .tab es, v, m => ∃ (b r : Nat) (kv : KV) (kts : List (Key × T)) (mk : Heap), v = ptr b ∧ KeysOk es ∧ kts.Perm es ∧ Kids sub kts kv.list mk ∧ m = (b, .cells (sCells 6 false 0 [] nilS (.map (some r))) 40 (0, 0)) :: (r, kv.obj) :: mk
def RepS : Nat → T → Value → Heap → Prop
  | 0 => RepS1 fun _ _ _ => False
  | n + 1 => RepS1 (RepS n)

/-- A value of the package. -/
def RepA1 (sub : T → Value → Heap → Prop) : T → Value → Heap → Prop
  | .null, v, m => v = .nilIface ∧ m = []
  | .truth x, v, m => v = .iface 4 (.bool x) ∧ m = []
  | .int n, v, m => v = .iface 2 (.int .i64 n) ∧ m = []
  | .text s, v, m => v = .iface 9 (str s) ∧ m = []
  | .one n, v, m => ∃ s, v = .iface 89 s ∧ Row 20 1 s 1 [.iface 2 (.int .i64 n)] m
  | .tab es, v, m => ∃ (r : Nat) (kv : KV) (kts : List (Key × T)) (mk : Heap), v = .iface 63 (.map (some r)) ∧ KeysOk es ∧ kts.Perm es ∧ Kids sub kts kv.list mk ∧ m = (r, kv.obj) :: mk
def RepA : Nat → T → Value → Heap → Prop
  | 0 => RepA1 fun _ _ _ => False
  | n + 1 => RepA1 (RepA n)

/-- The cells of an impl.Value. -/
def dCells (k : Int) (b : Bool) (i : Int) (t : Key) (items keys : Value) : Array Value := #[.int .i64 k, .bool b, .int .i64 i, .int .u64 0, str t, items, keys]

/-- The cells of a list of impl.Values that lie one behind the other. -/
def DKids (R : T → Value → Heap → Prop) : List (Key × T) → List Value → Heap → Prop
  | [], cs, m => cs = [] ∧ m = []
  | (_, t) :: ts, cs, m => ∃ c cs2 m1 m2, cs = c.toList ++ cs2 ∧ m = m1 ++ m2 ∧ c.size = 7 ∧ R t (.agg c) m1 ∧ DKids R ts cs2 m2

def RepD1 (sub : T → Value → Heap → Prop) : T → Value → Heap → Prop
  | .null, v, m => v = .agg (dCells 0 false 0 [] nilS nilS) ∧ m = []
  | .truth x, v, m => v = .agg (dCells 1 x 0 [] nilS nilS) ∧ m = []
  | .int n, v, m => v = .agg (dCells 2 false n [] nilS nilS) ∧ m = []
  | .text s, v, m => v = .agg (dCells 4 false 0 s nilS nilS) ∧ m = []
  | .one n, v, m => ∃ it, v = .agg (dCells 5 false 0 [] it nilS) ∧ Row 32 7 it 1 (dCells 2 false n [] nilS nilS).toList m
  | .tab es, v, m => ∃ it ks mi mk cs mc, v = .agg (dCells 6 false 0 [] it ks) ∧ KeysOk es ∧ Row 9 1 ks es.length (es.map fun p => str p.1) mk ∧ Row 32 7 it es.length cs mi ∧ DKids sub es cs mc ∧ m = mi ++ (mk ++ mc)
def RepD : Nat → T → Value → Heap → Prop
  | 0 => RepD1 fun _ _ _ => False
  | n + 1 => RepD1 (RepD n)

theorem RepS1.mono {R R' : T → Value → Heap → Prop} (hR : ∀ t v m, R t v m → R' t v m) : ∀ {t : T} {v : Value} {m : Heap}, RepS1 R t v m → RepS1 R' t v m
  | .null, _, _, h => h
  | .truth _, _, _, h => h
  | .int _, _, _, h => h
  | .text _, _, _, h => h
  | .one _, _, _, h => h
  | .tab _, _, _, ⟨b, r, kv, kts, mk, h1, h2, h3, h4, h5⟩ => ⟨b, r, kv, kts, mk, h1, h2, h3, h4.mono hR, h5⟩
theorem RepS.succ : ∀ {n : Nat} {t : T} {v : Value} {m : Heap}, RepS n t v m → RepS (n + 1) t v m
  | 0, _, _, _, h => RepS1.mono (fun _ _ _ hf => hf.elim) h
  | _ + 1, _, _, _, h => RepS1.mono (fun _ _ _ hf => RepS.succ hf) h
theorem RepA1.mono {R R' : T → Value → Heap → Prop} (hR : ∀ t v m, R t v m → R' t v m) : ∀ {t : T} {v : Value} {m : Heap}, RepA1 R t v m → RepA1 R' t v m
  | .null, _, _, h => h
  | .truth _, _, _, h => h
  | .int _, _, _, h => h
  | .text _, _, _, h => h
  | .one _, _, _, h => h
  | .tab _, _, _, ⟨r, kv, kts, mk, h1, h2, h3, h4, h5⟩ => ⟨r, kv, kts, mk, h1, h2, h3, h4.mono hR, h5⟩
theorem RepA.succ : ∀ {n : Nat} {t : T} {v : Value} {m : Heap}, RepA n t v m → RepA (n + 1) t v m
  | 0, _, _, _, h => RepA1.mono (fun _ _ _ hf => hf.elim) h
  | _ + 1, _, _, _, h => RepA1.mono (fun _ _ _ hf => RepA.succ hf) h

theorem DKids.mono {R R' : T → Value → Heap → Prop} (hR : ∀ t v m, R t v m → R' t v m) : ∀ {ts : List (Key × T)} {cs : List Value} {m : Heap}, DKids R ts cs m → DKids R' ts cs m
  | [], _, _, h => h
  | (_, _) :: _, _, _, ⟨c, cs2, m1, m2, h1, h2, h3, h4, h5⟩ => ⟨c, cs2, m1, m2, h1, h2, h3, hR _ _ _ h4, h5.mono hR⟩
theorem DKids.snoc {R : T → Value → Heap → Prop} {k : Key} {t : T} {c : Array Value} {m1 : Heap} (hc : c.size = 7) (h1 : R t (.agg c) m1) : ∀ {ts : List (Key × T)} {cs : List Value} {m : Heap}, DKids R ts cs m → DKids R (ts ++ [(k, t)]) (cs ++ c.toList) (m ++ m1)
  | [], _, _, ⟨h2, h3⟩ => by
    subst h2 h3
    exact ⟨c, [], m1, [], by simp, by simp, hc, h1, rfl, rfl⟩
  | (_, _) :: _, _, _, ⟨c', cs2, m2, m3, h2, h3, h4, h5, h6⟩ => by
    subst h2 h3
    exact ⟨c', cs2 ++ c.toList, m2, m3 ++ m1, by simp, by simp, h4, h5, h6.snoc hc h1⟩
theorem RepD1.mono {R R' : T → Value → Heap → Prop} (hR : ∀ t v m, R t v m → R' t v m) : ∀ {t : T} {v : Value} {m : Heap}, RepD1 R t v m → RepD1 R' t v m
  | .null, _, _, h => h
  | .truth _, _, _, h => h
  | .int _, _, _, h => h
  | .text _, _, _, h => h
  | .one _, _, _, h => h
  | .tab _, _, _, ⟨it, ks, mi, mk, cs, mc, h1, h2, h3, h4, h5, h6⟩ => ⟨it, ks, mi, mk, cs, mc, h1, h2, h3, h4, h5.mono hR, h6⟩
theorem RepD.succ : ∀ {n : Nat} {t : T} {v : Value} {m : Heap}, RepD n t v m → RepD (n + 1) t v m
  | 0, _, _, _, h => RepD1.mono (fun _ _ _ hf => hf.elim) h
  | _ + 1, _, _, _, h => RepD1.mono (fun _ _ _ hf => RepD.succ hf) h
theorem RepD.le {n n' : Nat} (hn : n ≤ n') {t : T} {v : Value} {m : Heap} (h : RepD n t v m) : RepD n' t v m := by
  induction hn with
  | refl => exact h
  | step _ ih => exact ih.succ
theorem RepS.le {n n' : Nat} (hn : n ≤ n') {t : T} {v : Value} {m : Heap} (h : RepS n t v m) : RepS n' t v m := by
  induction hn with
  | refl => exact h
  | step _ ih => exact ih.succ
theorem RepA.le {n n' : Nat} (hn : n ≤ n') {t : T} {v : Value} {m : Heap} (h : RepA n t v m) : RepA n' t v m := by
  induction hn with
  | refl => exact h
  | step _ ih => exact ih.succ

/-! ### sorted lists -/
theorem KeysOk.nodup {α : Type} {es : List (Key × α)} (h : KeysOk es) : (es.map (·.1)).Nodup := h.1.imp (fun hlt e => by subst e; exact List.lt_irrefl _ hlt)
theorem nodup_le : ∀ (s l : List Key), l.Nodup → (∀ x ∈ l, x ∈ s) → l.length ≤ s.length
  | [], l, _, h => by
    cases l with
    | nil => simp
    | cons x l => exact absurd (h x (by simp)) (by simp)
  | a :: s, l, hn, h => by
    have h1 := nodup_le s (l.erase a) (hn.erase a) (fun x hx => by
      have h2 := (List.Nodup.mem_erase_iff hn).1 hx
      rcases List.mem_cons.1 (h x h2.2) with e | e
      · exact absurd e h2.1
      · exact e)
    have h3 : l.length ≤ (l.erase a).length + 1 := by
      rw [List.length_erase]
      split <;> omega
    simp only [List.length_cons]
    omega
theorem KeysOk.len {α : Type} {es : List (Key × α)} (h : KeysOk es) : es.length ≤ 6 := by
  have := nodup_le names (es.map (·.1)) h.nodup (fun x hx => by
    obtain ⟨p, hp, rfl⟩ := List.mem_map.1 hx
    exact h.2 p hp)
  simpa [names] using this
theorem perm_keys_nodup {α : Type} {es kts : List (Key × α)} (h : KeysOk es) (hp : kts.Perm es) : (kts.map (·.1)).Nodup := (hp.map (·.1)).nodup_iff.2 h.nodup

def sortK {α : Type} (l : List (Key × α)) : List (Key × α) := l.mergeSort fun x y => decide (x.1 ≤ y.1)
theorem sortK_perm {α : Type} (l : List (Key × α)) : (sortK l).Perm l := List.mergeSort_perm _ _
theorem sortK_le {α : Type} (l : List (Key × α)) : (sortK l).Pairwise fun x y => x.1 ≤ y.1 := by
  have := List.pairwise_mergeSort (le := fun x y : Key × α => decide (x.1 ≤ y.1)) (fun a b c h1 h2 => by simp only [decide_eq_true_eq] at *; exact List.le_trans h1 h2)
    (fun a b => by simp only [Bool.or_eq_true, decide_eq_true_eq]; exact List.le_total a.1 b.1) l
  exact this.imp (fun h => by simpa using h)
theorem sortK_ok {α : Type} {l : List (Key × α)} (hn : (l.map (·.1)).Nodup) (hl : ∀ p ∈ l, Nm p.1) : KeysOk (sortK l) := by
  refine ⟨?_, fun p hp => hl p ((sortK_perm l).mem_iff.1 hp)⟩
  have h1 : ((sortK l).map (·.1)).Pairwise (· ≤ ·) := by rw [List.pairwise_map]; exact sortK_le l
  have h2 : ((sortK l).map (·.1)).Nodup := ((sortK_perm l).map (·.1)).nodup_iff.2 hn
  have h3 : ((sortK l).map (·.1)).Pairwise fun x y => x ≤ y ∧ x ≠ y := List.Pairwise.and h1 h2
  exact h3.imp fun {a b} h => by
    rcases Decidable.em (a < b) with hlt | hlt
    · exact hlt
    · exact absurd (List.le_antisymm h.1 (List.not_lt.1 hlt)) h.2
/-- Sorted lists of the same pairs are one. -/
theorem sorted_unique {α : Type} {l l' : List (Key × α)} (h : KeysOk l) (h' : KeysOk l') (hp : l.Perm l') : l = l' := by
  refine List.Perm.eq_of_pairwise (le := fun a b => a.1 < b.1) (fun a b _ _ h1 h2 => ?_) ?_ ?_ hp
  · exact absurd h2 (List.lt_asymm h1)
  · exact List.pairwise_map.1 h.1
  · exact List.pairwise_map.1 h'.1
theorem sortK_eq {α : Type} {l es : List (Key × α)} (h : KeysOk es) (hp : l.Perm es) : sortK l = es :=
  sorted_unique (sortK_ok ((hp.map (·.1)).nodup_iff.2 h.nodup) (fun p hp' => h.2 p (hp.mem_iff.1 hp'))) h ((sortK_perm l).trans hp)

/-- What a key has does not hang on the order. -/
theorem lookup_perm {α : Type} {l l' : List (Key × α)} (hp : l.Perm l') (hn : (l.map (·.1)).Nodup) (k : Key) : l.lookup k = l'.lookup k := by
  induction hp with
  | nil => rfl
  | cons x _ ih =>
    rw [List.map_cons, List.nodup_cons] at hn
    obtain ⟨k', t⟩ := x
    rw [List.lookup_cons, List.lookup_cons, ih hn.2]
  | swap x y l =>
    obtain ⟨k1, t1⟩ := x
    obtain ⟨k2, t2⟩ := y
    rw [List.map_cons, List.map_cons, List.nodup_cons] at hn
    have hne : k2 ≠ k1 := fun e => hn.1 (by simp [e])
    simp only [List.lookup_cons]
    cases h1 : (k == k1) <;> cases h2 : (k == k2) <;> simp_all
  | trans h1 _ ih1 ih2 => exact (ih1 hn).trans (ih2 ((h1.map (·.1)).nodup_iff.1 hn))

end Go.Proofs.Ytnnclcfklbeocaa

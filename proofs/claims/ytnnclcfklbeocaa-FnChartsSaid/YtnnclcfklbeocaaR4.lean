/-
  Charts ('Ch'), and how one chart's values, the globals and its dependencies are laid over ('VV', 'GlobR', 'ChartR'): each has one answer.
  How high the trees are ('Hg'). No condition: definitions and lemmas.
-/
import Derived.Test.YtnnclcfklbeocaaR3
namespace Go.Proofs.Ytnnclcfklbeocaa
open Go.RowKit

/-- A chart: its name, its values, the charts that it depends on. -/
inductive Ch where
  | mk (name : Key) (vals : List (Key × T)) (deps : List Ch)
def Ch.name : Ch → Key
  | .mk n _ _ => n
def Ch.vals : Ch → List (Key × T)
  | .mk _ e _ => e
def Ch.deps : Ch → List Ch
  | .mk _ _ d => d

/-- What one key has, when a chart's values are laid below. -/
inductive VVal (mg mgk : Bool) : Option T → Option T → Option T → Prop
  | over (d : Option T) : VVal mg mgk d none d
  | base (s : T) : VVal mg mgk none (some s) (some s)
  | del (s : T) : mg = false → VVal mg mgk (some .null) (some s) none
  | keep (d s : T) : (d = .null → mg = true) → (∀ de se, d = .tab de → s ≠ .tab se) → VVal mg mgk (some d) (some s) (some d)
  | both (de se re : List (Key × T)) : KeysOk re → Coal mgk de se re → VVal mg mgk (some (.tab de)) (some (.tab se)) (some (.tab re))
def VV (mg : Bool) (ns : List Key) (de se re : List (Key × T)) : Prop := ∀ k, VVal mg (mg || ns.contains k) (de.lookup k) (se.lookup k) (re.lookup k)

theorem VVal.det {mg mgk : Bool} {a b c c' : Option T} (h : VVal mg mgk a b c) (h' : VVal mg mgk a b c') : c = c' := by
  cases h with
  | over d => cases h'; rfl
  | base s => cases h'; rfl
  | del s h1 =>
    cases h' with
    | del => rfl
    | keep _ _ h2 _ => rw [h1] at h2; exact absurd (h2 rfl) (by decide)
  | keep d s h1 h2 =>
    cases h' with
    | del _ h3 => rw [h3] at h1; exact absurd (h1 rfl) (by decide)
    | keep => rfl
    | both de se re _ _ => exact absurd rfl (h2 de se rfl)
  | both de se re hok hc =>
    cases h' with
    | keep _ _ _ h2 => exact absurd rfl (h2 de se rfl)
    | both _ _ re' hok' hc' => rw [Coal.det hok hok' hc hc']
theorem VV.det {mg : Bool} {ns : List Key} {de se re re' : List (Key × T)} (hok : KeysOk re) (hok' : KeysOk re') (h : VV mg ns de se re) (h' : VV mg ns de se re') : re = re' := lookup_ext hok hok' fun k => (h k).det (h' k)

/-- What one key of the globals has, when the globals from above are laid over. -/
inductive GVal : Option T → Option T → Option T → Prop
  | over (d : Option T) : GVal d none d
  | new (se : List (Key × T)) : GVal none (some (.tab se)) (some (.tab se))
  | both (de se re : List (Key × T)) : KeysOk re → Coal true se de re → GVal (some (.tab de)) (some (.tab se)) (some (.tab re))
  | clash (d : T) (se : List (Key × T)) : (∀ de, d ≠ .tab de) → GVal (some d) (some (.tab se)) (some d)
  | kept (de : List (Key × T)) (s : T) : (∀ se, s ≠ .tab se) → GVal (some (.tab de)) (some s) (some (.tab de))
  | set (d : Option T) (s : T) : (∀ se, s ≠ .tab se) → (∀ de, d ≠ some (.tab de)) → GVal d (some s) (some s)
theorem GVal.det {a b c c' : Option T} (h : GVal a b c) (h' : GVal a b c') : c = c' := by
  cases h with
  | over d => cases h'; rfl
  | new se =>
    cases h' with
    | new => rfl
    | set _ _ h1 _ => exact absurd rfl (h1 se)
  | both de se re hok hc =>
    cases h' with
    | both _ _ re' hok' hc' => rw [Coal.det hok hok' hc hc']
    | clash _ _ h1 => exact absurd rfl (h1 de)
    | kept _ _ h1 => exact absurd rfl (h1 se)
    | set _ _ h1 _ => exact absurd rfl (h1 se)
  | clash d se h1 =>
    cases h' with
    | both de => exact absurd rfl (h1 de)
    | clash => rfl
    | kept de _ _ => rfl
    | set _ _ h2 _ => exact absurd rfl (h2 se)
  | kept de s h1 =>
    cases h' with
    | both _ se => exact absurd rfl (h1 se)
    | clash => rfl
    | kept => rfl
    | set _ _ _ h2 => exact absurd rfl (h2 de)
  | set d s h1 h2 =>
    cases h' with
    | new se => exact absurd rfl (h1 se)
    | both de se => exact absurd rfl (h1 se)
    | clash _ se => exact absurd rfl (h1 se)
    | kept de => exact absurd rfl (h2 de)
    | set => rfl

def glob (es : List (Key × T)) : T := (es.lookup kGlobal).getD (.tab [])
/-- The globals of 'De' over those of 'de'. -/
def GlobR (De de re : List (Key × T)) : Prop :=
  (∃ dg sg gg, glob de = .tab dg ∧ glob De = .tab sg ∧ KeysOk gg ∧ (∀ k, GVal (dg.lookup k) (sg.lookup k) (gg.lookup k)) ∧ ∀ k, re.lookup k = if k = kGlobal then some (.tab gg) else de.lookup k) ∨
    (((∀ dg, glob de ≠ .tab dg) ∨ ∀ sg, glob De ≠ .tab sg) ∧ ∀ k, re.lookup k = de.lookup k)
theorem GlobR.det {De de re re' : List (Key × T)} (hok : KeysOk re) (hok' : KeysOk re') (h : GlobR De de re) (h' : GlobR De de re') : re = re' := by
  refine lookup_ext hok hok' fun k => ?_
  rcases h with ⟨dg, sg, gg, h1, h2, h3, h4, h5⟩ | ⟨h1, h2⟩
  · rcases h' with ⟨dg', sg', gg', h1', h2', h3', h4', h5'⟩ | ⟨h1', h2'⟩
    · rw [h1] at h1'
      rw [h2] at h2'
      cases h1'
      cases h2'
      have : gg = gg' := lookup_ext h3 h3' fun k => (h4 k).det (h4' k)
      rw [h5, h5', this]
    · rcases h1' with h1' | h1'
      · exact absurd h1 (h1' dg)
      · exact absurd h2 (h1' sg)
  · rcases h' with ⟨dg', sg', gg', h1', h2', h3', h4', h5'⟩ | ⟨h1', h2'⟩
    · rcases h1 with h1 | h1
      · exact absurd h1' (h1 dg')
      · exact absurd h2' (h1 sg')
    · rw [h2, h2']

/-- One dependency after the other. -/
def DepsR (sub : Ch → List (Key × T) → Option (List (Key × T)) → Prop) : List Ch → List (Key × T) → Option (List (Key × T)) → Prop
  | [], De, r => r = some De
  | c :: cs, De, r =>
    (∃ de d1 r1, (De.lookup c.name).getD (.tab []) = .tab de ∧ KeysOk d1 ∧ GlobR De de d1 ∧ sub c d1 r1 ∧
      ((r1 = none ∧ r = none) ∨ ∃ re D', r1 = some re ∧ KeysOk D' ∧ (∀ k, D'.lookup k = if k = c.name then some (.tab re) else De.lookup k) ∧ DepsR sub cs D' r)) ∨
    ((∀ de, (De.lookup c.name).getD (.tab []) ≠ .tab de) ∧ r = none)
theorem DepsR.det {sub sub' : Ch → List (Key × T) → Option (List (Key × T)) → Prop} (hs : ∀ c de r r', sub c de r → sub' c de r' → r = r') : ∀ {cs : List Ch} {De : List (Key × T)} {r r' : Option (List (Key × T))}, DepsR sub cs De r → DepsR sub' cs De r' → r = r' := by
  intro cs
  induction cs with
  | nil => intro De r r' h h'; exact Eq.trans h (Eq.symm h')
  | cons c cs ih =>
    intro De r r' h h'
    rcases h with ⟨de, d1, r1, h1, h2, h3, h4, h5⟩ | ⟨h1, h2⟩
    · rcases h' with ⟨de', d1', r1', h1', h2', h3', h4', h5'⟩ | ⟨h1', h2'⟩
      · rw [h1] at h1'
        cases h1'
        obtain rfl := GlobR.det h2 h2' h3 h3'
        obtain rfl := hs _ _ _ _ h4 h4'
        rcases h5 with ⟨h5, h6⟩ | ⟨re, D', h5, h6, h7, h8⟩
        · rcases h5' with ⟨h5', h6'⟩ | ⟨re', D'', h5', h6', h7', h8'⟩
          · rw [h6, h6']
          · rw [h5] at h5'; cases h5'
        · rcases h5' with ⟨h5', h6'⟩ | ⟨re', D'', h5', h6', h7', h8'⟩
          · rw [h5] at h5'; cases h5'
          · rw [h5] at h5'
            cases h5'
            obtain rfl : D' = D'' := lookup_ext h6 h6' fun k => by rw [h7, h7']
            exact ih h8 h8'
      · exact absurd h1 (h1' de)
    · rcases h' with ⟨de', d1', r1', h1', _⟩ | ⟨h1', h2'⟩
      · exact absurd h1' (h1 de')
      · rw [h2, h2']
/-- A chart's values below, then its dependencies. 'none': it is refused. -/
def ChartR (mg : Bool) : Nat → Ch → List (Key × T) → Option (List (Key × T)) → Prop
  | 0, c, de, r => ∃ d1, KeysOk d1 ∧ VV mg (c.deps.map Ch.name) de c.vals d1 ∧ DepsR (fun _ _ _ => False) c.deps d1 r
  | n + 1, c, de, r => ∃ d1, KeysOk d1 ∧ VV mg (c.deps.map Ch.name) de c.vals d1 ∧ DepsR (ChartR mg n) c.deps d1 r
theorem ChartR.det {mg : Bool} : ∀ (n : Nat) (c : Ch) (de : List (Key × T)) (r r' : Option (List (Key × T))), ChartR mg n c de r → ChartR mg n c de r' → r = r' := by
  intro n
  induction n with
  | zero =>
    rintro c de r r' ⟨d1, h1, h2, h3⟩ ⟨d1', h1', h2', h3'⟩
    obtain rfl := VV.det h1 h1' h2 h2'
    exact DepsR.det (fun _ _ _ _ h => h.elim) h3 h3'
  | succ n ih =>
    rintro c de r r' ⟨d1, h1, h2, h3⟩ ⟨d1', h1', h2', h3'⟩
    obtain rfl := VV.det h1 h1' h2 h2'
    exact DepsR.det (fun c de r r' h h' => ih c de r r' h h') h3 h3'

/-! ### how high -/
def Hg : Nat → T → Prop
  | 0, .tab es => es = []
  | n + 1, .tab es => ∀ p, p ∈ es → Hg n p.2
  | _, _ => True
theorem Hg.leaf {n : Nat} {t : T} (ht : ∀ es, t ≠ .tab es) : Hg n t := by
  cases t with
  | tab es => exact absurd rfl (ht es)
  | _ => cases n <;> trivial
theorem Hg.succ : ∀ {n : Nat} {t : T}, Hg n t → Hg (n + 1) t := by
  intro n
  induction n with
  | zero =>
    intro t h
    cases t with
    | tab es => have : es = [] := h; subst this; exact fun p hp => (by cases hp)
    | _ => trivial
  | succ n ih =>
    intro t h
    cases t with
    | tab es => exact fun p hp => ih (h p hp)
    | _ => trivial
theorem Hg.le {n n' : Nat} (hn : n ≤ n') {t : T} (h : Hg n t) : Hg n' t := by
  induction hn with
  | refl => exact h
  | step _ ih => exact ih.succ
theorem Kids.hg {R : T → Value → Heap → Prop} {n : Nat} (hR : ∀ t v m, R t v m → Hg n t) : ∀ {ts : List (Key × T)} {vs : List (Key × Value)} {m : Heap}, Kids R ts vs m → ∀ p, p ∈ ts → Hg n p.2
  | [], [], _, _ => fun _ hp => by cases hp
  | (k, t) :: ts, (k', v) :: vs, m, h => by
    obtain ⟨_, m1, m2, _, hr, hs⟩ := h
    intro p hp
    rcases List.mem_cons.1 hp with rfl | hp
    · exact hR _ _ _ hr
    · exact Kids.hg hR hs p hp
  | [], _ :: _, _, h => h.elim
  | _ :: _, [], _, h => h.elim
theorem RepA.hg : ∀ {n : Nat} {t : T} {v : Value} {m : Heap}, RepA n t v m → Hg n t := by
  intro n
  induction n with
  | zero =>
    intro t v m h
    cases t with
    | tab es =>
      obtain ⟨r, kv, kts, mk, h1, h2, h3, h4, h5⟩ := h
      show es = []
      cases kts with
      | nil => exact h3.symm.eq_nil
      | cons p kts =>
        obtain ⟨k, t⟩ := p
        match hl : kv.list, h4 with
        | [], h4 => exact h4.elim
        | (k', v) :: vs, h4 => obtain ⟨_, _, _, _, h, _⟩ := h4; exact h.elim
    | _ => trivial
  | succ n ih =>
    intro t v m h
    cases t with
    | tab es =>
      obtain ⟨r, kv, kts, mk, h1, h2, h3, h4, h5⟩ := h
      exact fun p hp => h4.hg (fun _ _ _ h => ih h) p (h3.mem_iff.2 hp)
    | _ => trivial
theorem Hg.look {n : Nat} {es : List (Key × T)} (h : Hg (n + 1) (.tab es)) {k : Key} {t : T} (hk : es.lookup k = some t) : Hg n t := h (k, t) (mem_of_lookup hk)
theorem Hg.of_look {n : Nat} {es : List (Key × T)} (hok : KeysOk es) (h : ∀ k t, es.lookup k = some t → Hg n t) : Hg (n + 1) (.tab es) := fun p hp => h p.1 p.2 (lookup_of_mem hok.nodup hp)
theorem hg0_of_look {es : List (Key × T)} (h : ∀ k, es.lookup k = none) : es = [] := by
  cases es with
  | nil => rfl
  | cons p es =>
    have := h p.1
    rw [List.lookup_cons, BEq.rfl] at this
    cases this
theorem Coal.hg {mg : Bool} : ∀ {n : Nat} {de se re : List (Key × T)}, KeysOk re → Coal mg de se re → Hg n (.tab de) → Hg n (.tab se) → Hg n (.tab re) := by
  intro n
  induction n with
  | zero =>
    intro de se re hok hc hd hs
    have : de = [] := hd
    subst this
    have : se = [] := hs
    subst this
    exact hg0_of_look fun k => (hc k).of_none
  | succ n ih =>
    intro de se re hok hc hd hs
    refine Hg.of_look hok fun k t hk => ?_
    have h := hc k
    rw [hk] at h
    generalize hdk : de.lookup k = d at h
    generalize hsk : se.lookup k = s at h
    cases h with
    | base => exact hs.look hsk
    | over => exact hd.look hdk
    | keep => exact hd.look hdk
    | both d1 s1 r1 hok1 hc1 => exact ih hok1 hc1 (hd.look hdk) (hs.look hsk)

/-- How high a chart's destination may be. -/
def Dok (b : Nat) (de : List (Key × T)) : Prop := ∀ k t, de.lookup k = some t → Hg (if k = kGlobal then 2 else b) t
theorem VV.dok {mg : Bool} {ns : List Key} {b : Nat} {de se re : List (Key × T)} (hb : 1 ≤ b) (h : VV mg ns de se re) (hd : Dok b de) (hs : Hg 2 (.tab se)) : Dok b re := by
  intro k t hk
  have h1 : 1 ≤ (if k = kGlobal then 2 else b) := by split <;> omega
  have h := h k
  rw [hk] at h
  generalize hdk : de.lookup k = d at h
  generalize hsk : se.lookup k = s at h
  cases h with
  | over => exact hd k t hdk
  | base => exact (hs.look hsk).le h1
  | keep => exact hd k t hdk
  | both d1 s1 r1 hok1 hc1 => exact Coal.hg hok1 hc1 (hd k _ hdk) ((hs.look hsk).le h1)
theorem GlobR.dok {De de re : List (Key × T)} (h : GlobR De de re) (hD : ∀ t, De.lookup kGlobal = some t → Hg 2 t) (hd : Hg 2 (.tab de)) : Dok 1 re := by
  have hg : ∀ dg, glob de = .tab dg → Hg 1 (.tab dg) := fun dg e => by
    unfold glob at e
    cases hl : de.lookup kGlobal with
    | none => rw [hl] at e; cases e; exact fun p hp => (by cases hp)
    | some t => rw [hl] at e; cases e; exact hd.look hl
  have hG : ∀ sg, glob De = .tab sg → Hg 2 (.tab sg) := fun sg e => by
    unfold glob at e
    cases hl : De.lookup kGlobal with
    | none => rw [hl] at e; cases e; exact fun p hp => (by cases hp)
    | some t => rw [hl] at e; cases e; exact hD _ hl
  intro k t hk
  rcases h with ⟨dg, sg, gg, h1, h2, h3, h4, h5⟩ | ⟨h1, h2⟩
  · rw [h5] at hk
    by_cases e : k = kGlobal
    · rw [if_pos e] at hk ⊢
      cases hk
      refine Hg.of_look h3 fun k' t' hk' => ?_
      have h := h4 k'
      rw [hk'] at h
      generalize hdk : dg.lookup k' = d at h
      generalize hsk : sg.lookup k' = s at h
      have hd1 := hg dg h1
      have hs1 := hG sg h2
      cases h with
      | over => exact (hd1.look hdk).succ
      | new => exact hs1.look hsk
      | both d1 s1 r1 hok1 hc1 => exact Coal.hg hok1 hc1 (hs1.look hsk) (hd1.look hdk).succ
      | clash => exact (hd1.look hdk).succ
      | kept => exact (hd1.look hdk).succ
      | set => exact hs1.look hsk
    · rw [if_neg e] at hk ⊢
      exact hd.look hk
  · rw [h2] at hk
    exact (hd.look hk).le (by split <;> omega)

/-- A chart's form: at most 'n' charts deep, its dependencies' names apart and other than 'global'. -/
def CWf : Nat → Ch → Prop
  | 0, c => c.name.length ≤ 6 ∧ KeysOk c.vals ∧ Hg 2 (.tab c.vals) ∧ c.deps = []
  | n + 1, c => c.name.length ≤ 6 ∧ KeysOk c.vals ∧ Hg 2 (.tab c.vals) ∧ (c.deps.map Ch.name).Nodup ∧ c.deps.length ≤ 1000 ∧ ∀ d, d ∈ c.deps → Nm d.name ∧ d.name ≠ kGlobal ∧ CWf n d

end Go.Proofs.Ytnnclcfklbeocaa

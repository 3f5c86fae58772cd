/-
  Values of which parts may be shared ('RepX'), and coalesceTablesFullKey over them.
  Conditions: the table below has no table where one above may be shared ('lim').
-/
import Derived.Test.YtnnclcfklbeocaaW19
namespace Go.Proofs.Ytnnclcfklbeocaa
open Go.RowKit

variable {W0 : World}

/-- Where in a chart's values: at a chart's root (or below another key than 'global'); the globals; a table of the globals; below it: there an empty table may be shared. -/
inductive Mode where
  | V
  | G
  | X
  | Y
abbrev kGlobal : Key := [103, 108, 111, 98, 97, 108]
def kidMode : Mode → Key → Mode
  | .V, k => if k = kGlobal then .G else .V
  | .G, _ => .X
  | .X, _ => .Y
  | .Y, _ => .Y

/-- A table of the value's own, or what is no table. -/
def Own1 (sub : Key → T → Value → Heap → Prop) : T → Value → Heap → Prop
  | .tab es, v, m => ∃ (r : Nat) (kv : KV) (kts : List (Key × T)) (mk : Heap), v = .iface 63 (.map (some r)) ∧ KeysOk es ∧ kts.Perm es ∧ KidsK sub kts kv.list mk ∧ m = (r, kv.obj) :: mk
  | t, v, m => RepA 0 t v m
/-- What may be shared: what is no table; at the lowest place an (empty) table too. -/
def ShareOk (md : Mode) : T → Prop
  | .tab _ => md = .Y
  | _ => True
def Shared (S : Heap) (md : Mode) (t : T) (v : Value) (m : Heap) : Prop := ShareOk md t ∧ m = [] ∧ ∃ m0, RepA 0 t v m0 ∧ ∀ x, x ∈ m0 → x ∈ S
def RepX1 (S : Heap) (md : Mode) (sub : Key → T → Value → Heap → Prop) (t : T) (v : Value) (m : Heap) : Prop := Own1 sub t v m ∨ Shared S md t v m
def RepX (S : Heap) : Nat → Mode → T → Value → Heap → Prop
  | 0, md => RepX1 S md fun _ _ _ _ => False
  | n + 1, md => RepX1 S md fun k => RepX S n (kidMode md k)

theorem Own1.mono {R R' : Key → T → Value → Heap → Prop} (hR : ∀ k t v m, R k t v m → R' k t v m) : ∀ {t : T} {v : Value} {m : Heap}, Own1 R t v m → Own1 R' t v m
  | .null, _, _, h => h
  | .truth _, _, _, h => h
  | .int _, _, _, h => h
  | .text _, _, _, h => h
  | .one _, _, _, h => h
  | .tab _, _, _, ⟨r, kv, kts, mk, h1, h2, h3, h4, h5⟩ => ⟨r, kv, kts, mk, h1, h2, h3, h4.mono hR, h5⟩
theorem RepX1.mono {S S' : Heap} (hS : ∀ x, x ∈ S → x ∈ S') {md : Mode} {R R' : Key → T → Value → Heap → Prop} (hR : ∀ k t v m, R k t v m → R' k t v m) {t : T} {v : Value} {m : Heap} (h : RepX1 S md R t v m) : RepX1 S' md R' t v m :=
  h.imp (fun h => h.mono hR) fun ⟨h1, h2, m0, h3, h4⟩ => ⟨h1, h2, m0, h3, fun x hx => hS x (h4 x hx)⟩
theorem RepX.grow {S S' : Heap} (hS : ∀ x, x ∈ S → x ∈ S') : ∀ {n : Nat} {md : Mode} {t : T} {v : Value} {m : Heap}, RepX S n md t v m → RepX S' n md t v m
  | 0, _, _, _, _, h => RepX1.mono hS (fun _ _ _ _ hf => hf) h
  | _ + 1, _, _, _, _, h => RepX1.mono hS (fun _ _ _ _ hf => RepX.grow hS hf) h
theorem RepX.succ {S : Heap} : ∀ {n : Nat} {md : Mode} {t : T} {v : Value} {m : Heap}, RepX S n md t v m → RepX S (n + 1) md t v m
  | 0, _, _, _, _, h => RepX1.mono (fun _ h => h) (fun _ _ _ _ hf => hf.elim) h
  | _ + 1, _, _, _, _, h => RepX1.mono (fun _ h => h) (fun _ _ _ _ hf => RepX.succ hf) h
theorem RepX.le {S : Heap} {n n' : Nat} (hn : n ≤ n') {md : Mode} {t : T} {v : Value} {m : Heap} (h : RepX S n md t v m) : RepX S n' md t v m := by
  induction hn with
  | refl => exact h
  | step _ ih => exact ih.succ
/-- What is all a value's own may stand anywhere. -/
theorem RepA.toX (S : Heap) : ∀ {n : Nat} (md : Mode) {t : T} {v : Value} {m : Heap}, RepA n t v m → RepX S n md t v m := by
  intro n
  induction n with
  | zero =>
    intro md t v m h
    cases t with
    | tab es => obtain ⟨r, kv, kts, mk, h1, h2, h3, h4, h5⟩ := h; exact Or.inl ⟨r, kv, kts, mk, h1, h2, h3, h4.toK (fun _ _ _ _ h => h), h5⟩
    | _ => exact Or.inl h
  | succ n ih =>
    intro md t v m h
    cases t with
    | tab es => obtain ⟨r, kv, kts, mk, h1, h2, h3, h4, h5⟩ := h; exact Or.inl ⟨r, kv, kts, mk, h1, h2, h3, h4.toK (R := fun k => RepX S n (kidMode md k)) (fun k _ _ _ h => ih (kidMode md k) h), h5⟩
    | _ => exact Or.inl h
theorem RepX.one {S : Heap} {n : Nat} {md : Mode} {t : T} {v : Value} {m : Heap} (h : RepX S n md t v m) : ∃ sub, RepX1 S md sub t v m := by
  cases n <;> exact ⟨_, h⟩
theorem RepX.leaf {S : Heap} {n : Nat} {md : Mode} {t : T} {v : Value} {m : Heap} (h : RepX S n md t v m) (ht : ∀ es, t ≠ .tab es) : ∃ m0, RepA 0 t v m0 ∧ ∀ x, x ∈ m0 → x ∈ m ∨ x ∈ S := by
  obtain ⟨sub, h | ⟨_, _, m0, h1, h2⟩⟩ := h.one
  · cases t with
    | tab es => exact absurd rfl (ht es)
    | _ => exact ⟨m, h, fun _ h => Or.inl h⟩
  · exact ⟨m0, h1, fun x hx => Or.inr (h2 x hx)⟩
theorem RepX.look {S : Heap} {n : Nat} {md : Mode} {t : T} {v : Value} {m : Heap} (h : RepX S n md t v m) : Look t v := by
  by_cases ht : ∃ es, t = .tab es
  · obtain ⟨es, rfl⟩ := ht
    obtain ⟨sub, ⟨r, _, _, _, h, _⟩ | ⟨_, _, m0, h, _⟩⟩ := h.one
    · exact Or.inl ⟨es, r, rfl, h⟩
    · obtain ⟨r, _, _, _, h, _⟩ := h
      exact Or.inl ⟨es, r, rfl, h⟩
  · have hnt : ∀ es, t ≠ .tab es := fun es e => ht ⟨es, e⟩
    obtain ⟨m0, h0, _⟩ := h.leaf hnt
    rcases h0.look with ⟨es, _, _, _, _, e, _⟩ | h1
    · exact absurd e (hnt es)
    · exact Or.inr h1
theorem RepA.lookk {n : Nat} {t : T} {v : Value} {m : Heap} (h : RepA n t v m) : Look t v := by
  rcases h.look with ⟨es, r, _, _, _, e, h1, _⟩ | h1
  · exact Or.inl ⟨es, r, e, h1⟩
  · exact Or.inr h1
theorem RepA.nil2 {n : Nat} {t : T} {v : Value} {m : Heap} (h : RepA n t v m) : (t = .null ∧ v = .nilIface) ∨ (t ≠ .null ∧ ∃ T' u, v = .iface T' u) := h.nil.imp (fun h => ⟨h.1, h.2.1⟩) id
theorem RepX.nil {S : Heap} {n : Nat} {md : Mode} {t : T} {v : Value} {m : Heap} (h : RepX S n md t v m) : (t = .null ∧ v = .nilIface) ∨ (t ≠ .null ∧ ∃ T' u, v = .iface T' u) := by
  rcases h.look with ⟨es, r, rfl, rfl⟩ | ⟨hnt, _⟩
  · exact Or.inr ⟨fun e => (by cases e), _, _, rfl⟩
  · obtain ⟨m0, h0, _⟩ := h.leaf hnt
    exact h0.nil2
/-- A table that is no shared one. -/
theorem RepX.table {S : Heap} {n : Nat} {md : Mode} {es : List (Key × T)} {v : Value} {m : Heap} (h : RepX S (n + 1) md (.tab es) v m) (hY : md ≠ .Y) : ∃ r kv kts mk, v = .iface 63 (.map (some r)) ∧ KeysOk es ∧ kts.Perm es ∧ KidsK (fun k => RepX S n (kidMode md k)) kts (KV.list kv) mk ∧ m = (r, kv.obj) :: mk := by
  rcases h with h | ⟨h, _⟩
  · exact h
  · exact absurd h hY
theorem RepX.mk {S : Heap} {n r : Nat} {md : Mode} {kts : List (Key × T)} {kv : KV} {mk : Heap} (hk : KidsK (fun k => RepX S n (kidMode md k)) kts kv.list mk) (hn : ∀ p, p ∈ kts → Nm p.1) :
    RepX S (n + 1) md (.tab (sortK kts)) (.iface 63 (.map (some r))) ((r, kv.obj) :: mk) ∧ KeysOk (sortK kts) ∧ ∀ k, (sortK kts).lookup k = kts.lookup k := by
  have hnd : (kts.map (·.1)).Nodup := by rw [hk.keys]; exact kv.nodup
  have hok := sortK_ok hnd hn
  exact ⟨Or.inl ⟨r, kv, kts, mk, rfl, hok, (sortK_perm kts).symm, hk, rfl⟩, hok, sortK_lookup hnd⟩
theorem KidsK.toA {S : Heap} {R : Key → T → Value → Heap → Prop} {R0 : T → Value → Heap → Prop} (hR : ∀ k t v m, R k t v m → ∃ m', R0 t v m' ∧ ∀ x, x ∈ m' → x ∈ m ∨ x ∈ S) : ∀ {ts : List (Key × T)} {vs : List (Key × Value)} {m : Heap}, KidsK R ts vs m → ∃ m', Kids R0 ts vs m' ∧ ∀ x, x ∈ m' → x ∈ m ∨ x ∈ S
  | [], [], _, h => ⟨[], rfl, fun _ h => (by cases h)⟩
  | (k, t) :: ts, (k', v) :: vs, m, h => by
    obtain ⟨hk, m1, m2, rfl, hr, hs⟩ := h
    obtain ⟨m1', h1, h2⟩ := hR k t v m1 hr
    obtain ⟨m2', h3, h4⟩ := KidsK.toA hR hs
    refine ⟨m1' ++ m2', ⟨hk, m1', m2', rfl, h1, h3⟩, fun x hx => ?_⟩
    rcases List.mem_append.1 hx with hx | hx
    · exact (h2 x hx).imp (fun h => List.mem_append_left _ h) id
    · exact (h4 x hx).imp (fun h => List.mem_append_right _ h) id
  | [], _ :: _, _, h => h.elim
  | _ :: _, [], _, h => h.elim
/-- To be read only: as a value all of whose blocks are known. -/
theorem RepX.toA {S : Heap} : ∀ {n : Nat} {md : Mode} {t : T} {v : Value} {m : Heap}, RepX S n md t v m → ∃ m', RepA n t v m' ∧ ∀ x, x ∈ m' → x ∈ m ∨ x ∈ S := by
  intro n
  induction n with
  | zero =>
    intro md t v m h
    rcases h with h | ⟨_, rfl, m0, h1, h2⟩
    · cases t with
      | tab es =>
        obtain ⟨r, kv, kts, mk, h1, h2, h3, h4, rfl⟩ := h
        obtain ⟨m', h5, h6⟩ := h4.toA (S := S) (R0 := fun _ _ _ => False) (fun _ _ _ _ h => h.elim)
        exact ⟨(r, kv.obj) :: m', ⟨r, kv, kts, m', h1, h2, h3, h5, rfl⟩, fun x hx => (List.mem_cons.1 hx).elim (fun e => Or.inl (by rw [e]; exact List.mem_cons_self)) (fun h => (h6 x h).imp (List.mem_cons_of_mem _) id)⟩
      | _ => exact ⟨m, h, fun _ h => Or.inl h⟩
    · exact ⟨m0, h1, fun x hx => Or.inr (h2 x hx)⟩
  | succ n ih =>
    intro md t v m h
    rcases h with h | ⟨_, rfl, m0, h1, h2⟩
    · cases t with
      | tab es =>
        obtain ⟨r, kv, kts, mk, h1, h2, h3, h4, rfl⟩ := h
        obtain ⟨m', h5, h6⟩ := h4.toA (R0 := RepA n) (fun _ _ _ _ h => ih h)
        exact ⟨(r, kv.obj) :: m', ⟨r, kv, kts, m', h1, h2, h3, h5, rfl⟩, fun x hx => (List.mem_cons.1 hx).elim (fun e => Or.inl (by rw [e]; exact List.mem_cons_self)) (fun h => (h6 x h).imp (List.mem_cons_of_mem _) id)⟩
      | _ => exact ⟨m, h, fun _ h => Or.inl h⟩
    · exact ⟨m0, h1.le (Nat.zero_le _), fun x hx => Or.inr (h2 x hx)⟩

/-! ### coalescing -/
/-- How high a table may be that is laid below one that stands so. -/
def lim : Mode → Nat
  | .V => 2
  | .G => 1
  | _ => 0
def CoalXSpec (W0 : World) (S : Heap) (h : Nat) : Prop := ∀ (n : Nat) (md : Mode) (de se : List (Key × T)) (rd rs : Nat) (mdd ms : Heap) (pre : Key) (mg : Bool) (F : Heap), md ≠ .Y → h ≤ lim md → h + 1 ≤ n → RepX S n md (.tab de) (.iface 63 (.map (some rd))) mdd → RepA h (.tab se) (.iface 63 (.map (some rs))) ms → pre.length + 7 * (h + 1) ≤ 1000 →
  Tri Try.prog W0 43 [.func (.func 44) #[] #[], .map (some rd), .map (some rs), str pre, .bool mg] (mdd ++ (ms ++ F)) fun v M' => v = .map (some rd) ∧ ∃ re m', RepX S n md (.tab re) (.iface 63 (.map (some rd))) m' ∧ KeysOk re ∧ Coal mg de se re ∧ M' = m' ++ F

theorem coalX_step (S : Heap) (h : Nat) (ih : ∀ h', h = h' + 1 → CoalXSpec W0 S h') : CoalXSpec W0 S h := by
  intro n md de se rd rs mdd ms pre mg F hY hlim hn hd hs hpre
  obtain ⟨n, rfl⟩ : ∃ n', n = n' + 1 := ⟨n - 1, by omega⟩
  obtain ⟨_, kvd, dts, mdk, e, hokd, hpd, hkd, rfl⟩ := hd.table hY
  cases e
  have hsk : ∃ (kvs : KV) (sts : List (Key × T)) (msk : Heap), KeysOk se ∧ sts.Perm se ∧ Kids (fun t v m => (∃ h', h = h' + 1 ∧ RepA h' t v m) ∨ (t = .null ∧ v = .nilIface ∧ m = [])) sts kvs.list msk ∧ ms = (rs, kvs.obj) :: msk := by
    cases h with
    | zero =>
      obtain ⟨r, kv, kts, mk, e, h2, h3, h4, h5⟩ := hs
      cases e
      exact ⟨kv, kts, mk, h2, h3, h4.mono (fun _ _ _ hf => hf.elim), h5⟩
    | succ h =>
      obtain ⟨r, kv, kts, mk, e, h2, h3, h4, h5⟩ := hs
      cases e
      exact ⟨kv, kts, mk, h2, h3, h4.mono (fun _ _ _ hf => Or.inl ⟨h, rfl, hf⟩), h5⟩
  obtain ⟨kvs, sts, msk, hoks, hps, hks, rfl⟩ := hsk
  have hg := coal_gen (W0 := W0) (fun k => RepX S n (kidMode md k)) (fun t v m => (∃ h', h = h' + 1 ∧ RepA h' t v m) ∨ (t = .null ∧ v = .nilIface ∧ m = [])) (pre.length + 7) (by omega)
    (fun h => h.nil) (fun {t v m} h => by
      rcases h with ⟨_, _, h⟩ | ⟨h1, h2, _⟩
      · exact h.nil2
      · exact Or.inl ⟨h1, h2⟩) (fun h => h.look) (fun {t v m} h => by
      rcases h with ⟨_, _, h⟩ | ⟨rfl, rfl, _⟩
      · exact h.lookk
      · exact Or.inr ⟨fun _ e => (by cases e), Or.inl rfl⟩) (Or.inr ⟨rfl, rfl, rfl⟩) (fun {k t v m} hh => by
      rcases hh with ⟨h', rfl, hh⟩ | ⟨rfl, rfl, rfl⟩
      · exact (hh.toX S (kidMode md k)).le (by omega)
      · exact (RepX.le (S := S) (Nat.zero_le n) (show RepX S 0 (kidMode md k) .null .nilIface [] from Or.inl ⟨rfl, rfl⟩)))
    (fun k de' se' rd' rs' md' ms' pre' mg' F' hd' hs' hp' => by
      rcases hs' with ⟨h', rfl, hs'⟩ | ⟨e, _⟩
      · have hm : kidMode md k ≠ .Y ∧ h' ≤ lim (kidMode md k) := by
          cases md with
          | V =>
            by_cases e : k = kGlobal
            · simp only [kidMode, if_pos e, lim] at hlim ⊢
              exact ⟨fun e => (by cases e), by omega⟩
            · simp only [kidMode, if_neg e, lim] at hlim ⊢
              exact ⟨fun e => (by cases e), by omega⟩
          | G => simp only [kidMode, lim] at hlim ⊢; exact ⟨fun e => (by cases e), by omega⟩
          | X => simp only [lim] at hlim; omega
          | Y => exact absurd rfl hY
        exact ih h' rfl n (kidMode md k) de' se' rd' rs' md' ms' pre' mg' F' hm.1 hm.2 (by omega) hd' hs' (by omega)
      · cases e)
    (fun k => de.lookup k) (fun k => se.lookup k) rd rs kvd kvs dts sts mdk msk pre mg F hkd hks (fun p hp => hokd.2 p (hpd.mem_iff.1 hp)) (fun p hp => hoks.2 p (hps.mem_iff.1 hp))
    (fun k => lookup_perm hpd (perm_keys_nodup hokd hpd) k) (fun k => lookup_perm hps (perm_keys_nodup hoks hps) k) (Nat.le_refl _)
  refine (hg.to (M := ((rd, kvd.obj) :: mdk) ++ (((rs, kvs.obj) :: msk) ++ F)) (fun f => by simp <;> omega)).mono ?_
  rintro v M' ⟨rfl, kv', dts', md', hk', hn', hc', rfl⟩
  obtain ⟨h1, h2, h3⟩ := RepX.mk (r := rd) hk' hn'
  exact ⟨rfl, _, _, h1, h2, fun k => by rw [h3]; exact hc' k, rfl⟩

theorem coalX_any (S : Heap) (h : Nat) : CoalXSpec W0 S h := by
  induction h with
  | zero => exact coalX_step S 0 (fun _ e => by cases e)
  | succ h ih => exact coalX_step S (h + 1) (fun h' e => by cases e; exact ih)

end Go.Proofs.Ytnnclcfklbeocaa

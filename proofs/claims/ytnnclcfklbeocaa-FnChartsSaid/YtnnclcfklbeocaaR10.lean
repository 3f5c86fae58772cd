/-
  A spec table with one dependency's table taken out ('Rq'), and put back; a spec.Chart's cells.
  No condition: definitions and lemmas.
-/
import Derived.Test.YtnnclcfklbeocaaW29
namespace Go.Proofs.Ytnnclcfklbeocaa
open Go.RowKit

/-- As a spec table's pairs, the value under 'name' taken out. -/
def Rq (n : Nat) (name : Key) (v : Value) : Key → T → Value → Heap → Prop := fun k t v' m => (k = name ∧ v' = v ∧ m = []) ∨ (k ≠ name ∧ RepS n t v' m)

theorem sdep_open {n : Nat} (name : Key) {dts : List (Key × T)} {vs : List (Key × Value)} {m : Heap} (h : KidsK (fun _ => RepS n) dts vs m) (hn : (vs.map (·.1)).Nodup) :
    ∃ mv mr, Fits m (mv ++ mr) ∧ ((dts.lookup name = none ∧ vs.lookup name = none ∧ mv = []) ∨ ∃ t b, dts.lookup name = some t ∧ vs.lookup name = some (ptr b) ∧ RepS n t (ptr b) mv) ∧
      ∀ t' v', ∃ ts' m', KidsK (Rq n name v') ts' (putL vs name v') m' ∧ (∀ k, ts'.lookup k = if k = name then some t' else dts.lookup k) ∧ (∀ p, p ∈ ts' → p.1 = name ∨ ∃ q, q ∈ dts ∧ q.1 = p.1) ∧ Fits mr m' := by
  obtain ⟨mv, mr, h1, h2, h3⟩ := h.hole name hn
  refine ⟨mv, mr, h1, ?_, fun t' v' => h3 (Rq n name v') (fun k t v m hk hr => Or.inr ⟨hk, hr⟩) t' v' [] (Or.inl ⟨rfl, rfl, rfl⟩)⟩
  rcases h2 with h2 | ⟨t, v, h5, h6, h7⟩
  · exact Or.inl h2
  · obtain ⟨b, _, _, _, _, _, _, rfl, _⟩ := h7.kind
    exact Or.inr ⟨t, b, h5, h6, h7⟩
theorem sdep_fill {n n2 : Nat} {name : Key} {v : Value} {dts : List (Key × T)} {vs : List (Key × Value)} {m : Heap} (h : KidsK (Rq n name v) dts vs m) (hn : (vs.map (·.1)).Nodup) (hl : vs.lookup name = some v) (hn2 : n ≤ n2) {t' : T} {mv' : Heap} (hr : RepS n2 t' v mv') :
    ∃ ts' m', KidsK (fun _ => RepS n2) ts' vs m' ∧ (∀ k, ts'.lookup k = if k = name then some t' else dts.lookup k) ∧ (∀ p, p ∈ ts' → p.1 = name ∨ ∃ q, q ∈ dts ∧ q.1 = p.1) ∧ Fits (mv' ++ m) m' := by
  obtain ⟨mv, mr, h1, _, h3⟩ := h.hole name hn
  obtain ⟨ts', m', g1, g2, g3, g4⟩ := h3 (fun _ => RepS n2) (fun k t v m hk hr => by
    rcases hr with ⟨e, _⟩ | ⟨_, hr⟩
    · exact absurd e hk
    · exact hr.le hn2) t' v mv' hr
  rw [putL_same hn hl] at g1
  refine ⟨ts', m', g1, g2, g3, fun f => ?_⟩
  have e1 := h1 f
  have e2 := g4 f
  simp only [List.map_append, List.sum_append] at e1 e2 ⊢
  omega
theorem sdep_glob {n : Nat} {name : Key} (hname : name ≠ kGlobal) {v : Value} {dts De : List (Key × T)} {kv : KV} {m F : Heap} (h : KidsK (Rq n name v) dts kv.list m) (hl : dts.lookup kGlobal = De.lookup kGlobal) (hF : ∀ x, x ∈ m → x ∈ F) : SgS n kv De F := by
  rcases h.lookup kGlobal with ⟨h1, h2⟩ | ⟨t, v', m1, h1, h2, h3, h4⟩
  · exact Or.inl ⟨h2, by rw [← hl]; exact h1⟩
  · rcases h3 with ⟨e, _⟩ | ⟨_, h3⟩
    · exact absurd e.symm hname
    · obtain ⟨b, _, _, _, _, _, _, rfl, _⟩ := h3.kind
      exact Or.inr ⟨t, b, m1, h2, by rw [← hl]; exact h1, h3, fun x hx => hF x (h4 x hx)⟩

theorem RepP.cells {n : Nat} {c : Ch} {a : Array Value} {m : Heap} (h : RepP n c a m) : ∃ b p n' c', a = #[str c.name, ptr b, .slice p n' c'] := by
  obtain ⟨dsl, cs, mr, md, mk, ⟨p, rfl, hval⟩, hrow, _, _⟩ := h.open
  obtain ⟨b, _, _, _, _, _, _, rfl, _⟩ := hval.kind
  obtain ⟨p3, c3, rfl⟩ := hrow.shape
  exact ⟨b, p3, _, c3, rfl⟩
theorem all_pCells {s : Key} {b : Nat} {p : Option Addr} {n c : Nat} : (#[str s, ptr b, .slice p n c] : Array Value).all (·.oneCell') = true := by simp [str, Value.oneCell']
theorem names_step (l : List Ch) (d : Ch) (key : Key) : ((l ++ [d]).map Ch.name).contains key = ((l.map Ch.name).contains key || (d.name == key)) := by
  rw [Bool.eq_iff_iff]
  simp only [List.contains_iff_mem, Bool.or_eq_true, List.map_append, List.mem_append, List.map_cons, List.map_nil, List.mem_singleton, beq_iff_eq]
  exact ⟨fun h => h.imp id Eq.symm, fun h => h.imp id Eq.symm⟩

/-- What Charted answers: false; or true, and the table is 're' now. -/
def AnsS (b : Nat) (F : Heap) (v : Value) (M' : Heap) : Option (List (Key × T)) → Prop
  | none => v = .bool false ∧ ∃ X, M' = X ++ F
  | some re => v = .bool true ∧ KeysOk re ∧ ∃ n' md', RepS n' (.tab re) (ptr b) md' ∧ M' = md' ++ F

end Go.Proofs.Ytnnclcfklbeocaa

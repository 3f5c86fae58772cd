/-
  The walks, part 26: coalesce, by the chart's depth.
  Conditions: the chart lies as RepH says and is as CWf says, the destination lies as RepX says and is as high as Dok says.
-/
import Derived.Test.YtnnclcfklbeocaaW25
namespace Go.Proofs.Ytnnclcfklbeocaa
open Go.RowKit

variable {W0 : World}

def ChartSpec (W0 : World) (nh : Nat) : Prop := ∀ (c : Ch) (b : Nat) (mh S : Heap) (n : Nat) (de : List (Key × T)) (rd : Nat) (md F : Heap) (pre : Key) (mg : Bool), RepH nh c #[ptr b] mh → (∀ x, x ∈ mh → x ∈ F) → CWf nh c → RepX S n .V (.tab de) (.iface 63 (.map (some rd))) md → Dok 2 de → pre.length + 8 * (nh + 1) ≤ 400 →
  Tri Try.prog W0 49 [.func (.func 44) #[] #[], ptr b, .map (some rd), str pre, .bool mg] (md ++ F) fun v M' => ∃ r, ChartR mg nh c de r ∧ Ans S rd F v M' r

theorem nodup_drop {ns : List Key} (h : ns.Nodup) {j : Nat} {a b : Key} (ha : ns[j]? = some a) (hb : b ∈ ns.drop (j + 1)) : b ≠ a := by
  obtain ⟨i, hi⟩ := List.mem_iff_getElem?.1 hb
  rw [List.getElem?_drop] at hi
  exact fun e => nodup_ne h (show j < j + 1 + i by omega) ha hi e.symm

theorem chart_step (nh : Nat) (sub : Ch → List (Key × T) → Option (List (Key × T)) → Prop) (mg : Bool) (c : Ch) (b : Nat) (mh S : Heap) (n : Nat) (de : List (Key × T)) (rd : Nat) (md F : Heap) (pre : Key) (hc : RepH nh c #[ptr b] mh) (hmh : ∀ x, x ∈ mh → x ∈ F) (hnl : c.name.length ≤ 6) (_ : KeysOk c.vals) (hhv : Hg 2 (.tab c.vals)) (hnd : (c.deps.map Ch.name).Nodup) (hnames : ∀ d, d ∈ c.deps → Nm d.name ∧ d.name ≠ kGlobal ∧ True) (hcl : c.deps.length ≤ 1000)
    (hd : RepX S n .V (.tab de) (.iface 63 (.map (some rd))) md) (hDok : Dok 2 de) (hpre : pre.length + 8 * (nh + 1) ≤ 400)
    (hsub : ∀ (d : Ch) (b' : Nat) (mh S' : Heap) (n' : Nat) (de : List (Key × T)) (rd : Nat) (md F' : Heap) (pre' : Key), d ∈ c.deps → (∃ n', nh = n' + 1 ∧ RepH n' d #[ptr b'] mh) → (∀ x, x ∈ mh → x ∈ F') → RepX S' n' .V (.tab de) (.iface 63 (.map (some rd))) md → KeysOk de → Dok 2 de → pre'.length ≤ 400 - 8 * nh →
      Tri Try.prog W0 49 [.func (.func 44) #[] #[], ptr b', .map (some rd), str pre', .bool mg] (md ++ F') fun v M' => ∃ r, sub d de r ∧ Ans S' rd F' v M' r) :
    Tri Try.prog W0 49 [.func (.func 44) #[] #[], ptr b, .map (some rd), str pre, .bool mg] (md ++ F) fun v M' => ∃ r, (∃ d1, KeysOk d1 ∧ VV mg (c.deps.map Ch.name) de c.vals d1 ∧ DepsR sub c.deps d1 r) ∧ Ans S rd F v M' r := by
  obtain ⟨dsl, cs, mr, mdd, mk, ⟨b', bm, r, mv, hb', hval, rfl⟩, hrow, hck, rfl⟩ := hc.open
  cases hb'
  have hb : (b, Obj.cells #[ptr bm, .map (some r), dsl] 100 (0, 0)) ∈ F := hmh _ m0
  have hbm : (bm, Obj.cells #[str c.name] 97 (0, 0)) ∈ F := hmh _ m1
  have hmv : ∀ x, x ∈ mv → x ∈ F := fun x hx => hmh _ (.tail _ (.tail _ (List.mem_append_left _ hx)))
  have hmdd : ∀ x, x ∈ mdd → x ∈ F := fun x hx => hmh _ (List.mem_append_right _ (List.mem_append_left _ hx))
  have hmk : ∀ x, x ∈ mk → x ∈ F := fun x hx => hmh _ (List.mem_append_right _ (List.mem_append_right _ hx))
  refine tri_of 26 Try.func49 rfl Try.ntmps49 (Nat.le_of_ble_eq_true rfl) ?_
  refine c_seq ?_
  refine c_region ?_   -- region 0
  refine g_q (qv_assign rfl) rfl ?_
  refine g_q (qv_assign rfl) rfl ?_
  refine g_nil ?_
  refine e_seq ?_
  refine c_seq ?_
  refine c_region ?_   -- region 1
  refine g_q (qv_move rfl) rfl ?_
  refine g_q (qv_move rfl) rfl ?_
  refine g_q (qv_move rfl) rfl ?_
  refine g_q (qv_move rfl) rfl ?_
  refine g_q (qv_move rfl) rfl ?_
  refine g_i (iv_call (vs := [.func (.func 44) #[] #[], ptr b, .map (some rd), str pre, .bool mg]) Try.call58 ⟨rfl, rfl, rfl, rfl, rfl, trivial⟩ (values_any S n c b bm r dsl cs mv mdd mk de rd md F pre mg hb hbm hval hmv hrow hmdd (hck.mono fun _ _ _ ⟨n', _, h⟩ => ⟨n', h⟩) hmk hcl hnl (hd.le (by omega)) (by omega))) rfl ?_
  rintro _ _ ⟨d1, md1, hd1, hok1, hvv, rfl⟩
  refine g_nil ?_
  refine e_seq ?_
  refine c_seq ?_
  refine c_region ?_   -- region 2
  refine g_q (qv_move rfl) rfl ?_
  refine g_q (qv_move rfl) rfl ?_
  refine g_q (qv_move rfl) rfl ?_
  refine g_q (qv_move rfl) rfl ?_
  refine g_q (qv_move rfl) rfl ?_
  refine g_i (iv_call (vs := [.func (.func 44) #[] #[], ptr b, .map (some rd), str pre, .bool mg]) Try.call59 ⟨rfl, rfl, rfl, rfl, rfl, trivial⟩ (deps59_any sub (fun d a m => ∃ n', nh = n' + 1 ∧ RepH n' d a m) S (n + 2) c b bm _ dsl cs mdd mk d1 rd md1 F pre mg hb hbm hrow hmdd hck hmk hcl hnl (fun d a m ⟨n', _, h⟩ => h.shown) hnames (fun j d d' h1 h2 => nodup_drop hnd (by rw [List.getElem?_map, h1]; rfl) (by rw [← List.map_drop]; exact List.mem_map.2 ⟨d', h2, rfl⟩)) (400 - 8 * nh) (by omega) hsub hd1 (hvv.dok (by omega) hDok hhv) (by omega))) rfl ?_
  rintro v3 _ ⟨r3, hr3, hans⟩
  have hshape : ∃ x y, v3 = .tuple #[x, y] := by
    cases r3 with
    | none => obtain ⟨⟨x, T3, u, h⟩, _⟩ := hans; exact ⟨_, _, h⟩
    | some re => exact ⟨_, _, hans.1⟩
  obtain ⟨x3, y3, rfl⟩ := hshape
  refine g_q (qv_extract rfl rfl) rfl ?_
  refine g_q (qv_extract rfl rfl) rfl ?_
  refine g_q (qv_assign rfl) rfl ?_
  refine g_q (qv_assign rfl) rfl ?_
  refine g_nil ?_
  refine e_seq ?_
  refine c_ret ?_
  refine ?_
  exact e_ret2 (.inl rfl) Try.results49 rfl rfl ⟨r3, ⟨d1, hok1, hvv, hr3⟩, hans⟩
theorem chart_any (nh : Nat) : ChartSpec W0 nh := by
  induction nh with
  | zero =>
    intro c b mh S n de rd md F pre mg hc hmh hwf hd hDok hpre
    obtain ⟨h1, h2, h3, h4⟩ := hwf
    exact chart_step 0 (fun _ _ _ => False) mg c b mh S n de rd md F pre hc hmh h1 h2 h3 (by rw [h4]; exact List.nodup_nil) (fun d hd => by rw [h4] at hd; cases hd) (by rw [h4]; exact Nat.zero_le _) hd hDok hpre (fun d _ _ _ _ _ _ _ _ _ hdm => by rw [h4] at hdm; cases hdm)
  | succ nh ih =>
    intro c b mh S n de rd md F pre mg hc hmh hwf hd hDok hpre
    obtain ⟨h1, h2, h3, h4, hcl, h5⟩ := hwf
    refine chart_step (nh + 1) (ChartR mg nh) mg c b mh S n de rd md F pre hc hmh h1 h2 h3 h4 (fun d hd => ⟨(h5 d hd).1, (h5 d hd).2.1, trivial⟩) hcl hd hDok hpre (fun d b' mh' S' n' de' rd' md' F' pre' hdm hr hmh' hd' _ hdok' hp' => ?_)
    obtain ⟨n2, e, hr⟩ := hr
    cases e
    exact ih d b' mh' S' n' de' rd' md' F' pre' mg hr hmh' (h5 d hdm).2.2 hd' hdok' (by omega)

end Go.Proofs.Ytnnclcfklbeocaa

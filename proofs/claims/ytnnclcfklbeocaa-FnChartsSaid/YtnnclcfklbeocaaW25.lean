/-
  The walks, part 25: coalesceDeps and coalesce, by the charts' depth.
  Conditions: the chart lies as RepH says and is as CWf says, the destination lies as RepX says.
-/
import Derived.Test.YtnnclcfklbeocaaR8
namespace Go.Proofs.Ytnnclcfklbeocaa
open Go.RowKit

variable {W0 : World}

/-- What coalesce answers: an error, or the destination itself, which is now 're'. -/
def Ans (S : Heap) (rd : Nat) (F : Heap) (v : Value) (M' : Heap) : Option (List (Key × T)) → Prop
  | none => (∃ x T u, v = .tuple #[x, .iface T u]) ∧ ∃ X, M' = X ++ F
  | some re => v = .tuple #[.map (some rd), .nilIface] ∧ KeysOk re ∧ ∃ n2 N md2, RepX (N ++ S) n2 .V (.tab re) (.iface 63 (.map (some rd))) md2 ∧ M' = md2 ++ (N ++ F)

set_option maxHeartbeats 8000000 in
theorem deps59_any (sub : Ch → List (Key × T) → Option (List (Key × T)) → Prop) (CR : Ch → Array Value → Heap → Prop) (S : Heap) (n : Nat) (c : Ch) (b bm : Nat) (y dsl : Value) (cs : List Value) (mdd mk : Heap) (De : List (Key × T)) (rD : Nat) (mD F : Heap) (pre : Key) (mg : Bool) (hb : (b, Obj.cells #[ptr bm, y, dsl] 100 (0, 0)) ∈ F) (hbm : (bm, Obj.cells #[str c.name] 97 (0, 0)) ∈ F)
    (hrow : Row 77 1 dsl c.deps.length cs mdd) (hmd : ∀ x, x ∈ mdd → x ∈ F) (hck : CKids 1 CR c.deps cs mk) (hmk : ∀ x, x ∈ mk → x ∈ F) (hcl : c.deps.length ≤ 1000) (hnl : c.name.length ≤ 6)
    (hcr : ∀ d a m, CR d a m → ∃ b bm y dsl, a = #[ptr b] ∧ (b, Obj.cells #[ptr bm, y, dsl] 100 (0, 0)) ∈ m ∧ (bm, Obj.cells #[str d.name] 97 (0, 0)) ∈ m)
    (hnames : ∀ d, d ∈ c.deps → Nm d.name ∧ d.name ≠ kGlobal ∧ True) (hapart : ∀ j d d', c.deps[j]? = some d → d' ∈ c.deps.drop (j + 1) → d'.name ≠ d.name) (bnd : Nat) (hbnd : bnd ≤ 400)
    (hsub : ∀ (d : Ch) (b' : Nat) (mh S' : Heap) (n' : Nat) (de : List (Key × T)) (rd : Nat) (md F' : Heap) (pre' : Key), d ∈ c.deps → CR d #[ptr b'] mh → (∀ x, x ∈ mh → x ∈ F') → RepX S' n' .V (.tab de) (.iface 63 (.map (some rd))) md → KeysOk de → Dok 2 de → pre'.length ≤ bnd →
      Tri Try.prog W0 49 [.func (.func 44) #[] #[], ptr b', .map (some rd), str pre', .bool mg] (md ++ F') fun v M' => ∃ r, sub d de r ∧ Ans S' rd F' v M' r)
    (hD : RepX S (n + 1) .V (.tab De) (.iface 63 (.map (some rD))) mD) (hDok : Dok 2 De) (hpre : pre.length + 7 ≤ bnd) :
    Tri Try.prog W0 59 [.func (.func 44) #[] #[], ptr b, .map (some rD), str pre, .bool mg] (mD ++ F) fun v M' => ∃ r, DepsR sub c.deps De r ∧ Ans S rD F v M' r := by
  obtain ⟨_, kvD, dts, mdk, e, hokD, hpD, hkD, rfl⟩ := hD.table (fun e => by cases e)
  cases e
  obtain ⟨p, cp, rfl⟩ := hrow.shape
  refine Tri.to (M' := (rD, kvD.obj) :: (mdk ++ F)) ?_ (by rw [List.cons_append]; exact Fits.refl _)
  refine tri_of 91 Try.func59 rfl Try.ntmps59 (Nat.le_of_ble_eq_true rfl) ?_
  refine c_seq ?_
  refine c_region ?_   -- region 0
  refine g_q (qv_assign rfl) rfl ?_
  refine g_q (qv_assign rfl) rfl ?_
  refine g_nil ?_
  refine e_seq ?_
  refine c_seq ?_
  refine c_seq ?_
  refine c_region ?_   -- region 1
  refine g_q (qv_move rfl) rfl ?_
  refine g_i (iv_call (vs := [ptr b]) Try.call74 ⟨rfl, trivial⟩ (deps_any (.tail _ (List.mem_append_right _ hb)))) rfl ?_
  rintro _ _ ⟨rfl, rfl⟩
  refine g_q (qv_len_slice rfl Try.runUnderlying98) rfl ?_
  refine g_q (qv_move rfl) rfl ?_
  refine g_nil ?_
  refine e_seq ?_
  refine c_block ?_
  refine c_keep (L' := [(0, .func (.func 44) #[] #[]), (1, ptr b), (2, .map (some rD)), (3, str pre), (4, .bool mg), (22, .slice p c.deps.length cp), (23, .int .i64 (c.deps.length : Int)), (24, .int .i64 ((0 : Nat) : Int))]) ⟨rfl, rfl, rfl, rfl, rfl, rfl, rfl, rfl, trivial⟩ ?_
  refine c_loop (ι := Nat) (fun j L M' => ∃ Dj kvD dts mdk N nj, L = [(0, .func (.func 44) #[] #[]), (1, ptr b), (2, .map (some rD)), (3, str pre), (4, .bool mg), (22, .slice p c.deps.length cp), (23, .int .i64 (c.deps.length : Int)), (24, .int .i64 (j : Int))] ∧ j ≤ c.deps.length ∧ KeysOk Dj ∧ (∀ k, dts.lookup k = Dj.lookup k) ∧ (∀ p, p ∈ dts → Nm p.1) ∧ KidsK (fun k => RepX (N ++ S) nj (kidMode .V k)) dts (KV.list kvD) mdk ∧ (∀ d, d ∈ c.deps.drop j → ∀ t, Dj.lookup d.name = some t → Hg 2 t) ∧ (∀ t, Dj.lookup kGlobal = some t → Hg 2 t) ∧ (∀ r, DepsR sub (c.deps.drop j) Dj r → DepsR sub c.deps De r) ∧ M' = (rD, kvD.obj) :: (mdk ++ (N ++ F))) (fun j => c.deps.length - j) 0 ⟨De, kvD, dts, mdk, [], n, rfl, Nat.zero_le _, hokD, fun k => lookup_perm hpD (perm_keys_nodup hokD hpD) k, fun p hp => hokD.2 p (hpD.mem_iff.1 hp), hkD, fun d hd t ht => by have := hDok _ _ ht; rwa [if_neg (hnames d (by simpa using hd)).2.1] at this, fun t ht => by have := hDok _ _ ht; rwa [if_pos rfl] at this, fun r h => h, rfl⟩ ?_
  clear hkD hpD dts
  rintro j _ _ ⟨Dj, kvD, dts, mdk, N, nj, rfl, hj, hokj, hdl, hnm, hkd, hhg, hhG, hcont, rfl⟩
  refine c_seq ?_
  refine c_region ?_   -- region 2
  refine g_q (qv_lss rfl rfl) rfl ?_
  refine g_nil ?_
  refine e_seq ?_
  refine c_seq ?_
  refine c_cond rfl (fun hc => ?_) (fun hc => ?_)
  · refine c_skip ?_
    refine e_seq ?_
    have hlt : j < c.deps.length := by
      have := of_decide_eq_true hc
      omega
    obtain ⟨d, hd⟩ : ∃ d, c.deps[j]? = some d := ⟨c.deps[j], List.getElem?_eq_getElem hlt⟩
    have hdm : d ∈ c.deps := List.mem_of_getElem? hd
    have hdrop : c.deps.drop j = d :: c.deps.drop (j + 1) := by
      rw [List.drop_eq_getElem_cons hlt]
      rw [List.getElem?_eq_getElem hlt] at hd
      rw [Option.some.inj hd]
    obtain ⟨hnk, hng, hnew⟩ := hnames d hdm
    obtain ⟨a, m1, ha, hrd, hat, hin⟩ := hck.at hd
    obtain ⟨bd, bm2, y2, dsl2, rfl, hb2, hbm2⟩ := (hcr _ _ _ hrd)
    obtain ⟨g, cap, cells, he, hg, hcell⟩ := row_at (k := j) (u := ptr bd) hrow (by have := hat 0 (ptr bd) rfl; simpa using this)
    cases he
    have hin2 : ∀ x, x ∈ m1 → x ∈ F := fun x hx => hmk x (hin x hx)
    obtain ⟨mv, mr, hfm, hcase, hopen⟩ := dep_open d.name hng hkd kvD.nodup
    refine c_seq ?_
    refine c_block ?_
    refine c_seq ?_
    refine c_region ?_   -- region 3
    refine g_q (qv_index rfl rfl Try.runUnderlying98 Try.sizeOf77 (by omega) (by omega)) rfl ?_
    refine g_q (qv_load (v := ptr bd) rfl Try.isAgg77 (.tail _ (List.mem_append_right _ (List.mem_append_right _ (hmd _ hg)))) hcell) rfl ?_
    refine g_q (qv_assign rfl) rfl ?_
    refine g_nil ?_
    refine e_seq ?_
    refine c_cut (fun L' M' => ∃ rN de' mv' kv1 dts1 m1', L' = [(0, .func (.func 44) #[] #[]), (1, ptr b), (2, .map (some rD)), (3, str pre), (4, .bool mg), (13, ptr bd), (22, .slice (some ⟨g, 0, none⟩) c.deps.length cp), (23, .int .i64 (c.deps.length : Int)), (24, .int .i64 (j : Int))] ∧ (Dj.lookup d.name).getD (.tab []) = .tab de' ∧ Hg 2 (.tab de') ∧ RepX (N ++ S) (nj + 1) .V (.tab de') (.iface 63 (.map (some rN))) mv' ∧ KidsK (Rh (N ++ S) nj d.name (.iface 63 (.map (some rN)))) dts1 (KV.list kv1) m1' ∧ kv1.list.lookup d.name = some (.iface 63 (.map (some rN))) ∧ (∀ k, dts1.lookup k = if k = d.name then some (.tab de') else Dj.lookup k) ∧ (∀ p, p ∈ dts1 → Nm p.1) ∧ M' = (rD, kv1.obj) :: (mv' ++ (m1' ++ (N ++ F)))) ?_ ?_
    · rcases hcase with ⟨htn, hvn, rfl⟩ | ⟨t, v, hts, hvs, hrv⟩
      · refine c_seq ?_
        refine c_region ?_   -- region 4
        refine g_q (qv_move rfl) rfl ?_
        refine g_q (qv_move rfl) rfl ?_
        refine g_i (iv_call (vs := [ptr bd]) Try.call75 ⟨rfl, trivial⟩ (name_any ((.tail _ (List.mem_append_right _ (List.mem_append_right _ (hin2 _ hb2))))) ((.tail _ (List.mem_append_right _ (List.mem_append_right _ (hin2 _ hbm2))))))) rfl ?_
        rintro _ _ ⟨rfl, rfl⟩
        refine g_q (QV.to (v' := .tuple #[.nilIface, .bool false]) (qv_lookup2 (m := kvD) (k := d.name) rfl rfl Try.runUnderlying63 Try.runUnderlying9 Try.zeroValue20 m0) (by rw [hvn]; rfl)) rfl ?_
        refine g_q (qv_move rfl) rfl ?_
        refine g_q (qv_extract rfl rfl) rfl ?_
        refine g_q (qv_extract rfl rfl) rfl ?_
        refine g_q (qv_assign rfl) rfl ?_
        refine g_q (qv_assign rfl) rfl ?_
        refine g_nil ?_
        refine e_seq ?_
        refine c_seq ?_
        refine c_region ?_   -- region 5
        refine g_q (qv_move rfl) rfl ?_
        refine g_q (qv_not rfl) rfl ?_
        refine g_nil ?_
        refine e_seq ?_
        refine c_true rfl ?_
        refine c_region ?_   -- region 6
        refine g_q (qv_move rfl) rfl ?_
        refine g_q (qv_move rfl) rfl ?_
        refine g_i (iv_call (vs := [ptr bd]) Try.call75 ⟨rfl, trivial⟩ (name_any ((.tail _ (List.mem_append_right _ (List.mem_append_right _ (hin2 _ hb2))))) ((.tail _ (List.mem_append_right _ (List.mem_append_right _ (hin2 _ hbm2))))))) rfl ?_
        rintro _ _ ⟨rfl, rfl⟩
        refine g_i iv_makeKV rfl ?_
        rintro _ _ ⟨rN, rfl, rfl⟩
        refine g_q (qv_iface Try.runUnderlying63 (fun _ h => by cases h) rfl) rfl ?_
        refine g_i0 (iv_put (i := 1) (m := kvD) rfl rfl rfl Try.runUnderlying63 Try.runUnderlying9 rfl) ?_
        rintro _ _ rfl
        refine g_nil ?_
        obtain ⟨dts1, m1', hk1, hl1, hn1, hf1⟩ := hopen (.tab []) (.iface 63 (.map (some rN)))
        refine e_to (M' := (rD, (kvD.put d.name (.iface 63 (.map (some rN)))).obj) :: ([(rN, KV.empty.obj)] ++ (m1' ++ (N ++ F)))) (fun f => by have h1 := hfm f; have h2 := hf1 f; simp only [List.set_cons_succ, List.set_cons_zero, List.nil_append, List.map_cons, List.sum_cons, List.map_append, List.sum_append, List.cons_append] at h1 h2 ⊢; omega) ?_
        exact e_mid (L' := [(0, .func (.func 44) #[] #[]), (1, ptr b), (2, .map (some rD)), (3, str pre), (4, .bool mg), (13, ptr bd), (22, .slice (some ⟨g, 0, none⟩) c.deps.length cp), (23, .int .i64 (c.deps.length : Int)), (24, .int .i64 (j : Int))]) ⟨rfl, rfl, rfl, rfl, rfl, rfl, rfl, rfl, rfl, trivial⟩ ⟨rN, [], [(rN, KV.empty.obj)], kvD.put d.name (.iface 63 (.map (some rN))), dts1, m1', rfl, by rw [← hdl, htn]; rfl, fun p hp => (by cases hp), Or.inl ⟨rN, KV.empty, [], [], rfl, ⟨List.Pairwise.nil, fun _ h => (by cases h)⟩, List.Perm.refl _, rfl, rfl⟩, by rw [KV.list_put]; exact hk1, by rw [KV.list_put, lookup_putL, if_pos rfl], fun k => by rw [hl1, hdl], (fun p hp => (hn1 p hp).elim (fun e => by rw [e]; exact hnk) (fun ⟨q, hq, e⟩ => by rw [← e]; exact hnm q hq)), rfl⟩
      · refine c_seq ?_
        refine c_region ?_   -- region 4
        refine g_q (qv_move rfl) rfl ?_
        refine g_q (qv_move rfl) rfl ?_
        refine g_i (iv_call (vs := [ptr bd]) Try.call75 ⟨rfl, trivial⟩ (name_any ((.tail _ (List.mem_append_right _ (List.mem_append_right _ (hin2 _ hb2))))) ((.tail _ (List.mem_append_right _ (List.mem_append_right _ (hin2 _ hbm2))))))) rfl ?_
        rintro _ _ ⟨rfl, rfl⟩
        refine g_q (QV.to (v' := .tuple #[v, .bool true]) (qv_lookup2 (m := kvD) (k := d.name) rfl rfl Try.runUnderlying63 Try.runUnderlying9 Try.zeroValue20 m0) (by rw [hvs]; rfl)) rfl ?_
        refine g_q (qv_move rfl) rfl ?_
        refine g_q (qv_extract rfl rfl) rfl ?_
        refine g_q (qv_extract rfl rfl) rfl ?_
        refine g_q (qv_assign rfl) rfl ?_
        refine g_q (qv_assign rfl) rfl ?_
        refine g_nil ?_
        refine e_seq ?_
        refine c_seq ?_
        refine c_region ?_   -- region 5
        refine g_q (qv_move rfl) rfl ?_
        refine g_q (qv_not rfl) rfl ?_
        refine g_nil ?_
        refine e_seq ?_
        refine c_false rfl ?_
        refine c_seq ?_
        refine c_region ?_   -- region 7
        refine g_q (qv_move rfl) rfl ?_
        refine g_i (iv_call (vs := [v]) Try.call55 ⟨rfl, trivial⟩ (istable_gen t v _ hrv.look)) rfl ?_
        rintro _ _ ⟨rfl, rfl⟩
        refine g_q (qv_not rfl) rfl ?_
        refine g_nil ?_
        refine e_seq ?_
        by_cases ht : ∃ es, t = .tab es
        · obtain ⟨de1, rfl⟩ := ht
          obtain ⟨rN, e⟩ := tab_of hrv.look
          cases e
          refine c_false rfl ?_
          refine c_skip ?_
          obtain ⟨dts1, m1', hk1, hl1, hn1, hf1⟩ := hopen (.tab de1) (.iface 63 (.map (some rN)))
          rw [putL_same kvD.nodup hvs] at hk1
          refine e_to (M' := (rD, kvD.obj) :: (mv ++ (m1' ++ (N ++ F)))) (fun f => by have h1 := hfm f; have h2 := hf1 f; simp only [List.map_cons, List.sum_cons, List.map_append, List.sum_append] at h1 h2 ⊢; omega) ?_
          exact e_mid (L' := [(0, .func (.func 44) #[] #[]), (1, ptr b), (2, .map (some rD)), (3, str pre), (4, .bool mg), (13, ptr bd), (22, .slice (some ⟨g, 0, none⟩) c.deps.length cp), (23, .int .i64 (c.deps.length : Int)), (24, .int .i64 (j : Int))]) ⟨rfl, rfl, rfl, rfl, rfl, rfl, rfl, rfl, rfl, trivial⟩ ⟨rN, de1, mv, kvD, dts1, m1', rfl, by rw [← hdl, hts]; rfl, hhg d (by rw [hdrop]; exact List.mem_cons_self) _ (by rw [← hdl]; exact hts), hrv.le (by omega), hk1, hvs, fun k => by rw [hl1, hdl], (fun p hp => (hn1 p hp).elim (fun e => by rw [e]; exact hnk) (fun ⟨q, hq, e⟩ => by rw [← e]; exact hnm q hq)), rfl⟩
        · have hf : isTabT t = false := by
            cases e : isTabT t with
            | false => rfl
            | true => exact absurd (isTabT_iff.1 e) ht
          refine c_true (by rw [← Bool.not_false, ← hf]; rfl) ?_
          refine c_seq ?_
          refine c_region ?_   -- region 8
          refine g_q (qv_move rfl) rfl ?_
          refine g_i (iv_call (vs := [str [116, 121, 112, 101, 32, 109, 105, 115, 109, 97, 116, 99, 104, 32, 111, 110, 32, 37, 115, 58, 32, 37, 116]]) Try.call45 ⟨rfl, trivial⟩ (err_any [116, 121, 112, 101, 32, 109, 105, 115, 109, 97, 116, 99, 104, 32, 111, 110, 32, 37, 115, 58, 32, 37, 116] _)) rfl ?_
          rintro _ _ ⟨be, me, rfl, rfl⟩
          refine g_q (qv_assign rfl) rfl ?_
          refine g_q (qv_assign rfl) rfl ?_
          refine g_nil ?_
          refine e_seq ?_
          refine c_ret ?_
          refine e_ret_then (e_ret_block (e_ret_then (e_ret_then (e_ret_block (e_ret_then (?_))))))
          refine e_ret2 (.inl rfl) Try.results59 rfl rfl ⟨none, hcont _ ?_, ⟨_, _, _, rfl⟩, me ++ ((rD, kvD.obj) :: (mdk ++ N)), by simp⟩
          rw [hdrop]
          refine Or.inr ⟨fun de e => ht ?_, rfl⟩
          rw [← hdl, hts] at e
          exact ⟨de, e⟩
    · rintro _ _ ⟨rN, de', mv', kv1, dts1, m1', rfl, hget, hgde, hrde, hk1, hv1, hl1, hnm1, rfl⟩
      obtain ⟨mg0, mr0, hfg, hgcase, hglob⟩ := dep_glob hng hk1 kv1.nodup
      refine c_seq ?_
      refine c_region ?_   -- region 9
      refine g_q (qv_move rfl) rfl ?_
      refine g_q (qv_move rfl) rfl ?_
      refine g_i (iv_call (vs := [ptr bd]) Try.call75 ⟨rfl, trivial⟩ (name_any ((.tail _ (List.mem_append_right _ (List.mem_append_right _ (List.mem_append_right _ (hin2 _ hb2)))))) ((.tail _ (List.mem_append_right _ (List.mem_append_right _ (List.mem_append_right _ (hin2 _ hbm2)))))))) rfl ?_
      rintro _ _ ⟨rfl, rfl⟩
      refine g_q (QV.to (v' := .tuple #[.iface 63 (.map (some rN)), .bool true]) (qv_lookup2 (m := kv1) (k := d.name) rfl rfl Try.runUnderlying63 Try.runUnderlying9 Try.zeroValue20 m0) (by rw [hv1]; rfl)) rfl ?_
      refine g_q (qv_move rfl) rfl ?_
      refine g_q (qv_extract rfl rfl) rfl ?_
      refine g_q (qv_extract rfl rfl) rfl ?_
      refine g_q (qv_assign rfl) rfl ?_
      refine g_q (qv_assign rfl) rfl ?_
      refine g_nil ?_
      refine e_seq ?_
      refine c_seq ?_
      refine c_region ?_   -- region 10
      refine g_q (qv_move rfl) rfl ?_
      refine g_nil ?_
      refine e_seq ?_
      refine c_true rfl ?_
      refine c_seq ?_
      refine c_region ?_   -- region 11
      refine g_q (qv_move rfl) rfl ?_
      refine g_q (qv_as rfl Try.runUnderlying63 (fun _ h => by cases h)) rfl ?_
      refine g_q (qv_assign rfl) rfl ?_
      refine g_nil ?_
      refine e_seq ?_
      refine c_seq ?_
      refine c_region ?_   -- region 12
      refine g_q (qv_move rfl) rfl ?_
      refine g_q (qv_move rfl) rfl ?_
      refine g_q (qv_nil rfl) rfl ?_
      refine g_q (qv_field rfl Try.runUnderlying100 rfl Try.sizeOf95 rfl) rfl ?_
      refine g_q (qv_load (v := ptr bm) rfl Try.isAgg95 (.tail _ (List.mem_append_right _ (List.mem_append_right _ (List.mem_append_right _ hb)))) rfl) rfl ?_
      refine g_q (qv_nil rfl) rfl ?_
      refine g_q (qv_field rfl Try.runUnderlying97 rfl Try.sizeOf9 rfl) rfl ?_
      refine g_q (qv_load (v := str c.name) rfl Try.isAgg9 (.tail _ (List.mem_append_right _ (List.mem_append_right _ (List.mem_append_right _ hbm)))) rfl) rfl ?_
      refine g_i (iv_call (vs := [str pre, str c.name]) Try.call54 ⟨rfl, rfl, trivial⟩ (concat_any pre c.name _ (by omega) hnl)) rfl ?_
      rintro _ _ ⟨full, rfl, hfl, rfl⟩
      refine g_q (qv_assign rfl) rfl ?_
      refine g_nil ?_
      refine e_seq ?_
      refine c_seq ?_
      refine c_region ?_   -- region 13
      refine g_q (qv_move rfl) rfl ?_
      refine g_q (qv_move rfl) rfl ?_
      refine g_q (qv_move rfl) rfl ?_
      refine g_q (qv_move rfl) rfl ?_
      refine g_q (qv_move rfl) rfl ?_
      refine g_to (M' := mv' ++ (mg0 ++ ((rD, kv1.obj) :: (mr0 ++ (N ++ F))))) (fun f => by have h1 := hfg f; simp only [List.map_cons, List.sum_cons, List.map_append, List.sum_append] at h1 ⊢; omega) ?_
      have hGl : dts1.lookup kGlobal = Dj.lookup kGlobal := by
        rw [hl1, if_neg (fun e => hng e.symm)]
      have hsg : SgAt (N ++ S) (nj + 1) kv1 Dj mg0 := by
        rcases hgcase with ⟨h1, h2, h3⟩ | ⟨tg, vg, h1, h2, h3⟩
        · exact Or.inl ⟨h2, by rw [← hGl]; exact h1, h3⟩
        · exact Or.inr ⟨tg, vg, h2, by rw [← hGl]; exact h1, hhG tg (by rw [← hGl]; exact h1), h3.le (by omega)⟩
      refine g_i (iv_call (vs := [.func (.func 44) #[] #[], .map (some rN), .map (some rD), str full, .bool mg]) Try.call76 ⟨rfl, rfl, rfl, rfl, rfl, trivial⟩ (globals_any (N ++ S) (nj + 1) de' Dj rN rD kv1 mv' mg0 _ full mg hrde hgde hsg m0 (by omega))) rfl ?_
      rintro _ _ ⟨n2, re1, md2, mg2, N2, hre1, hok1, hgr, hsg2, rfl⟩
      refine g_nil ?_
      refine e_seq ?_
      refine c_seq ?_
      refine c_region ?_   -- region 14
      refine g_q (qv_assign rfl) rfl ?_
      refine g_nil ?_
      refine e_seq ?_
      refine c_seq ?_
      refine c_region ?_   -- region 15
      refine g_q (qv_move rfl) rfl ?_
      refine g_q (qv_move rfl) rfl ?_
      refine g_i (iv_call (vs := [ptr bd]) Try.call75 ⟨rfl, trivial⟩ (name_any (List.mem_append_right _ (List.mem_append_right _ (List.mem_append_right _ (.tail _ (List.mem_append_right _ (List.mem_append_right _ (hin2 _ hb2))))))) (List.mem_append_right _ (List.mem_append_right _ (List.mem_append_right _ (.tail _ (List.mem_append_right _ (List.mem_append_right _ (hin2 _ hbm2))))))))) rfl ?_
      rintro _ _ ⟨rfl, rfl⟩
      refine g_q (qv_move rfl) rfl ?_
      refine g_q (qv_move rfl) rfl ?_
      refine g_q (qv_move rfl) rfl ?_
      refine g_q (qv_move rfl) rfl ?_
      refine g_q (qv_move rfl) rfl ?_
      have hgD : ∀ t, Dj.lookup kGlobal = some t → Hg 2 t := hhG
      have hdok1 : Dok 2 re1 := fun k t ht => (hgr.dok hgD hgde k t ht).le (by split <;> omega)
      refine g_i (iv_call (vs := [.func (.func 44) #[] #[], ptr bd, .map (some rN), str full, .bool mg]) Try.call49 ⟨rfl, rfl, rfl, rfl, rfl, trivial⟩ (hsub d bd m1 (N2 ++ (N ++ S)) n2 re1 rN md2 (mg2 ++ (N2 ++ ((rD, kv1.obj) :: (mr0 ++ (N ++ F))))) full hdm hrd (fun x hx => List.mem_append_right _ (List.mem_append_right _ (.tail _ (List.mem_append_right _ (List.mem_append_right _ (hin2 x hx)))))) hre1 hok1 hdok1 (by omega))) rfl ?_
      rintro v3 _ ⟨r3, hr3, hans⟩
      cases r3 with
      | none =>
        obtain ⟨⟨x3, T3, u3, rfl⟩, X3, rfl⟩ := hans
        refine g_q (qv_move rfl) rfl ?_
        refine g_q (qv_extract rfl rfl) rfl ?_
        refine g_q (qv_iface Try.runUnderlying63 (fun _ h => by cases h) rfl) rfl ?_
        refine g_q (qv_extract rfl rfl) rfl ?_
        refine g_to (M' := (rD, kv1.obj) :: F) (fun f => by simp only [List.map_cons, List.sum_cons, List.map_append, List.sum_append]; omega) ?_
        refine g_i0 (iv_put (i := 0) (m := kv1) rfl rfl rfl Try.runUnderlying63 Try.runUnderlying9 rfl) ?_
        rintro _ _ rfl
        refine g_q (qv_assign rfl) rfl ?_
        refine g_nil ?_
        refine e_seq ?_
        refine c_seq ?_
        refine c_region ?_   -- region 16
        refine g_q (qv_move rfl) rfl ?_
        refine g_q (qv_nen Try.runUnderlying68 rfl (Or.inr ⟨_, _, rfl⟩)) rfl ?_
        refine g_nil ?_
        refine e_seq ?_
        refine c_true rfl ?_
        refine c_seq ?_
        refine c_region ?_   -- region 17
        refine g_q (qv_move rfl) rfl ?_
        refine g_q (qv_move rfl) rfl ?_
        refine g_q (qv_assign rfl) rfl ?_
        refine g_q (qv_assign rfl) rfl ?_
        refine g_nil ?_
        refine e_seq ?_
        refine c_ret ?_
        refine e_ret_block (e_ret_then (e_ret_then (e_ret_block (e_ret_then (?_)))))
        refine e_ret2 (.inl rfl) Try.results59 rfl rfl ⟨none, hcont _ ?_, ⟨_, _, _, rfl⟩, [(rD, (kv1.put d.name (.iface 63 x3)).obj)], rfl⟩
        rw [hdrop]
        exact Or.inl ⟨de', re1, none, hget, hok1, hgr, hr3, Or.inl ⟨rfl, rfl⟩⟩
      | some re3 =>
        obtain ⟨rfl, hok3, n3, N3, md3, hre3, rfl⟩ := hans
        refine g_q (qv_move rfl) rfl ?_
        refine g_q (qv_extract rfl rfl) rfl ?_
        refine g_q (qv_iface Try.runUnderlying63 (fun _ h => by cases h) rfl) rfl ?_
        refine g_q (qv_extract rfl rfl) rfl ?_
        refine g_to (M' := (rD, kv1.obj) :: (md3 ++ (mg2 ++ (mr0 ++ ((N3 ++ (N2 ++ N)) ++ F))))) (fun f => by simp only [List.map_cons, List.sum_cons, List.map_append, List.sum_append]; omega) ?_
        refine g_i0 (iv_put (i := 0) (m := kv1) rfl rfl rfl Try.runUnderlying63 Try.runUnderlying9 rfl) ?_
        rintro _ _ rfl
        refine g_q (qv_assign rfl) rfl ?_
        refine g_nil ?_
        refine e_seq ?_
        refine c_seq ?_
        refine c_region ?_   -- region 16
        refine g_q (qv_move rfl) rfl ?_
        refine g_q (qv_nen Try.runUnderlying68 rfl (Or.inl rfl)) rfl ?_
        refine g_nil ?_
        refine e_seq ?_
        refine c_false rfl ?_
        refine c_skip ?_
        refine e_normal_block ?_
        refine e_seq ?_
        refine c_region ?_   -- region 18
        refine g_q (qv_add (c := ((j + 1 : Nat) : Int)) rfl rfl (by rw [wrap_i64 (by omega) (by omega)]; omega)) rfl ?_
        refine g_q (qv_move rfl) rfl ?_
        refine g_nil ?_
        have hS2 : N3 ++ (N2 ++ (N ++ S)) = (N3 ++ (N2 ++ N)) ++ S := by simp
        rw [hS2] at hre3
        obtain ⟨dts2, m2', hk2, hl2, hn2, hf2⟩ := hglob ((N3 ++ (N2 ++ N)) ++ S) (nj + n2 + n3) (fun x hx => by rw [← hS2]; exact List.mem_append_right _ (List.mem_append_right _ hx)) (by omega) mg2 (by
          rcases hsg2 with ⟨h1, _, h3⟩ | ⟨tg, vg, h1, h2, _, h4⟩
          · exact Or.inl ⟨h1, h3⟩
          · exact Or.inr ⟨tg, vg, h1, by rw [hGl]; exact h2, (RepX.grow (fun x hx => by rw [← hS2]; exact List.mem_append_right _ hx) h4).le (by omega)⟩)
        obtain ⟨dts3, m3', hk3, hl3, hn3, hf3⟩ := dep_fill hng hk2 kv1.nodup hv1 (hre3.le (n' := nj + n2 + n3) (by omega))
        have hkv : (kv1.put d.name (.iface 63 (.map (some rN)))).list = kv1.list := by rw [KV.list_put]; exact putL_same kv1.nodup hv1
        have hnm3 : ∀ p, p ∈ dts3 → Nm p.1 := fun p hp => (hn3 p hp).elim (fun e => by rw [e]; exact hnk) (fun ⟨q, hq, e⟩ => by
          obtain ⟨q2, hq2, e2⟩ := hn2 q hq
          rw [← e, ← e2]
          exact hnm1 q2 hq2)
        have hlk3 : ∀ k, dts3.lookup k = if k = d.name then some (.tab re3) else Dj.lookup k := fun k => by
          rw [hl3, hl2, hl1]
          by_cases e : k = d.name
          · rw [if_pos e, if_pos e]
          · rw [if_neg e, if_neg e, if_neg e]
        have hnd3 : (dts3.map (·.1)).Nodup := by rw [hk3.keys]; exact kv1.nodup
        have hok4 := sortK_ok hnd3 hnm3
        have hls := sortK_lookup hnd3
        refine e_to (M' := (rD, (kv1.put d.name (.iface 63 (.map (some rN)))).obj) :: (m3' ++ ((N3 ++ (N2 ++ N)) ++ F))) (fun f => by have h1 := hf2 f; have h2 := hf3 f; simp only [List.set_cons_zero, List.map_cons, List.sum_cons, List.map_append, List.sum_append] at h1 h2 ⊢; omega) ?_
        exact e_again (j + 1) (by omega) (L' := [(0, .func (.func 44) #[] #[]), (1, ptr b), (2, .map (some rD)), (3, str pre), (4, .bool mg), (22, .slice (some ⟨g, 0, none⟩) c.deps.length cp), (23, .int .i64 (c.deps.length : Int)), (24, .int .i64 ((j + 1 : Nat) : Int))]) ⟨rfl, rfl, rfl, rfl, rfl, rfl, rfl, rfl, trivial⟩ ⟨sortK dts3, kv1.put d.name (.iface 63 (.map (some rN))), dts3, m3', N3 ++ (N2 ++ N), nj + n2 + n3, rfl, hlt, hok4, fun k => (hls k).symm, hnm3, by rw [hkv]; exact hk3, fun d' hd' t ht => hhg d' (by rw [hdrop]; exact List.mem_cons_of_mem _ hd') t (by rw [hls, hlk3, if_neg (hapart j d d' hd hd')] at ht; exact ht), fun t ht => hhG t (by rw [hls, hlk3, if_neg (fun e => hng e.symm)] at ht; exact ht), fun r hr => hcont r (by rw [hdrop]; exact Or.inl ⟨de', re1, some _, hget, hok1, hgr, hr3, Or.inr ⟨_, sortK dts3, rfl, hok4, fun k => by rw [hls, hlk3], hr⟩⟩), rfl⟩
  · refine c_exit ?_
    refine e_exit_then ?_
    refine e_exit_then ?_
    refine e_exit_block ?_
    refine e_seq ?_
    obtain rfl : j = c.deps.length := by
      have := of_decide_eq_false hc
      omega
    refine c_seq ?_
    refine c_region ?_   -- region 19
    refine g_q (qv_move rfl) rfl ?_
    refine g_q (qv_assign rfl) rfl ?_
    refine g_q (qv_assign rfl) rfl ?_
    refine g_nil ?_
    refine e_seq ?_
    refine c_ret ?_
    have hnd : (dts.map (·.1)).Nodup := by rw [hkd.keys]; exact kvD.nodup
    obtain ⟨hg5, hokr, hlr⟩ := RepX.mk (r := rD) (md := .V) (n := nj) hkd hnm
    obtain rfl : sortK dts = Dj := lookup_ext hokr hokj fun k => by rw [hlr, hdl]
    refine e_ret2 (.inl rfl) Try.results59 rfl rfl ⟨some (sortK dts), hcont _ ?_, rfl, hokj, nj + 1, N, (rD, kvD.obj) :: mdk, hg5, rfl⟩
    rw [List.drop_length]
    exact rfl

end Go.Proofs.Ytnnclcfklbeocaa

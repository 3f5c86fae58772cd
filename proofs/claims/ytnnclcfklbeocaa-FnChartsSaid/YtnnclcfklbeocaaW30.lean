/-
  The walks, part 30: spec.Charted lays a chart's values below a table, and goes on with those that it needs, as 'ChartR' says.
  Conditions: the chart lies as RepP says and is as CWf says, the table as RepS.
-/
import Derived.Test.YtnnclcfklbeocaaR10
namespace Go.Proofs.Ytnnclcfklbeocaa
open Go.RowKit

variable {W0 : World}

set_option maxHeartbeats 16000000 in
theorem charted_step (nh : Nat) (sub : Ch → List (Key × T) → Option (List (Key × T)) → Prop) (mg : Bool) (c : Ch) (a : Array Value) (mp : Heap) (n : Nat) (de : List (Key × T)) (bv : Nat) (md F : Heap) (hc : RepP nh c a mp) (hmp : ∀ x, x ∈ mp → x ∈ F) (hcl : c.deps.length ≤ 1000) (hnames : ∀ d, d ∈ c.deps → Nm d.name ∧ d.name ≠ kGlobal) (hd : RepS n (.tab de) (ptr bv) md)
    (hsub : ∀ (d : Ch) (a' : Array Value) (m' : Heap) (n' : Nat) (de' : List (Key × T)) (b' : Nat) (md' F' : Heap), d ∈ c.deps → (∃ n2, nh = n2 + 1 ∧ RepP n2 d a' m') → (∀ x, x ∈ m' → x ∈ F') → RepS n' (.tab de') (ptr b') md' →
      Tri Try.prog W0 22 [.agg a', ptr b', .bool mg] (md' ++ F') fun v M' => ∃ r, sub d de' r ∧ AnsS b' F' v M' r) :
    Tri Try.prog W0 22 [.agg a, ptr bv, .bool mg] (md ++ F) fun v M' => ∃ r, (∃ d1, KeysOk d1 ∧ VV mg (c.deps.map Ch.name) de c.vals d1 ∧ DepsR sub c.deps d1 r) ∧ AnsS bv F v M' r := by
  obtain ⟨dsl, cs, mr, mdd, mk, ⟨pc, rfl, hval⟩, hrow, hck, rfl⟩ := hc.open
  obtain ⟨p, cp, rfl⟩ := hrow.shape
  obtain ⟨bc, rc, kvc, cts, mkc, rfl, hokc, hpc, hkc, rfl⟩ := hval.tab
  have hbc : (bc, tcell rc) ∈ F := hmp _ m0
  have hrc : (rc, kvc.obj) ∈ F := hmp _ m1
  have hmkc : ∀ x, x ∈ mkc → x ∈ F := fun x hx => hmp x (.tail _ (.tail _ (List.mem_append_left _ hx)))
  have hmdd : ∀ x, x ∈ mdd → x ∈ F := fun x hx => hmp x (List.mem_append_right _ (List.mem_append_left _ hx))
  have hmk : ∀ x, x ∈ mk → x ∈ F := fun x hx => hmp x (List.mem_append_right _ (List.mem_append_right _ hx))
  clear hmp
  obtain ⟨bv', rv, kvv, vts, mvk, e, hokd, hpd, hkd0, rfl⟩ := hd.tab
  cases e
  obtain ⟨N, hN, hN2⟩ : ∃ N, n ≤ N ∧ 2 ≤ N := ⟨max n 2, Nat.le_max_left _ _, Nat.le_max_right _ _⟩
  have hkd : KidsK (fun _ => RepS N) vts (KV.list kvv) mvk := hkd0.mono (fun _ _ _ _ h => h.le hN)
  clear hkd0 hd
  refine Tri.to (M' := (bv, tcell rv) :: (rv, kvv.obj) :: (mvk ++ F)) ?_ (by rw [List.cons_append, List.cons_append]; exact Fits.refl _)
  refine tri_of 142 Try.func22 rfl Try.ntmps22 (Nat.le_of_ble_eq_true rfl) ?_
  refine c_seq ?_
  refine c_region ?_
  refine g_i (iv_boxA rfl) rfl ?_
  rintro _ _ ⟨b3, rfl, rfl⟩
  refine g_q (qv_assign rfl) rfl ?_
  refine g_nil ?_
  refine e_seq ?_
  refine c_seq ?_
  refine c_seq ?_
  refine c_region ?_
  refine g_q (qv_field rfl Try.runUnderlying54 rfl Try.sizeOf24 rfl) rfl ?_
  refine g_q (qv_load (v := ptr bc) rfl Try.isAgg24 m0 rfl) rfl ?_
  refine g_q (qv_nil rfl) rfl ?_
  refine g_q (qv_field rfl Try.runUnderlying40 rfl Try.sizeOf38 rfl) rfl ?_
  refine g_q (qv_load (v := .map (some rc)) rfl Try.isAgg38 (.tail _ (.tail _ (.tail _ (List.mem_append_right _ hbc)))) rfl) rfl ?_
  refine g_i (iv_range (m := kvc) rfl Try.runUnderlying38 (.tail _ (.tail _ (.tail _ (List.mem_append_right _ hrc))))) rfl ?_
  rintro _ _ ⟨it, rfl, rfl⟩
  refine g_nil ?_
  refine e_seq ?_
  refine c_block ?_
  refine c_keep (L' := [(1, ptr bv), (2, .bool mg), (3, ptr b3), (23, ptr it)]) ⟨rfl, rfl, rfl, rfl, trivial⟩ ?_
  refine c_to (M' := (it, iterObj rc kvc #[]) :: (bv, tcell rv) :: (rv, kvv.obj) :: (mvk ++ ((b3, .cells #[str c.name, ptr bc, .slice p c.deps.length cp] 54 (0, 0)) :: F))) (fun f => by simp only [List.map_cons, List.sum_cons, List.map_append, List.sum_append]; omega) ?_
  refine c_loop (ι := Array Nat) (fun seen L M' => ∃ kvv vts mvk, L = [(1, ptr bv), (2, .bool mg), (3, ptr b3), (23, ptr it)] ∧ KidsK (fun _ => RepS N) vts (KV.list kvv) mvk ∧ (∀ p, p ∈ vts → Nm p.1) ∧ VDone mg (c.deps.map Ch.name) (fun k => de.lookup k) (fun k => c.vals.lookup k) ((kvc.left seen).map (·.1)) vts ∧ M' = (it, iterObj rc kvc seen) :: (bv, tcell rv) :: (rv, kvv.obj) :: (mvk ++ ((b3, .cells #[str c.name, ptr bc, .slice p c.deps.length cp] 54 (0, 0)) :: F))) (fun seen => (kvc.left seen).length) #[] ⟨kvv, vts, mvk, rfl, hkd, fun p hp => hokd.2 p (hpd.mem_iff.1 hp), VDone.start (fun k => lookup_perm hpd (perm_keys_nodup hokd hpd) k) (fun k hk => ?_), rfl⟩ ?_
  · rw [KV.left_start] at hk
    rw [← lookup_perm hpc (perm_keys_nodup hokc hpc) k]
    refine lookup_none fun h => hk ?_
    rw [← hkc.keys]
    exact h
  clear hkd hpd hokd vts kvv mvk
  rintro seen _ _ ⟨kvv, vts, mvk, rfl, hkd, hnm, hdone, rfl⟩
  refine c_seq ?_
  refine c_region ?_
  refine g_i (iv_next (i := 0) rfl rfl (.tail _ (.tail _ (.tail _ (List.mem_append_right _ (.tail _ hrc)))))) rfl ?_
  rintro _ _ (⟨hl0, rfl, rfl⟩ | ⟨key, u, seen2, rfl, rfl, hperm2, hcur⟩)
  · refine g_q (qv_extract rfl rfl) rfl ?_
    refine g_nil ?_
    refine e_seq ?_
    refine c_seq ?_
    refine c_false rfl ?_
    refine c_exit ?_
    refine e_exit_then ?_
    refine e_exit_then ?_
    refine e_exit_block ?_
    refine e_seq ?_
    rw [hl0] at hdone
    have hndv : (vts.map (·.1)).Nodup := by rw [hkd.keys]; exact kvv.nodup
    have hokv := sortK_ok hndv hnm
    have hlv := sortK_lookup hndv
    have hvv : VV mg (c.deps.map Ch.name) de c.vals (sortK vts) := fun k => by rw [hlv]; exact hdone.done k
    clear hdone hl0
    refine c_seq ?_
    refine c_seq ?_
    refine c_region ?_
    refine g_q (qv_field rfl Try.runUnderlying54 rfl Try.sizeOf52 rfl) rfl ?_
    refine g_q (qv_load (v := .slice p c.deps.length cp) rfl Try.isAgg52 (.tail _ (.tail _ (.tail _ (List.mem_append_right _ m0)))) rfl) rfl ?_
    refine g_q (qv_len_slice rfl Try.runUnderlying52) rfl ?_
    refine g_q (qv_move rfl) rfl ?_
    refine g_nil ?_
    refine e_seq ?_
    refine c_block ?_
    refine c_keep (L' := [(1, ptr bv), (2, .bool mg), (102, .slice p c.deps.length cp), (103, .int .i64 (c.deps.length : Int)), (104, .int .i64 (((0 : Nat)) : Int))]) ⟨rfl, rfl, rfl, rfl, rfl, trivial⟩ ?_
    refine c_to (M' := (bv, tcell rv) :: (rv, kvv.obj) :: (mvk ++ F)) (fun f => by simp only [List.map_cons, List.sum_cons, List.map_append, List.sum_append]; omega) ?_
    refine c_loop (ι := Nat) (fun j L M' => ∃ Dj kvv dts mvk nj, L = [(1, ptr bv), (2, .bool mg), (102, .slice p c.deps.length cp), (103, .int .i64 (c.deps.length : Int)), (104, .int .i64 (j : Int))] ∧ j ≤ c.deps.length ∧ KeysOk Dj ∧ (∀ k, dts.lookup k = Dj.lookup k) ∧ (∀ p, p ∈ dts → Nm p.1) ∧ KidsK (fun _ => RepS nj) dts (KV.list kvv) mvk ∧ (∀ r, DepsR sub (c.deps.drop j) Dj r → DepsR sub c.deps (sortK vts) r) ∧ M' = (bv, tcell rv) :: (rv, kvv.obj) :: (mvk ++ F)) (fun j => c.deps.length - j) 0 ⟨sortK vts, kvv, vts, mvk, N, rfl, Nat.zero_le _, hokv, fun k => (hlv k).symm, hnm, hkd, fun r h => h, rfl⟩ ?_
    clear hkd hnm
    clear kvv mvk
    rintro j _ _ ⟨Dj, kvv, dts, mvk, nd, rfl, hj, hokj, hdl, hnm, hkd, hcont, rfl⟩
    refine c_seq ?_
    refine c_region ?_
    refine g_q (qv_lss rfl rfl) rfl ?_
    refine g_nil ?_
    refine e_seq ?_
    refine c_seq ?_
    refine c_cond rfl (fun hc => ?_) (fun hc => ?_)
    · have hlt : j < c.deps.length := by
        have := of_decide_eq_true hc
        omega
      obtain ⟨d, hdj⟩ : ∃ d, c.deps[j]? = some d := ⟨c.deps[j], List.getElem?_eq_getElem hlt⟩
      have hdm : d ∈ c.deps := List.mem_of_getElem? hdj
      obtain ⟨aj, mj, haj, ⟨n', hn', hrj⟩, hat, hin⟩ := hck.at hdj
      obtain ⟨bj, pj, nj, cj, rfl⟩ := RepP.cells hrj
      obtain ⟨g, cap, cells, he, hmg2, hcell⟩ := hrow.block (by omega)
      have hg := hmdd (g, .cells cells 54 (0, 0)) (by rw [hmg2]; exact m0)
      have hdrop : c.deps.drop j = d :: c.deps.drop (j + 1) := by
        rw [List.drop_eq_getElem_cons hlt]
        rw [List.getElem?_eq_getElem hlt] at hdj
        rw [Option.some.inj hdj]
      obtain ⟨hnk, hng⟩ := hnames d hdm
      obtain ⟨mv, mr, hfm, hcase, hopen⟩ := sdep_open d.name hkd kvv.nodup
      refine c_skip ?_
      refine e_seq ?_
      refine c_seq ?_
      refine c_block ?_
      refine c_seq ?_
      refine c_region ?_
      refine g_q (qv_index (congrArg some he) rfl Try.runUnderlying52 Try.sizeOf54 (by omega) (by omega)) rfl ?_
      refine g_q (qv_loadA (vs := #[str d.name, ptr bj, .slice pj nj cj].toList) rfl Try.isAgg54 Try.sizeOf54 (.tail _ (.tail _ (List.mem_append_right _ hg))) (fun i u h => by rw [Nat.zero_add]; exact hcell _ _ (hat i u h))) rfl ?_
      refine g_i (iv_allocA (z := #[str [], .pointer none, nilS]) Try.zeroValue54) rfl ?_
      rintro _ _ ⟨b13, rfl, rfl⟩
      refine g_i0 (iv_storeA (i := 0) (b := b13) (vs := #[str d.name, ptr bj, .slice pj nj cj]) rfl rfl all_pCells Try.sizeOf54 rfl rfl) ?_
      rintro _ _ rfl
      refine g_nil ?_
      refine e_seq ?_
      refine c_cut (fun L' M' => ∃ x y, L' = [(1, ptr bv), (2, .bool mg), (15, ptr b13), (16, x), (17, .bool y), (102, .slice p c.deps.length cp), (103, .int .i64 (c.deps.length : Int)), (104, .int .i64 (j : Int))] ∧ ((y = false ∧ x = .pointer none ∧ dts.lookup d.name = none ∧ mv = []) ∨ ∃ bx t, y = true ∧ x = ptr bx ∧ kvv.list.lookup d.name = some (ptr bx) ∧ dts.lookup d.name = some t ∧ RepS nd t (ptr bx) mv) ∧ M' = (b13, .cells #[str d.name, ptr bj, .slice pj nj cj] 54 (0, 0)) :: (bv, tcell rv) :: (rv, kvv.obj) :: (mvk ++ F)) ?_ ?_
      · rcases hcase with ⟨htn, hvn, rfl⟩ | ⟨t, bx, hts, hvs, hrx⟩
        · refine c_drawM (fun _ => true) Try.mixed ?_
          refine d_takeW 0 rfl (by kernel_rfl) (by kernel_rfl) (by kernel_rfl) rfl (fun _ => qv_move rfl) ?_
          refine d_takeW 1 rfl (by kernel_rfl) (by kernel_rfl) (by kernel_rfl) rfl (fun _ => qv_nil rfl) ?_
          refine d_takeW 2 rfl (by kernel_rfl) (by kernel_rfl) (by kernel_rfl) rfl (fun _ => qv_field rfl Try.runUnderlying40 rfl Try.sizeOf38 rfl) ?_
          refine d_take 3 rfl (by kernel_rfl) (by kernel_rfl) (by kernel_rfl) (by kernel_rfl) rfl (qv_load (v := .map (some rv)) rfl Try.isAgg38 m1 rfl) (fun _ h => h) ?_
          refine d_takeW 4 rfl (by kernel_rfl) (by kernel_rfl) (by kernel_rfl) rfl (fun _ => qv_field rfl Try.runUnderlying54 rfl Try.sizeOf9 rfl) ?_
          refine d_take 5 rfl (by kernel_rfl) (by kernel_rfl) (by kernel_rfl) (by kernel_rfl) rfl (qv_load (v := str d.name) rfl Try.isAgg9 m0 rfl) (fun _ h => h) ?_
          refine d_take 6 rfl (by kernel_rfl) (by kernel_rfl) (by kernel_rfl) (by kernel_rfl) rfl (QV.to (v' := .tuple #[.pointer none, .bool false]) (qv_lookup2 (m := kvv) (k := d.name) rfl rfl Try.runUnderlying38 Try.runUnderlying9 Try.zeroValue24 m2) (by rw [hvn]; rfl)) (fun _ h => h) ?_
          refine d_takeW 7 rfl (by kernel_rfl) (by kernel_rfl) (by kernel_rfl) rfl (fun _ => qv_move rfl) ?_
          refine d_takeW 8 rfl (by kernel_rfl) (by kernel_rfl) (by kernel_rfl) rfl (fun _ => qv_extract rfl rfl) ?_
          refine d_takeW 9 rfl (by kernel_rfl) (by kernel_rfl) (by kernel_rfl) rfl (fun _ => qv_extract rfl rfl) ?_
          refine d_takeW 10 rfl (by kernel_rfl) (by kernel_rfl) (by kernel_rfl) rfl (fun _ => qv_assign rfl) ?_
          refine d_takeW 11 rfl (by kernel_rfl) (by kernel_rfl) (by kernel_rfl) rfl (fun _ => qv_assign rfl) ?_
          refine d_done (by kernel_rfl) ?_
          exact e_mid (L' := [(1, ptr bv), (2, .bool mg), (15, ptr b13), (16, .pointer none), (17, .bool false), (102, .slice p c.deps.length cp), (103, .int .i64 (c.deps.length : Int)), (104, .int .i64 (j : Int))]) ⟨rfl, rfl, rfl, rfl, rfl, rfl, rfl, rfl, trivial⟩ ⟨_, _, rfl, Or.inl ⟨rfl, rfl, htn, rfl⟩, rfl⟩
        · refine c_drawM (fun _ => true) Try.mixed ?_
          refine d_takeW 0 rfl (by kernel_rfl) (by kernel_rfl) (by kernel_rfl) rfl (fun _ => qv_move rfl) ?_
          refine d_takeW 1 rfl (by kernel_rfl) (by kernel_rfl) (by kernel_rfl) rfl (fun _ => qv_nil rfl) ?_
          refine d_takeW 2 rfl (by kernel_rfl) (by kernel_rfl) (by kernel_rfl) rfl (fun _ => qv_field rfl Try.runUnderlying40 rfl Try.sizeOf38 rfl) ?_
          refine d_take 3 rfl (by kernel_rfl) (by kernel_rfl) (by kernel_rfl) (by kernel_rfl) rfl (qv_load (v := .map (some rv)) rfl Try.isAgg38 m1 rfl) (fun _ h => h) ?_
          refine d_takeW 4 rfl (by kernel_rfl) (by kernel_rfl) (by kernel_rfl) rfl (fun _ => qv_field rfl Try.runUnderlying54 rfl Try.sizeOf9 rfl) ?_
          refine d_take 5 rfl (by kernel_rfl) (by kernel_rfl) (by kernel_rfl) (by kernel_rfl) rfl (qv_load (v := str d.name) rfl Try.isAgg9 m0 rfl) (fun _ h => h) ?_
          refine d_take 6 rfl (by kernel_rfl) (by kernel_rfl) (by kernel_rfl) (by kernel_rfl) rfl (QV.to (v' := .tuple #[ptr bx, .bool true]) (qv_lookup2 (m := kvv) (k := d.name) rfl rfl Try.runUnderlying38 Try.runUnderlying9 Try.zeroValue24 m2) (by rw [hvs]; rfl)) (fun _ h => h) ?_
          refine d_takeW 7 rfl (by kernel_rfl) (by kernel_rfl) (by kernel_rfl) rfl (fun _ => qv_move rfl) ?_
          refine d_takeW 8 rfl (by kernel_rfl) (by kernel_rfl) (by kernel_rfl) rfl (fun _ => qv_extract rfl rfl) ?_
          refine d_takeW 9 rfl (by kernel_rfl) (by kernel_rfl) (by kernel_rfl) rfl (fun _ => qv_extract rfl rfl) ?_
          refine d_takeW 10 rfl (by kernel_rfl) (by kernel_rfl) (by kernel_rfl) rfl (fun _ => qv_assign rfl) ?_
          refine d_takeW 11 rfl (by kernel_rfl) (by kernel_rfl) (by kernel_rfl) rfl (fun _ => qv_assign rfl) ?_
          refine d_done (by kernel_rfl) ?_
          exact e_mid (L' := [(1, ptr bv), (2, .bool mg), (15, ptr b13), (16, ptr bx), (17, .bool true), (102, .slice p c.deps.length cp), (103, .int .i64 (c.deps.length : Int)), (104, .int .i64 (j : Int))]) ⟨rfl, rfl, rfl, rfl, rfl, rfl, rfl, rfl, trivial⟩ ⟨_, _, rfl, Or.inr ⟨bx, t, rfl, rfl, hvs, hts, hrx⟩, rfl⟩
      · rintro _ _ ⟨x, y, rfl, hxy, rfl⟩
        refine c_cut (fun L' M' => ∃ bx tx mx kv1 ts1 m1, L' = [(1, ptr bv), (2, .bool mg), (15, ptr b13), (16, ptr bx), (102, .slice p c.deps.length cp), (103, .int .i64 (c.deps.length : Int)), (104, .int .i64 (j : Int))] ∧ (Dj.lookup d.name).getD (.tab []) = tx ∧ RepS nd tx (ptr bx) mx ∧ KidsK (Rq nd d.name (ptr bx)) ts1 (KV.list kv1) m1 ∧ kv1.list.lookup d.name = some (ptr bx) ∧ (∀ k, ts1.lookup k = if k = d.name then some tx else Dj.lookup k) ∧ (∀ p, p ∈ ts1 → Nm p.1) ∧ M' = (b13, .cells #[str d.name, ptr bj, .slice pj nj cj] 54 (0, 0)) :: (bv, tcell rv) :: (rv, kv1.obj) :: (mx ++ (m1 ++ F))) ?_ ?_
        · rcases hxy with ⟨rfl, rfl, htn, rfl⟩ | ⟨bx, t, rfl, rfl, hvs, hts, hrx⟩
          · refine c_seq ?_
            refine c_region ?_
            refine g_q (qv_move rfl) rfl ?_
            refine g_q (qv_not rfl) rfl ?_
            refine g_nil ?_
            refine e_seq ?_
            refine c_true rfl ?_
            refine c_seq ?_
            refine c_region ?_
            refine g_i (iv_call (vs := []) Try.call16 trivial (new_any nd _)) rfl ?_
            rintro _ _ ⟨mx, rfl, hrx⟩
            refine g_q (qv_assign rfl) rfl ?_
            refine g_nil ?_
            refine e_seq ?_
            obtain ⟨bx, _, _, _, _, _, _, rfl, _⟩ := hrx.kind
            refine c_drawM (fun i => !(i == 7)) Try.mixed ?_
            refine d_takeW 0 rfl (by kernel_rfl) (by kernel_rfl) (by kernel_rfl) rfl (fun _ => qv_move rfl) ?_
            refine d_takeW 1 rfl (by kernel_rfl) (by kernel_rfl) (by kernel_rfl) rfl (fun _ => qv_nil rfl) ?_
            refine d_takeW 2 rfl (by kernel_rfl) (by kernel_rfl) (by kernel_rfl) rfl (fun _ => qv_field rfl Try.runUnderlying40 rfl Try.sizeOf38 rfl) ?_
            refine d_take 3 rfl (by kernel_rfl) (by kernel_rfl) (by kernel_rfl) (by kernel_rfl) rfl (qv_load (v := .map (some rv)) rfl Try.isAgg38 (List.mem_append_left _ m1) rfl) (fun _ h => h) ?_
            refine d_takeW 4 rfl (by kernel_rfl) (by kernel_rfl) (by kernel_rfl) rfl (fun _ => qv_field rfl Try.runUnderlying54 rfl Try.sizeOf9 rfl) ?_
            refine d_take 5 rfl (by kernel_rfl) (by kernel_rfl) (by kernel_rfl) (by kernel_rfl) rfl (qv_load (v := str d.name) rfl Try.isAgg9 (List.mem_append_left _ m0) rfl) (fun _ h => h) ?_
            refine d_takeW 6 rfl (by kernel_rfl) (by kernel_rfl) (by kernel_rfl) rfl (fun _ => qv_move rfl) ?_
            refine d_run0 7 rfl (by kernel_rfl) (iv_put (i := 2) (m := kvv) (k := d.name) rfl rfl rfl Try.runUnderlying38 Try.runUnderlying9 rfl) (fun _ _ _ h => by cases h) ?_
            rintro _ _ rfl
            refine d_done (by kernel_rfl) ?_
            obtain ⟨ts1, m1', hk1, hl1, hn1, hf1⟩ := hopen (.tab []) (ptr bx)
            refine e_to (M' := (b13, .cells #[str d.name, ptr bj, .slice pj nj cj] 54 (0, 0)) :: (bv, tcell rv) :: (rv, (kvv.put d.name (ptr bx)).obj) :: (mx ++ (m1' ++ F))) (fun f => by have e0 := hf1 f; have e1 := hfm f; simp only [List.set_cons_succ, List.set_cons_zero, List.nil_append, List.map_cons, List.sum_cons, List.map_append, List.sum_append, List.cons_append] at e0 e1 ⊢; omega) ?_
            exact e_mid (L' := [(1, ptr bv), (2, .bool mg), (15, ptr b13), (16, ptr bx), (102, .slice p c.deps.length cp), (103, .int .i64 (c.deps.length : Int)), (104, .int .i64 (j : Int))]) ⟨rfl, rfl, rfl, rfl, rfl, rfl, rfl, trivial⟩ ⟨bx, .tab [], mx, kvv.put d.name (ptr bx), ts1, m1', rfl, by rw [← hdl, htn]; rfl, hrx, by rw [KV.list_put]; exact hk1, by rw [KV.list_put, lookup_putL, if_pos rfl], fun k => by rw [hl1, hdl], (fun p hp => (hn1 p hp).elim (fun e => by rw [e]; exact hnk) (fun ⟨q, hq, e⟩ => by rw [← e]; exact hnm q hq)), rfl⟩
          · refine c_seq ?_
            refine c_region ?_
            refine g_q (qv_move rfl) rfl ?_
            refine g_q (qv_not rfl) rfl ?_
            refine g_nil ?_
            refine e_seq ?_
            refine c_false rfl ?_
            refine c_skip ?_
            obtain ⟨ts1, m1', hk1, hl1, hn1, hf1⟩ := hopen t (ptr bx)
            rw [putL_same kvv.nodup hvs] at hk1
            refine e_to (M' := (b13, .cells #[str d.name, ptr bj, .slice pj nj cj] 54 (0, 0)) :: (bv, tcell rv) :: (rv, kvv.obj) :: (mv ++ (m1' ++ F))) (fun f => by have e0 := hf1 f; have e1 := hfm f; simp only [List.map_cons, List.sum_cons, List.map_append, List.sum_append] at e0 e1 ⊢; omega) ?_
            exact e_mid (L' := [(1, ptr bv), (2, .bool mg), (15, ptr b13), (16, ptr bx), (102, .slice p c.deps.length cp), (103, .int .i64 (c.deps.length : Int)), (104, .int .i64 (j : Int))]) ⟨rfl, rfl, rfl, rfl, rfl, rfl, rfl, trivial⟩ ⟨bx, t, mv, kvv, ts1, m1', rfl, by rw [← hdl, hts]; rfl, hrx, hk1, hvs, fun k => by rw [hl1, hdl], (fun p hp => (hn1 p hp).elim (fun e => by rw [e]; exact hnk) (fun ⟨q, hq, e⟩ => by rw [← e]; exact hnm q hq)), rfl⟩
        · rintro _ _ ⟨bx, tx, mx, kv1, ts1, m1, rfl, hget, hrx, hk1, hv1, hl1, hnm1, rfl⟩
          by_cases htx : ∃ dx, tx = .tab dx
          · obtain ⟨dx, rfl⟩ := htx
            obtain ⟨bx2, rx, kvx, xts, mxk, e, hokx, hpx, hkx, hmx⟩ := hrx.tab
            cases e
            refine c_seq ?_
            refine c_seq ?_
            refine c_region ?_
            refine g_q (qv_move rfl) rfl ?_
            refine g_q (qv_nil rfl) rfl ?_
            refine g_q (qv_field rfl Try.runUnderlying40 rfl Try.sizeOf3 rfl) rfl ?_
            refine g_q (qv_load (v := .int .i64 6) rfl Try.isAgg3 (.tail _ (.tail _ (.tail _ (List.mem_append_left _ (by rw [hmx]; exact m0))))) rfl) rfl ?_
            refine g_q (QV.to (v' := .bool false) (qv_nei rfl rfl) rfl) rfl ?_
            refine g_nil ?_
            refine e_seq ?_
            refine c_false rfl ?_
            refine c_skip ?_
            refine e_seq ?_
            refine c_seq ?_
            refine c_region ?_
            refine g_q (qv_move rfl) rfl ?_
            refine g_q (qv_move rfl) rfl ?_
            refine g_to (M' := mx ++ ((b13, .cells #[str d.name, ptr bj, .slice pj nj cj] 54 (0, 0)) :: (bv, tcell rv) :: (rv, kv1.obj) :: (m1 ++ F))) (fun f => by simp only [List.map_cons, List.sum_cons, List.map_append, List.sum_append]; omega) ?_
            refine g_i (iv_call (vs := [ptr bx, ptr bv]) Try.call33 ⟨rfl, rfl, trivial⟩ (sglobals_any nd dx Dj bx bv rv kv1 mx _ hrx (.tail _ m0) m2 (sdep_glob hng hk1 (by rw [hl1, if_neg (fun e => hng e.symm)]) (fun x hx => .tail _ (.tail _ (.tail _ (List.mem_append_left _ hx))))))) rfl ?_
            rintro _ _ ⟨n4, re1, md1, hre1, hok1, hgr, rfl⟩
            refine g_nil ?_
            refine e_seq ?_
            refine c_seq ?_
            refine c_region ?_
            refine g_q (qv_loadA (vs := #[str d.name, ptr bj, .slice pj nj cj].toList) rfl Try.isAgg54 Try.sizeOf54 (List.mem_append_right _ m0) (fun _ _ h => by simpa using h)) rfl ?_
            refine g_q (qv_move rfl) rfl ?_
            refine g_q (qv_move rfl) rfl ?_
            refine g_i (iv_call (vs := [.agg #[str d.name, ptr bj, .slice pj nj cj], ptr bx, .bool mg]) Try.call22 ⟨rfl, rfl, rfl, trivial⟩ (hsub d _ mj n4 re1 bx md1 _ hdm ⟨n', hn', hrj⟩ (fun x hx => .tail _ (.tail _ (.tail _ (List.mem_append_right _ (hmk x (hin x hx)))))) hre1)) rfl ?_
            rintro v3 _ ⟨r3, hr3, hans⟩
            have hv3 : v3 = .bool r3.isSome := by
              cases r3 with
              | none => exact hans.1
              | some re => exact hans.1
            subst hv3
            refine g_q (qv_not rfl) rfl ?_
            refine g_nil ?_
            refine e_seq ?_
            refine c_cond rfl (fun hc2 => ?_) (fun hc2 => ?_)
            · obtain rfl : r3 = none := by
                cases r3 with
                | none => rfl
                | some re => cases hc2
              obtain ⟨_, X, rfl⟩ := hans
              refine c_seq ?_
              refine c_region ?_
              refine g_q (qv_assign rfl) rfl ?_
              refine g_nil ?_
              refine e_seq ?_
              refine c_ret ?_
              refine e_ret_block (e_ret_then (e_ret_then (e_ret_block (e_ret_then (?_)))))
              refine e_ret1 (.inl rfl) Try.results22 rfl ⟨none, ⟨sortK vts, hokv, hvv, hcont _ ?_⟩, rfl, X ++ ((b13, .cells #[str d.name, ptr bj, .slice pj nj cj] 54 (0, 0)) :: (bv, tcell rv) :: (rv, kv1.obj) :: m1), by simp⟩
              rw [hdrop]
              exact Or.inl ⟨dx, re1, none, hget, hok1, hgr, hr3, Or.inl ⟨rfl, rfl⟩⟩
            · obtain ⟨re3, rfl⟩ : ∃ re, r3 = some re := by
                cases r3 with
                | none => cases hc2
                | some re => exact ⟨re, rfl⟩
              obtain ⟨_, hok3, n5, md3, hre3, rfl⟩ := hans
              refine c_skip ?_
              refine e_normal_block ?_
              refine e_seq ?_
              refine c_region ?_
              refine g_q (qv_add (c := ((j + 1 : Nat) : Int)) rfl rfl (by rw [wrap_i64 (by omega) (by omega)]; omega)) rfl ?_
              refine g_q (qv_move rfl) rfl ?_
              refine g_nil ?_
              obtain ⟨dts3, m3', hk3, hl3, hn3, hf3⟩ := sdep_fill hk1 kv1.nodup hv1 (Nat.le_max_left nd n5) (hre3.le (Nat.le_max_right nd n5))
              have hnm3 : ∀ p, p ∈ dts3 → Nm p.1 := fun p hp => (hn3 p hp).elim (fun e => by rw [e]; exact hnk) (fun ⟨q, hq, e⟩ => by rw [← e]; exact hnm1 q hq)
              have hlk3 : ∀ k, dts3.lookup k = if k = d.name then some (.tab re3) else Dj.lookup k := fun k => by
                rw [hl3, hl1]
                by_cases e : k = d.name
                · rw [if_pos e, if_pos e]
                · rw [if_neg e, if_neg e, if_neg e]
              have hnd3 : (dts3.map (·.1)).Nodup := by rw [hk3.keys]; exact kv1.nodup
              have hok4 := sortK_ok hnd3 hnm3
              have hls := sortK_lookup hnd3
              refine e_to (M' := (bv, tcell rv) :: (rv, kv1.obj) :: (m3' ++ F)) (fun f => by have e0 := hf3 f; simp only [List.map_cons, List.sum_cons, List.map_append, List.sum_append] at e0 ⊢; omega) ?_
              exact e_again (j + 1) (by omega) (L' := [(1, ptr bv), (2, .bool mg), (102, .slice p c.deps.length cp), (103, .int .i64 (c.deps.length : Int)), (104, .int .i64 (((j + 1 : Nat)) : Int))]) ⟨rfl, rfl, rfl, rfl, rfl, trivial⟩ ⟨sortK dts3, kv1, dts3, m3', max nd n5, rfl, hlt, hok4, fun k => (hls k).symm, hnm3, hk3, fun r hr => hcont r (by rw [hdrop]; exact Or.inl ⟨dx, re1, some _, hget, hok1, hgr, hr3, Or.inr ⟨_, sortK dts3, rfl, hok4, fun k => by rw [hls, hlk3], hr⟩⟩), rfl⟩
          · have hntx : ∀ es, tx ≠ .tab es := fun es e => htx ⟨es, e⟩
            obtain ⟨bx2, ox, mmx, e, rfl, hox⟩ := hrx.notab
            cases e
            refine c_seq ?_
            refine c_seq ?_
            refine c_region ?_
            refine g_q (qv_move rfl) rfl ?_
            refine g_q (qv_nil rfl) rfl ?_
            refine g_q (qv_field rfl Try.runUnderlying40 rfl Try.sizeOf3 rfl) rfl ?_
            refine g_q (qv_load (v := .int .i64 (kindT tx)) rfl Try.isAgg3 (.tail _ (.tail _ (.tail _ (List.mem_append_left _ m0)))) hox) rfl ?_
            refine g_q (QV.to (v' := .bool true) (qv_nei rfl rfl) (by rw [decide_eq_false (kind_ne hntx)]; rfl)) rfl ?_
            refine g_nil ?_
            refine e_seq ?_
            refine c_true rfl ?_
            refine c_seq ?_
            refine c_region ?_
            refine g_q (qv_assign rfl) rfl ?_
            refine g_nil ?_
            refine e_seq ?_
            refine c_ret ?_
            refine e_ret_then (e_ret_block (e_ret_then (e_ret_then (e_ret_block (e_ret_then (?_))))))
            refine e_ret1 (.inl rfl) Try.results22 rfl ⟨none, ⟨sortK vts, hokv, hvv, hcont _ ?_⟩, rfl, (b13, .cells #[str d.name, ptr bj, .slice pj nj cj] 54 (0, 0)) :: (bv, tcell rv) :: (rv, kv1.obj) :: ((bx, Obj.cells ox 40 (0, 0)) :: mmx ++ m1), by simp⟩
            rw [hdrop]
            exact Or.inr ⟨fun es e => hntx es (hget.symm.trans e), rfl⟩
    · refine c_exit ?_
      refine e_exit_then ?_
      refine e_exit_then ?_
      refine e_exit_block ?_
      refine e_seq ?_
      obtain rfl : j = c.deps.length := by
        have := of_decide_eq_false hc
        omega
      refine c_seq ?_
      refine c_region ?_
      refine g_q (qv_assign rfl) rfl ?_
      refine g_nil ?_
      refine e_seq ?_
      refine c_ret ?_
      obtain ⟨hg5, hokr, hlr⟩ := RepS.mkK (b := bv) (r := rv) hkd hnm
      obtain rfl : sortK dts = Dj := lookup_ext hokr hokj fun k => by rw [hlr, hdl]
      refine e_ret1 (.inl rfl) Try.results22 rfl ⟨some (sortK dts), ⟨sortK vts, hokv, hvv, hcont _ ?_⟩, rfl, hokr, nd + 1, (bv, tcell rv) :: (rv, kvv.obj) :: mvk, hg5, rfl⟩
      rw [List.drop_length]
      exact rfl
  · have hmu : (kvc.left seen2).length < (kvc.left seen).length := by
      rw [hperm2.length_eq]
      exact Nat.lt_succ_self _
    have hpl := hperm2.map (·.1)
    have hndl := left_nodup kvc seen
    rcases hkc.lookup key with ⟨_, h2⟩ | ⟨tu, u2, mu, hst, h2, hru, hmu1⟩
    · rw [KV.lookup_cur hcur] at h2; cases h2
    have e := KV.lookup_cur hcur
    rw [h2] at e
    cases e
    have hs0 : c.vals.lookup key = some tu := by rw [← lookup_perm hpc (perm_keys_nodup hokc hpc) key]; exact hst
    have hnk : Nm key := hokc.2 _ (mem_of_lookup hs0)
    obtain ⟨bu, ou, mmu, rfl, rfl, hou⟩ := hru.notab
    have hmu2 : ∀ x, x ∈ (bu, Obj.cells ou 40 (0, 0)) :: mmu → x ∈ F := fun x hx => hmkc x (hmu1 x hx)
    have hd0 : vts.lookup key = de.lookup key := hdone.here (hpl.mem_iff.2 List.mem_cons_self)
    obtain ⟨mv2, mr2, hfm, hcase2, hback2⟩ := spec_hole key hkd kvv.nodup
    refine g_q (qv_extract rfl rfl) rfl ?_
    refine g_nil ?_
    refine e_seq ?_
    refine c_seq ?_
    refine c_true rfl ?_
    refine c_skip ?_
    refine e_seq ?_
    refine c_block ?_
    refine c_seq ?_
    refine c_region ?_
    refine g_q (qv_entry (k := key) (v := ptr bu) rfl m0 (.tail _ (.tail _ (.tail _ (List.mem_append_right _ (.tail _ hrc))))) hcur) rfl ?_
    refine g_q (qv_extract rfl rfl) rfl ?_
    refine g_q (qv_extract rfl rfl) rfl ?_
    refine g_q (qv_assign rfl) rfl ?_
    refine g_q (qv_assign rfl) rfl ?_
    refine g_nil ?_
    refine e_seq ?_
    rcases hcase2 with ⟨htn, hvn, rfl, rfl⟩ | ⟨t, bw, hts, hvs, hrw⟩
    · refine c_seq ?_
      refine c_region ?_
      refine g_q (qv_move rfl) rfl ?_
      refine g_q (qv_nil rfl) rfl ?_
      refine g_q (qv_field rfl Try.runUnderlying40 rfl Try.sizeOf38 rfl) rfl ?_
      refine g_q (qv_load (v := .map (some rv)) rfl Try.isAgg38 m1 rfl) rfl ?_
      refine g_q (qv_move rfl) rfl ?_
      refine g_q (QV.to (v' := .tuple #[.pointer none, .bool false]) (qv_lookup2 (m := kvv) (k := key) rfl rfl Try.runUnderlying38 Try.runUnderlying9 Try.zeroValue24 m2) (by rw [hvn]; rfl)) rfl ?_
      refine g_q (qv_move rfl) rfl ?_
      refine g_q (qv_extract rfl rfl) rfl ?_
      refine g_q (qv_extract rfl rfl) rfl ?_
      refine g_q (qv_assign rfl) rfl ?_
      refine g_q (qv_assign rfl) rfl ?_
      refine g_nil ?_
      refine e_seq ?_
      refine c_block ?_
      refine c_seq ?_
      refine c_region ?_
      refine g_q (qv_move rfl) rfl ?_
      refine g_q (qv_not rfl) rfl ?_
      refine g_q (qv_assign rfl) rfl ?_
      refine g_nil ?_
      refine e_seq ?_
      refine c_true rfl ?_
      refine c_draw [(bv, tcell rv)] (fun i => !(i == 7)) Try.mixed ?_
      refine d_takeW 0 rfl (by kernel_rfl) (by kernel_rfl) (by kernel_rfl) rfl (fun _ => qv_move rfl) ?_
      refine d_takeW 1 rfl (by kernel_rfl) (by kernel_rfl) (by kernel_rfl) rfl (fun _ => qv_nil rfl) ?_
      refine d_takeW 2 rfl (by kernel_rfl) (by kernel_rfl) (by kernel_rfl) rfl (fun _ => qv_field rfl Try.runUnderlying40 rfl Try.sizeOf38 rfl) ?_
      refine d_take 3 rfl (by kernel_rfl) (by kernel_rfl) (by kernel_rfl) (by kernel_rfl) rfl (qv_load (v := .map (some rv)) rfl Try.isAgg38 m0 rfl) (fun x hx => by rw [List.mem_singleton.1 hx]; exact m1) ?_
      refine d_takeW 4 rfl (by kernel_rfl) (by kernel_rfl) (by kernel_rfl) rfl (fun _ => qv_move rfl) ?_
      refine d_takeW 5 rfl (by kernel_rfl) (by kernel_rfl) (by kernel_rfl) rfl (fun _ => qv_move rfl) ?_
      refine d_run 6 rfl (by kernel_rfl) rfl (iv_call (vs := [ptr bu]) Try.call21 ⟨rfl, trivial⟩ (copy_any 2 tu (ptr bu) _ _ hru (fun x hx => (.tail _ (.tail _ (.tail _ (List.mem_append_right _ (.tail _ (hmu2 x hx))))))))) (by rintro _ _ ⟨m', _, rfl⟩ _ x hx; rw [List.mem_singleton.1 hx]; exact m1) ?_
      rintro d1 _ ⟨m1', hd1, rfl⟩
      refine d_run0 7 rfl (by kernel_rfl) (iv_put (i := 2) (m := kvv) rfl rfl rfl Try.runUnderlying38 Try.runUnderlying9 rfl) (fun _ _ _ h => by cases h) ?_
      rintro _ _ rfl
      refine d_done (by kernel_rfl) ?_
      refine e_normal_block ?_
      refine e_normal_block ?_
      obtain ⟨gts2, m2', hk2, hl2, hn2, hf2⟩ := hback2 N (Nat.le_refl N) _ _ _ (hd1.le hN2)
      refine e_to (M' := (it, iterObj rc kvc seen2) :: (bv, tcell rv) :: (rv, (kvv.put key d1).obj) :: (m2' ++ ((b3, .cells #[str c.name, ptr bc, .slice p c.deps.length cp] 54 (0, 0)) :: F))) (fun f => by have e0 := hf2 f; have e1 := hfm f; simp only [List.set_cons_succ, List.set_cons_zero, List.nil_append, List.map_cons, List.sum_cons, List.map_append, List.sum_append, List.cons_append] at e0 e1 ⊢; omega) ?_
      exact e_again seen2 hmu (L' := [(1, ptr bv), (2, .bool mg), (3, ptr b3), (23, ptr it)]) ⟨rfl, rfl, rfl, rfl, trivial⟩ ⟨kvv.put key d1, gts2, m2', rfl, (by rw [KV.list_put]; exact hk2), (fun p hp => (hn2 p hp).elim (fun e => by rw [e]; exact hnk) (fun ⟨q, hq, e⟩ => by rw [← e]; exact hnm q hq)), (hdone.step hpl hndl hl2 (by rw [← hd0, htn, hs0]; exact VVal.base tu)), rfl⟩
    · obtain ⟨bw2, ow, mmw, e, rfl, how⟩ := hrw.notab
      cases e
      have hmw : ∀ x, x ∈ (bw, Obj.cells ow 40 (0, 0)) :: mmw → x ∈ mvk := fun x hx => hfm.mem (List.mem_append_left _ hx)
      refine c_seq ?_
      refine c_region ?_
      refine g_q (qv_move rfl) rfl ?_
      refine g_q (qv_nil rfl) rfl ?_
      refine g_q (qv_field rfl Try.runUnderlying40 rfl Try.sizeOf38 rfl) rfl ?_
      refine g_q (qv_load (v := .map (some rv)) rfl Try.isAgg38 m1 rfl) rfl ?_
      refine g_q (qv_move rfl) rfl ?_
      refine g_q (QV.to (v' := .tuple #[ptr bw, .bool true]) (qv_lookup2 (m := kvv) (k := key) rfl rfl Try.runUnderlying38 Try.runUnderlying9 Try.zeroValue24 m2) (by rw [hvs]; rfl)) rfl ?_
      refine g_q (qv_move rfl) rfl ?_
      refine g_q (qv_extract rfl rfl) rfl ?_
      refine g_q (qv_extract rfl rfl) rfl ?_
      refine g_q (qv_assign rfl) rfl ?_
      refine g_q (qv_assign rfl) rfl ?_
      refine g_nil ?_
      refine e_seq ?_
      refine c_block ?_
      refine c_seq ?_
      refine c_region ?_
      refine g_q (qv_move rfl) rfl ?_
      refine g_q (qv_not rfl) rfl ?_
      refine g_q (qv_assign rfl) rfl ?_
      refine g_nil ?_
      refine e_seq ?_
      refine c_false rfl ?_
      by_cases h0 : t = .null
      · subst h0
        have hk0 : kindT T.null = 0 := rfl
        rcases Bool.eq_false_or_eq_true mg with hmg | hmg
        · refine c_seq ?_
          refine c_region ?_
          refine g_q (qv_move rfl) rfl ?_
          refine g_q (qv_nil rfl) rfl ?_
          refine g_q (qv_field rfl Try.runUnderlying40 rfl Try.sizeOf3 rfl) rfl ?_
          refine g_q (qv_load (v := .int .i64 (kindT T.null)) rfl Try.isAgg3 (.tail _ (.tail _ (.tail _ (List.mem_append_left _ (hmw _ m0))))) how) rfl ?_
          refine g_q (QV.to (v' := .bool true) (qv_eqi rfl rfl) (by rw [decide_eq_true hk0])) rfl ?_
          refine g_q (qv_move rfl) rfl ?_
          refine g_on rfl rfl ?_
          refine g_q (qv_move rfl) rfl ?_
          refine g_on rfl rfl ?_
          refine g_q (QV.to (v' := .bool false) (qv_not rfl) (by rw [hmg]; rfl)) rfl ?_
          refine g_q (qv_pick_t rfl rfl) rfl ?_
          refine g_q (qv_assign rfl) rfl ?_
          refine g_nil ?_
          refine e_seq ?_
          refine c_false rfl ?_
          have hk6 : kindT T.null ≠ 6 := by decide
          refine c_seq ?_
          refine c_region ?_
          refine g_q (qv_move rfl) rfl ?_
          refine g_q (qv_nil rfl) rfl ?_
          refine g_q (qv_field rfl Try.runUnderlying40 rfl Try.sizeOf3 rfl) rfl ?_
          refine g_q (qv_load (v := .int .i64 (kindT T.null)) rfl Try.isAgg3 (.tail _ (.tail _ (.tail _ (List.mem_append_left _ (hmw _ m0))))) how) rfl ?_
          refine g_q (QV.to (v' := .bool false) (qv_eqi rfl rfl) (by rw [decide_eq_false hk6])) rfl ?_
          refine g_q (qv_move rfl) rfl ?_
          refine g_off rfl rfl rfl rfl ?_
          refine g_off rfl rfl rfl rfl ?_
          refine g_off rfl rfl rfl rfl ?_
          refine g_off rfl rfl rfl rfl ?_
          refine g_off rfl rfl rfl rfl ?_
          refine g_q (qv_pick_f rfl rfl) rfl ?_
          refine g_q (qv_assign rfl) rfl ?_
          refine g_nil ?_
          refine e_seq ?_
          refine c_false rfl ?_
          refine c_skip ?_
          refine e_normal_block ?_
          refine e_normal_block ?_
          refine e_to (M' := (it, iterObj rc kvc seen2) :: (bv, tcell rv) :: (rv, kvv.obj) :: (mvk ++ ((b3, .cells #[str c.name, ptr bc, .slice p c.deps.length cp] 54 (0, 0)) :: F))) (fun f => by simp only [List.set_cons_zero, List.map_cons, List.sum_cons, List.map_append, List.sum_append]; omega) ?_
          exact e_again seen2 hmu (L' := [(1, ptr bv), (2, .bool mg), (3, ptr b3), (23, ptr it)]) ⟨rfl, rfl, rfl, rfl, trivial⟩ ⟨kvv, vts, mvk, rfl, hkd, hnm, (hdone.step hpl hndl (c := some T.null) (fun k' => same_lookup hts k') (by rw [← hd0, hts, hs0]; exact VVal.keep .null tu (fun _ => hmg) (fun _ _ e => by cases e))), rfl⟩
        · refine c_seq ?_
          refine c_region ?_
          refine g_q (qv_move rfl) rfl ?_
          refine g_q (qv_nil rfl) rfl ?_
          refine g_q (qv_field rfl Try.runUnderlying40 rfl Try.sizeOf3 rfl) rfl ?_
          refine g_q (qv_load (v := .int .i64 (kindT T.null)) rfl Try.isAgg3 (.tail _ (.tail _ (.tail _ (List.mem_append_left _ (hmw _ m0))))) how) rfl ?_
          refine g_q (QV.to (v' := .bool true) (qv_eqi rfl rfl) (by rw [decide_eq_true hk0])) rfl ?_
          refine g_q (qv_move rfl) rfl ?_
          refine g_on rfl rfl ?_
          refine g_q (qv_move rfl) rfl ?_
          refine g_on rfl rfl ?_
          refine g_q (QV.to (v' := .bool true) (qv_not rfl) (by rw [hmg]; rfl)) rfl ?_
          refine g_q (qv_pick_t rfl rfl) rfl ?_
          refine g_q (qv_assign rfl) rfl ?_
          refine g_nil ?_
          refine e_seq ?_
          refine c_true rfl ?_
          refine c_region ?_
          refine g_q (qv_move rfl) rfl ?_
          refine g_q (qv_nil rfl) rfl ?_
          refine g_q (qv_field rfl Try.runUnderlying40 rfl Try.sizeOf38 rfl) rfl ?_
          refine g_q (qv_load (v := .map (some rv)) rfl Try.isAgg38 m1 rfl) rfl ?_
          refine g_q (qv_move rfl) rfl ?_
          refine g_i0 (iv_del (i := 2) (m := kvv) rfl rfl Try.runUnderlying38 Try.runUnderlying9 rfl) ?_
          rintro _ _ rfl
          refine g_nil ?_
          refine e_normal_block ?_
          refine e_normal_block ?_
          obtain ⟨m2', hk2, hf2⟩ := hkd.less key
          refine e_to (M' := (it, iterObj rc kvc seen2) :: (bv, tcell rv) :: (rv, (kvv.del key).obj) :: (m2' ++ ((b3, .cells #[str c.name, ptr bc, .slice p c.deps.length cp] 54 (0, 0)) :: F))) (fun f => by have e0 := hf2 f; simp only [List.set_cons_succ, List.set_cons_zero, List.map_cons, List.sum_cons, List.map_append, List.sum_append] at e0 ⊢; omega) ?_
          exact e_again seen2 hmu (L' := [(1, ptr bv), (2, .bool mg), (3, ptr b3), (23, ptr it)]) ⟨rfl, rfl, rfl, rfl, trivial⟩ ⟨kvv.del key, vts.filter fun p => !(p.1 == key), m2', rfl, (by rw [KV.list_del]; exact hk2), (fun p hp => hnm p (List.mem_filter.1 hp).1), (hdone.step hpl hndl (fun k' => lookup_filter key vts k') (by rw [← hd0, hts, hs0, hmg]; exact VVal.del _ rfl)), rfl⟩
      · have hk0 : kindT t ≠ 0 := fun e => h0 (kind_null e)
        refine c_seq ?_
        refine c_region ?_
        refine g_q (qv_move rfl) rfl ?_
        refine g_q (qv_nil rfl) rfl ?_
        refine g_q (qv_field rfl Try.runUnderlying40 rfl Try.sizeOf3 rfl) rfl ?_
        refine g_q (qv_load (v := .int .i64 (kindT t)) rfl Try.isAgg3 (.tail _ (.tail _ (.tail _ (List.mem_append_left _ (hmw _ m0))))) how) rfl ?_
        refine g_q (QV.to (v' := .bool false) (qv_eqi rfl rfl) (by rw [decide_eq_false hk0])) rfl ?_
        refine g_q (qv_move rfl) rfl ?_
        refine g_off rfl rfl rfl rfl ?_
        refine g_off rfl rfl rfl rfl ?_
        refine g_q (qv_pick_f rfl rfl) rfl ?_
        refine g_q (qv_assign rfl) rfl ?_
        refine g_nil ?_
        refine e_seq ?_
        refine c_false rfl ?_
        by_cases htw : ∃ ew, t = .tab ew
        · obtain ⟨ew, rfl⟩ := htw
          have hk6 : kindT (.tab ew) = 6 := rfl
          by_cases htu : ∃ eu, tu = .tab eu
          · obtain ⟨eu, rfl⟩ := htu
            have hku : kindT (.tab eu) = 6 := rfl
            refine c_seq ?_
            refine c_region ?_
            refine g_q (qv_move rfl) rfl ?_
            refine g_q (qv_nil rfl) rfl ?_
            refine g_q (qv_field rfl Try.runUnderlying40 rfl Try.sizeOf3 rfl) rfl ?_
            refine g_q (qv_load (v := .int .i64 (kindT (.tab ew))) rfl Try.isAgg3 (.tail _ (.tail _ (.tail _ (List.mem_append_left _ (hmw _ m0))))) how) rfl ?_
            refine g_q (QV.to (v' := .bool true) (qv_eqi rfl rfl) (by rw [decide_eq_true hk6])) rfl ?_
            refine g_q (qv_move rfl) rfl ?_
            refine g_on rfl rfl ?_
            refine g_q (qv_move rfl) rfl ?_
            refine g_on rfl rfl ?_
            refine g_q (qv_nil rfl) rfl ?_
            refine g_on rfl rfl ?_
            refine g_q (qv_field rfl Try.runUnderlying40 rfl Try.sizeOf3 rfl) rfl ?_
            refine g_on rfl rfl ?_
            refine g_q (qv_load (v := .int .i64 (kindT (.tab eu))) rfl Try.isAgg3 (.tail _ (.tail _ (.tail _ (List.mem_append_right _ (.tail _ (hmu2 _ m0)))))) hou) rfl ?_
            refine g_on rfl rfl ?_
            refine g_q (QV.to (v' := .bool true) (qv_eqi rfl rfl) (by rw [decide_eq_true hku])) rfl ?_
            refine g_q (qv_pick_t rfl rfl) rfl ?_
            refine g_q (qv_assign rfl) rfl ?_
            refine g_nil ?_
            refine e_seq ?_
            refine c_true rfl ?_
            refine c_seq ?_
            refine c_region ?_
            refine g_q (qv_move rfl) rfl ?_
            refine g_q (qv_assign rfl) rfl ?_
            refine g_nil ?_
            refine e_seq ?_
            refine c_seq ?_
            refine c_seq ?_
            refine c_region ?_
            refine g_q (qv_field rfl Try.runUnderlying54 rfl Try.sizeOf52 rfl) rfl ?_
            refine g_q (qv_load (v := .slice p c.deps.length cp) rfl Try.isAgg52 (.tail _ (.tail _ (.tail _ (List.mem_append_right _ m0)))) rfl) rfl ?_
            refine g_q (qv_len_slice rfl Try.runUnderlying52) rfl ?_
            refine g_q (qv_move rfl) rfl ?_
            refine g_nil ?_
            refine e_seq ?_
            refine c_block ?_
            refine c_keep (L' := [(1, ptr bv), (2, .bool mg), (3, ptr b3), (23, ptr it), (7, str key), (8, ptr bu), (9, ptr bw), (11, .bool mg), (78, .slice p c.deps.length cp), (79, .int .i64 (c.deps.length : Int)), (80, .int .i64 (((0 : Nat)) : Int))]) ⟨rfl, rfl, rfl, rfl, rfl, rfl, rfl, rfl, rfl, rfl, rfl, trivial⟩ ?_
            refine c_to (M' := (it, iterObj rc kvc seen2) :: (bv, tcell rv) :: (rv, kvv.obj) :: (mvk ++ ((b3, .cells #[str c.name, ptr bc, .slice p c.deps.length cp] 54 (0, 0)) :: F))) (fun f => by simp only [List.set_cons_zero, List.map_cons, List.sum_cons, List.map_append, List.sum_append]; omega) ?_
            refine c_loop (ι := Nat) (fun j L M' => ∃ β : Bool, L = [(1, ptr bv), (2, .bool mg), (3, ptr b3), (23, ptr it), (7, str key), (8, ptr bu), (9, ptr bw), (11, .bool β), (78, .slice p c.deps.length cp), (79, .int .i64 (c.deps.length : Int)), (80, .int .i64 (j : Int))] ∧ j ≤ c.deps.length ∧ β = (mg || ((c.deps.take j).map Ch.name).contains key) ∧ M' = (it, iterObj rc kvc seen2) :: (bv, tcell rv) :: (rv, kvv.obj) :: (mvk ++ ((b3, .cells #[str c.name, ptr bc, .slice p c.deps.length cp] 54 (0, 0)) :: F))) (fun j => c.deps.length - j) 0 ⟨mg, rfl, Nat.zero_le _, by rw [List.take_zero]; exact (Bool.or_false mg).symm, rfl⟩ ?_
            rintro j _ _ ⟨β, rfl, hj, hbj, rfl⟩
            refine c_seq ?_
            refine c_region ?_
            refine g_q (qv_lss rfl rfl) rfl ?_
            refine g_nil ?_
            refine e_seq ?_
            refine c_seq ?_
            refine c_cond rfl (fun hc => ?_) (fun hc => ?_)
            · have hlt : j < c.deps.length := by
                have := of_decide_eq_true hc
                omega
              obtain ⟨d, hdj⟩ : ∃ d, c.deps[j]? = some d := ⟨c.deps[j], List.getElem?_eq_getElem hlt⟩
              have hdm : d ∈ c.deps := List.mem_of_getElem? hdj
              obtain ⟨aj, mj, haj, ⟨n', hn', hrj⟩, hat, hin⟩ := hck.at hdj
              obtain ⟨bj, pj, nj, cj, rfl⟩ := RepP.cells hrj
              obtain ⟨g, cap, cells, he, hmg2, hcell⟩ := hrow.block (by omega)
              have hg := hmdd (g, .cells cells 54 (0, 0)) (by rw [hmg2]; exact m0)
              refine c_skip ?_
              refine e_seq ?_
              refine c_seq ?_
              refine c_block ?_
              refine c_seq ?_
              refine c_region ?_
              refine g_q (qv_index (congrArg some he) rfl Try.runUnderlying52 Try.sizeOf54 (by omega) (by omega)) rfl ?_
              refine g_q (qv_loadA (vs := #[str d.name, ptr bj, .slice pj nj cj].toList) rfl Try.isAgg54 Try.sizeOf54 (.tail _ (.tail _ (.tail _ (List.mem_append_right _ (.tail _ hg))))) (fun i u h => by rw [Nat.zero_add]; exact hcell _ _ (hat i u h))) rfl ?_
              refine g_i (iv_allocA (z := #[str [], .pointer none, nilS]) Try.zeroValue54) rfl ?_
              rintro _ _ ⟨b13, rfl, rfl⟩
              refine g_i0 (iv_storeA (i := 0) (b := b13) (vs := #[str d.name, ptr bj, .slice pj nj cj]) rfl rfl all_pCells Try.sizeOf54 rfl rfl) ?_
              rintro _ _ rfl
              refine g_nil ?_
              refine e_seq ?_
              rcases Bool.eq_false_or_eq_true β with hβ | hβ
              · subst hβ
                refine c_region ?_
                refine g_q (qv_move rfl) rfl ?_
                refine g_q (qv_move rfl) rfl ?_
                refine g_off rfl rfl rfl rfl ?_
                refine g_off rfl rfl rfl rfl ?_
                refine g_off rfl rfl rfl rfl ?_
                refine g_off rfl rfl rfl rfl ?_
                refine g_q (qv_pick_t rfl rfl) rfl ?_
                refine g_q (qv_assign rfl) rfl ?_
                refine g_nil ?_
                refine e_normal_block ?_
                refine e_seq ?_
                refine c_region ?_
                refine g_q (qv_add (c := ((j + 1 : Nat) : Int)) rfl rfl (by rw [wrap_i64 (by omega) (by omega)]; omega)) rfl ?_
                refine g_q (qv_move rfl) rfl ?_
                refine g_nil ?_
                refine e_to (M' := (it, iterObj rc kvc seen2) :: (bv, tcell rv) :: (rv, kvv.obj) :: (mvk ++ ((b3, .cells #[str c.name, ptr bc, .slice p c.deps.length cp] 54 (0, 0)) :: F))) Fits.tail ?_
                exact e_again (j + 1) (by omega) (L' := [(1, ptr bv), (2, .bool mg), (3, ptr b3), (23, ptr it), (7, str key), (8, ptr bu), (9, ptr bw), (11, .bool true), (78, .slice p c.deps.length cp), (79, .int .i64 (c.deps.length : Int)), (80, .int .i64 (((j + 1 : Nat)) : Int))]) ⟨rfl, rfl, rfl, rfl, rfl, rfl, rfl, rfl, rfl, rfl, rfl, trivial⟩ ⟨true, rfl, hlt, by rw [take_snoc hdj, names_step, ← Bool.or_assoc, ← hbj]; rfl, rfl⟩
              · subst hβ
                refine c_region ?_
                refine g_q (qv_move rfl) rfl ?_
                refine g_q (qv_move rfl) rfl ?_
                refine g_on rfl rfl ?_
                refine g_q (qv_field rfl Try.runUnderlying54 rfl Try.sizeOf9 rfl) rfl ?_
                refine g_on rfl rfl ?_
                refine g_q (qv_load (v := str d.name) rfl Try.isAgg9 m0 rfl) rfl ?_
                refine g_on rfl rfl ?_
                refine g_q (qv_move rfl) rfl ?_
                refine g_on rfl rfl ?_
                refine g_q (qv_eqs rfl rfl) rfl ?_
                refine g_q (qv_pick_f rfl rfl) rfl ?_
                refine g_q (qv_assign rfl) rfl ?_
                refine g_nil ?_
                refine e_normal_block ?_
                refine e_seq ?_
                refine c_region ?_
                refine g_q (qv_add (c := ((j + 1 : Nat) : Int)) rfl rfl (by rw [wrap_i64 (by omega) (by omega)]; omega)) rfl ?_
                refine g_q (qv_move rfl) rfl ?_
                refine g_nil ?_
                refine e_to (M' := (it, iterObj rc kvc seen2) :: (bv, tcell rv) :: (rv, kvv.obj) :: (mvk ++ ((b3, .cells #[str c.name, ptr bc, .slice p c.deps.length cp] 54 (0, 0)) :: F))) Fits.tail ?_
                exact e_again (j + 1) (by omega) (L' := [(1, ptr bv), (2, .bool mg), (3, ptr b3), (23, ptr it), (7, str key), (8, ptr bu), (9, ptr bw), (11, .bool (d.name == key)), (78, .slice p c.deps.length cp), (79, .int .i64 (c.deps.length : Int)), (80, .int .i64 (((j + 1 : Nat)) : Int))]) ⟨rfl, rfl, rfl, rfl, rfl, rfl, rfl, rfl, rfl, rfl, rfl, trivial⟩ ⟨(d.name == key), rfl, hlt, by rw [take_snoc hdj, names_step, ← Bool.or_assoc, ← hbj]; rfl, rfl⟩
            · refine c_exit ?_
              refine e_exit_then ?_
              refine e_exit_then ?_
              refine e_exit_block ?_
              refine e_seq ?_
              obtain rfl : j = c.deps.length := by
                have := of_decide_eq_false hc
                omega
              rw [List.take_length] at hbj
              subst hbj
              refine c_draw [(bv, tcell rv)] (fun i => !(i == 9)) Try.mixed ?_
              refine d_takeW 0 rfl (by kernel_rfl) (by kernel_rfl) (by kernel_rfl) rfl (fun _ => qv_move rfl) ?_
              refine d_takeW 1 rfl (by kernel_rfl) (by kernel_rfl) (by kernel_rfl) rfl (fun _ => qv_nil rfl) ?_
              refine d_takeW 2 rfl (by kernel_rfl) (by kernel_rfl) (by kernel_rfl) rfl (fun _ => qv_field rfl Try.runUnderlying40 rfl Try.sizeOf38 rfl) ?_
              refine d_take 3 rfl (by kernel_rfl) (by kernel_rfl) (by kernel_rfl) (by kernel_rfl) rfl (qv_load (v := .map (some rv)) rfl Try.isAgg38 m0 rfl) (fun x hx => by rw [List.mem_singleton.1 hx]; exact m1) ?_
              refine d_takeW 4 rfl (by kernel_rfl) (by kernel_rfl) (by kernel_rfl) rfl (fun _ => qv_move rfl) ?_
              refine d_takeW 5 rfl (by kernel_rfl) (by kernel_rfl) (by kernel_rfl) rfl (fun _ => qv_move rfl) ?_
              refine d_takeW 6 rfl (by kernel_rfl) (by kernel_rfl) (by kernel_rfl) rfl (fun _ => qv_move rfl) ?_
              refine d_takeW 7 rfl (by kernel_rfl) (by kernel_rfl) (by kernel_rfl) rfl (fun _ => qv_move rfl) ?_
              refine d_run 8 rfl (by kernel_rfl) rfl (iv_call (vs := [ptr bw, ptr bu, .bool (mg || (c.deps.map Ch.name).contains key)]) Try.call18 ⟨rfl, rfl, rfl, trivial⟩ (coalesced_any N ew eu (ptr bw) (ptr bu) _ _ _ _ hrw (hru.le hN2) (fun x hx => .tail _ (.tail _ (.tail _ (List.mem_append_left _ (hmw x hx))))) (fun x hx => (.tail _ (.tail _ (.tail _ (List.mem_append_right _ (.tail _ (hmu2 x hx))))))))) (by rintro _ _ ⟨_, m', _, _, rfl⟩ _ x hx; rw [List.mem_singleton.1 hx]; exact m1) ?_
              rintro d1 _ ⟨re2, m1', hd1, hco2, rfl⟩
              refine d_run0 9 rfl (by kernel_rfl) (iv_put (i := 2) (m := kvv) rfl rfl rfl Try.runUnderlying38 Try.runUnderlying9 rfl) (fun _ _ _ h => by cases h) ?_
              rintro _ _ rfl
              refine d_done (by kernel_rfl) ?_
              refine e_normal_block ?_
              refine e_normal_block ?_
              obtain ⟨gts2, m2', hk2, hl2, hn2, hf2⟩ := hback2 N (Nat.le_refl N) _ _ _ hd1
              refine e_to (M' := (it, iterObj rc kvc seen2) :: (bv, tcell rv) :: (rv, (kvv.put key d1).obj) :: (m2' ++ ((b3, .cells #[str c.name, ptr bc, .slice p c.deps.length cp] 54 (0, 0)) :: F))) (fun f => by have e0 := hf2 f; have e1 := hfm f; simp only [List.set_cons_succ, List.set_cons_zero, List.map_cons, List.sum_cons, List.map_append, List.sum_append, List.cons_append] at e0 e1 ⊢; omega) ?_
              exact e_again seen2 hmu (L' := [(1, ptr bv), (2, .bool mg), (3, ptr b3), (23, ptr it)]) ⟨rfl, rfl, rfl, rfl, trivial⟩ ⟨kvv.put key d1, gts2, m2', rfl, (by rw [KV.list_put]; exact hk2), (fun p hp => (hn2 p hp).elim (fun e => by rw [e]; exact hnk) (fun ⟨q, hq, e⟩ => by rw [← e]; exact hnm q hq)), (hdone.step hpl hndl hl2 (by rw [← hd0, hts, hs0]; exact VVal.both ew eu re2 hd1.ok hco2)), rfl⟩
          · have hntu : ∀ es, tu ≠ .tab es := fun es e => htu ⟨es, e⟩
            have hku : kindT tu ≠ 6 := kind_ne hntu
            refine c_seq ?_
            refine c_region ?_
            refine g_q (qv_move rfl) rfl ?_
            refine g_q (qv_nil rfl) rfl ?_
            refine g_q (qv_field rfl Try.runUnderlying40 rfl Try.sizeOf3 rfl) rfl ?_
            refine g_q (qv_load (v := .int .i64 (kindT (.tab ew))) rfl Try.isAgg3 (.tail _ (.tail _ (.tail _ (List.mem_append_left _ (hmw _ m0))))) how) rfl ?_
            refine g_q (QV.to (v' := .bool true) (qv_eqi rfl rfl) (by rw [decide_eq_true hk6])) rfl ?_
            refine g_q (qv_move rfl) rfl ?_
            refine g_on rfl rfl ?_
            refine g_q (qv_move rfl) rfl ?_
            refine g_on rfl rfl ?_
            refine g_q (qv_nil rfl) rfl ?_
            refine g_on rfl rfl ?_
            refine g_q (qv_field rfl Try.runUnderlying40 rfl Try.sizeOf3 rfl) rfl ?_
            refine g_on rfl rfl ?_
            refine g_q (qv_load (v := .int .i64 (kindT tu)) rfl Try.isAgg3 (.tail _ (.tail _ (.tail _ (List.mem_append_right _ (.tail _ (hmu2 _ m0)))))) hou) rfl ?_
            refine g_on rfl rfl ?_
            refine g_q (QV.to (v' := .bool false) (qv_eqi rfl rfl) (by rw [decide_eq_false hku])) rfl ?_
            refine g_q (qv_pick_t rfl rfl) rfl ?_
            refine g_q (qv_assign rfl) rfl ?_
            refine g_nil ?_
            refine e_seq ?_
            refine c_false rfl ?_
            refine c_skip ?_
            refine e_normal_block ?_
            refine e_normal_block ?_
            refine e_to (M' := (it, iterObj rc kvc seen2) :: (bv, tcell rv) :: (rv, kvv.obj) :: (mvk ++ ((b3, .cells #[str c.name, ptr bc, .slice p c.deps.length cp] 54 (0, 0)) :: F))) (fun f => by simp only [List.set_cons_zero, List.map_cons, List.sum_cons, List.map_append, List.sum_append]; omega) ?_
            exact e_again seen2 hmu (L' := [(1, ptr bv), (2, .bool mg), (3, ptr b3), (23, ptr it)]) ⟨rfl, rfl, rfl, rfl, trivial⟩ ⟨kvv, vts, mvk, rfl, hkd, hnm, (hdone.step hpl hndl (c := some (.tab ew)) (fun k' => same_lookup hts k') (by rw [← hd0, hts, hs0]; exact VVal.keep (.tab ew) tu (fun e => by cases e) (fun _ se _ => hntu se))), rfl⟩
        · have hntw : ∀ es, t ≠ .tab es := fun es e => htw ⟨es, e⟩
          have hk6 : kindT t ≠ 6 := kind_ne hntw
          refine c_seq ?_
          refine c_region ?_
          refine g_q (qv_move rfl) rfl ?_
          refine g_q (qv_nil rfl) rfl ?_
          refine g_q (qv_field rfl Try.runUnderlying40 rfl Try.sizeOf3 rfl) rfl ?_
          refine g_q (qv_load (v := .int .i64 (kindT t)) rfl Try.isAgg3 (.tail _ (.tail _ (.tail _ (List.mem_append_left _ (hmw _ m0))))) how) rfl ?_
          refine g_q (QV.to (v' := .bool false) (qv_eqi rfl rfl) (by rw [decide_eq_false hk6])) rfl ?_
          refine g_q (qv_move rfl) rfl ?_
          refine g_off rfl rfl rfl rfl ?_
          refine g_off rfl rfl rfl rfl ?_
          refine g_off rfl rfl rfl rfl ?_
          refine g_off rfl rfl rfl rfl ?_
          refine g_off rfl rfl rfl rfl ?_
          refine g_q (qv_pick_f rfl rfl) rfl ?_
          refine g_q (qv_assign rfl) rfl ?_
          refine g_nil ?_
          refine e_seq ?_
          refine c_false rfl ?_
          refine c_skip ?_
          refine e_normal_block ?_
          refine e_normal_block ?_
          refine e_to (M' := (it, iterObj rc kvc seen2) :: (bv, tcell rv) :: (rv, kvv.obj) :: (mvk ++ ((b3, .cells #[str c.name, ptr bc, .slice p c.deps.length cp] 54 (0, 0)) :: F))) (fun f => by simp only [List.set_cons_zero, List.map_cons, List.sum_cons, List.map_append, List.sum_append]; omega) ?_
          exact e_again seen2 hmu (L' := [(1, ptr bv), (2, .bool mg), (3, ptr b3), (23, ptr it)]) ⟨rfl, rfl, rfl, rfl, trivial⟩ ⟨kvv, vts, mvk, rfl, hkd, hnm, (hdone.step hpl hndl (c := some t) (fun k' => same_lookup hts k') (by rw [← hd0, hts, hs0]; exact VVal.keep t tu (fun e => absurd e h0) (fun ew _ e => absurd e (hntw ew)))), rfl⟩

def ChartedSpec (W0 : World) (nh : Nat) : Prop := ∀ (mg : Bool) (c : Ch) (a : Array Value) (mp : Heap) (n : Nat) (de : List (Key × T)) (bv : Nat) (md F : Heap), RepP nh c a mp → (∀ x, x ∈ mp → x ∈ F) → CWf nh c → RepS n (.tab de) (ptr bv) md →
  Tri Try.prog W0 22 [.agg a, ptr bv, .bool mg] (md ++ F) fun v M' => ∃ r, ChartR mg nh c de r ∧ AnsS bv F v M' r
theorem charted_any (nh : Nat) : ChartedSpec W0 nh := by
  induction nh with
  | zero =>
    intro mg c a mp n de bv md F hc hmp hwf hd
    obtain ⟨_, _, _, h4⟩ := hwf
    exact charted_step 0 (fun _ _ _ => False) mg c a mp n de bv md F hc hmp (by rw [h4]; exact Nat.zero_le _) (fun d hd => by rw [h4] at hd; cases hd) hd (fun d _ _ _ _ _ _ _ hdm => by rw [h4] at hdm; cases hdm)
  | succ nh ih =>
    intro mg c a mp n de bv md F hc hmp hwf hd
    obtain ⟨_, _, _, _, hcl, h5⟩ := hwf
    refine charted_step (nh + 1) (ChartR mg nh) mg c a mp n de bv md F hc hmp hcl (fun d hd => ⟨(h5 d hd).1, (h5 d hd).2.1⟩) hd (fun d a' m' n' de' b' md' F' hdm hr hm' hd' => ?_)
    obtain ⟨n2, e, hr⟩ := hr
    cases e
    exact ih mg d a' m' n' de' b' md' F' hr hm' (h5 d hdm).2.2 hd'

end Go.Proofs.Ytnnclcfklbeocaa

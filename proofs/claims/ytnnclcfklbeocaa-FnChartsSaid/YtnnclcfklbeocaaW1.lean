/-
  The walks, part 1: laws.tableOf makes some table, of as many levels as it was told, and raises the counter by no more than so much.
  Conditions: the counter stays below 10^9; the numbers came in as an argument.
-/
import Derived.Test.YtnnclcfklbeocaaE9
namespace Go.Proofs.Ytnnclcfklbeocaa
open Go.RowKit

variable {W0 : World}

/-- How often a table of so many levels asks for a number, at most. -/
def bud : Nat → Nat
  | 0 => 5
  | d + 1 => 5 + 4 * bud d

/-- The blocks that the loop of tableOf holds at hand. -/
def toMem (bat b4 b3 bo ro k : Nat) (lv : Value) (kv : KV) (F : Heap) : Heap :=
  (bat, .cells #[.int .i64 (k : Int)] 3 (0, 0)) :: (b4, .cells #[ptr bat] 61 (0, 0)) :: (b3, .cells #[lv] 22 (0, 0)) :: (bo, .cells (sCells 6 false 0 [] nilS (.map (some ro))) 40 (0, 0)) :: (ro, kv.obj) :: F
def toSlots (b4 b3 bo : Nat) (d : Int) (q j : Int) : Slots :=
  [(2, .int .i64 d), (3, ptr b3), (4, ptr b4), (7, .func (.func 37) #[] #[ptr b4, ptr b3]), (8, ptr bo), (15, .int .u32 q), (16, .int .u32 j)]

/-- What tableOf's statements read. -/
def toR (bat b4 b3 bo ro : Nat) (lv : Value) : Heap := [(b4, .cells #[ptr bat] 61 (0, 0)), (b3, .cells #[lv] 22 (0, 0)), (bo, .cells (sCells 6 false 0 [] nilS (.map (some ro))) 40 (0, 0))]
theorem toR_sub {bat b4 b3 bo ro k : Nat} {lv : Value} {kv : KV} {F : Heap} : ∀ x, x ∈ toR bat b4 b3 bo ro lv → x ∈ toMem bat b4 b3 bo ro k lv kv F := by
  intro x hx
  simp only [toR, List.mem_cons, List.not_mem_nil, or_false] at hx
  rcases hx with rfl | rfl | rfl
  · exact m1
  · exact m2
  · exact m3

theorem key_at (q : Int) (h0 : 0 ≤ q) (h1 : q < 6) : ∃ key : Key, Nm key ∧ (#[str [97], str [98], str [99], str [115, 117, 98], str [103, 108, 111, 98, 97, 108], str [100]] : Array Value).toList[0 + q.toNat * 1]? = some (str key) := by
  have : q = 0 ∨ q = 1 ∨ q = 2 ∨ q = 3 ∨ q = 4 ∨ q = 5 := by omega
  rcases this with rfl | rfl | rfl | rfl | rfl | rfl <;> exact ⟨_, (by simp [Nm, names]), rfl⟩

theorem wrap_u32 {n : Int} (h1 : 0 ≤ n) (h2 : n < 4294967296) : IntKind.u32.wrap n = n := by rw [IntKind.wrap_u32]; omega

theorem nil_str : (Value.string ⟨#[]⟩) = str [] := rfl

/-- What one branch of tableOf's switch leaves. -/
def ToMid (bat b4 b3 bo ro k : Nat) (lv : Value) (kv : KV) (F : Heap) (d : Int) (q j : Int) (n bound : Nat) : Slots → Heap → Prop := fun L' M' =>
  L' = toSlots b4 b3 bo d q j ∧ ∃ (k1 : Nat) (key : Key) (t : T) (v : Value) (m1 : Heap), Nm key ∧ RepS n t v m1 ∧ k ≤ k1 ∧ k1 ≤ bound ∧ M' = toMem bat b4 b3 bo ro k1 lv (kv.put key v) (F ++ m1)

def TableOfSpec (W0 : World) (d : Nat) : Prop := ∀ (bat k : Nat) (lv : Value) (xs : List Int) (F : Heap), ArgL W0 lv xs → d ≤ 100 → k + bud d ≤ 999999999 →
    Tri Try.prog W0 25 [lv, ptr bat, .int .i64 (d : Int)] ((bat, .cells #[.int .i64 (k : Int)] 3 (0, 0)) :: F) fun v M' =>
      ∃ t k' m', RepS (d + 1) t v m' ∧ (∃ es, t = .tab es) ∧ k ≤ k' ∧ k' ≤ k + bud d ∧ M' = (bat, .cells #[.int .i64 ((k' : Nat) : Int)] 3 (0, 0)) :: (F ++ m')


set_option maxHeartbeats 2000000 in
theorem tableOf_step (d : Nat) (ih : ∀ d', d = d' + 1 → TableOfSpec W0 d') : TableOfSpec W0 d := by
  intro bat k0 lv xs F hl hd hk0
  have hlv : lv.cells = #[lv] := by
    obtain ⟨p, c, rfl, _⟩ := hl.form
    rfl
  refine tri_of 99 Try.func25 rfl Try.ntmps25 (Nat.le_of_ble_eq_true rfl) ?_
  refine c_seq ?_
  refine c_region ?_   -- region 0
  refine g_i (iv_box1 rfl hlv) rfl ?_   -- t3
  rintro _ _ ⟨b3, rfl, rfl⟩
  refine g_i (iv_box1 rfl rfl) rfl ?_   -- t4
  rintro _ _ ⟨b4, rfl, rfl⟩
  refine g_q (qv_assign rfl) rfl ?_
  refine g_nil ?_
  refine e_seq ?_
  refine c_seq ?_
  refine c_region ?_   -- region 1
  refine g_q (qv_func (vs := [ptr b4, ptr b3]) ⟨rfl, rfl, trivial⟩) rfl ?_
  refine g_q (qv_assign rfl) rfl ?_
  refine g_nil ?_
  refine e_seq ?_
  refine c_seq ?_
  refine c_region ?_   -- region 2
  refine g_i (iv_call (vs := []) Try.call16 trivial (new_any 0 _)) rfl ?_
  rintro v1 _ ⟨m1, rfl, b, ro, kv, kts, mk, rfl, _, hp, hkids, rfl⟩
  obtain rfl : kts = [] := List.perm_nil.1 hp
  refine g_q (qv_assign rfl) rfl ?_
  refine g_nil ?_
  refine e_seq ?_
  refine c_to (M' := nextMem bat b4 b3 k0 lv ++ ((b, .cells (sCells 6 false 0 [] nilS (.map (some ro))) 40 (0, 0)) :: (ro, kv.obj) :: (F ++ mk))) (fun f => by simp [nextMem] <;> omega) ?_
  refine c_seq ?_
  refine c_seq ?_
  refine c_region ?_   -- region 3
  refine g_q (qv_move rfl) rfl ?_
  refine g_i (iv_callc (vs := []) (caps := [ptr b4, ptr b3]) Try.call37 rfl trivial (next_any bat b4 b3 k0 lv xs _ hl (by omega))) rfl ?_
  rintro _ _ ⟨q0, rfl, hq0, hq1, rfl⟩
  refine g_q (qv_rem rfl rfl (by decide) rfl) rfl ?_
  have hr0 := Int.tmod_nonneg (a := q0) (5 : Int) hq0
  have hr1 := Int.tmod_lt_of_pos q0 (b := (5 : Int)) (by decide)
  generalize q0.tmod 5 = q at hr0 hr1
  refine g_q (qv_move rfl) rfl ?_
  refine g_nil ?_
  refine e_seq ?_
  refine c_block ?_
  -- LOOP 1
  refine c_keep (L' := toSlots b4 b3 b d q (0 : Nat)) ⟨rfl, rfl, rfl, rfl, rfl, rfl, rfl, trivial⟩ ?_
  let per := match d with | 0 => 1 | d' + 1 => 1 + bud d'
  have hbud : bud d = 1 + 4 * per := by
    cases d with
    | zero => rfl
    | succ d' => simp only [bud, per]; omega
  refine c_loop (ι := Nat) (fun j L M => L = toSlots b4 b3 b d q j ∧ (j : Int) ≤ q ∧ ∃ (k : Nat) (kv : KV) (ots : List (Key × T)) (mo : Heap), M = toMem bat b4 b3 b ro k lv kv (F ++ mo) ∧ Kids (RepS d) ots kv.list mo ∧ (∀ p ∈ ots, Nm p.1) ∧ k0 + 1 ≤ k ∧ k ≤ k0 + 1 + j * per) (fun j => 5 - j) 0
    ⟨rfl, by omega, k0 + 1, kv, [], mk, rfl, hkids.mono (fun _ _ _ h => h.elim), (fun _ h => by cases h), Nat.le_refl _, by omega⟩ ?_
  clear hkids kv
  rintro j _ _ ⟨rfl, hjq, k, kv, ots, mo, rfl, hkids, hkeys, hk1, hk2⟩
  generalize b = bo
  refine c_seq ?_
  refine c_region ?_   -- region 4
  refine g_q (qv_lss rfl rfl) rfl ?_
  refine g_nil ?_
  refine e_seq ?_
  refine c_seq ?_
  have hj4 : j ≤ 4 := by omega
  have hper : per ≤ bud d := by omega
  have hkB : k + per ≤ k0 + 1 + (j + 1) * per := by rw [Nat.succ_mul]; omega
  refine c_cond rfl (fun hc => ?_) (fun hc => ?_)   -- t17
  · -- true
    have hjlt : (j : Int) < q := of_decide_eq_true hc
    have hB : k0 + 1 + (j + 1) * per ≤ k0 + bud d := by
      have : (j + 1) * per ≤ 4 * per := Nat.mul_le_mul_right _ (by omega)
      omega
    refine c_skip ?_
    refine e_seq ?_
    refine c_cut (ToMid bat b4 b3 bo ro k lv kv (F ++ mo) (d : Int) q j d (k0 + 1 + (j + 1) * per)) ?_ ?_
    · refine c_block ?_
      refine c_seq ?_
      refine c_region ?_   -- region 5
      refine g_q (qv_move rfl) rfl ?_
      refine g_i (iv_callc (vs := []) (caps := [ptr b4, ptr b3]) Try.call37 rfl trivial (next_any bat b4 b3 k lv xs _ hl (by omega))) rfl ?_
      rintro _ _ ⟨u, rfl, hu0, hu1, rfl⟩
      refine g_q (qv_assign rfl) rfl ?_
      refine g_nil ?_
      refine e_seq ?_
      refine c_seq ?_
      refine c_region ?_   -- region 6
      refine g_i (iv_buildSlice (vs := [(0, str [97]), (1, str [98]), (2, str [99]), (3, str [115, 117, 98]), (4, str [103, 108, 111, 98, 97, 108]), (5, str [100])]) (cs := #[str [97], str [98], str [99], str [115, 117, 98], str [103, 108, 111, 98, 97, 108], str [100]]) Try.runUnderlying27 Try.sizeOf9 Try.zeroValue9
        ⟨rfl, rfl, rfl, rfl, rfl, rfl, rfl, rfl, rfl, rfl, rfl, rfl, trivial⟩ rfl (by kernel_rfl) rfl) rfl ?_
      rintro _ _ ⟨bk, rfl, rfl⟩
      refine g_q (qv_move rfl) rfl ?_
      have hr0 := Int.tmod_nonneg (a := u) (6 : Int) hu0
      have hr1 := Int.tmod_lt_of_pos u (b := (6 : Int)) (by decide)
      generalize hq6 : u.tmod 6 = q6 at hr0 hr1
      obtain ⟨key, hkl, hkey⟩ := key_at q6 hr0 hr1
      refine g_q (qv_rem rfl rfl (by decide) hq6) rfl ?_
      refine g_q (qv_index rfl rfl Try.runUnderlying27 Try.sizeOf9 hr0 hr1) rfl ?_
      refine g_q (qv_load rfl Try.isAgg9 m0 hkey) rfl ?_
      refine g_q (qv_assign rfl) rfl ?_
      refine g_to Fits.tail ?_
      refine g_nil ?_
      refine e_seq ?_
      refine c_seq ?_
      refine c_region ?_   -- region 7
      refine g_q (qv_move rfl) rfl ?_
      refine g_q (qv_shr rfl rfl (by decide) rfl) rfl ?_
      refine g_q (qv_rem rfl rfl (by decide) rfl) rfl ?_
      generalize (u.fdiv (2 ^ min (3 : Int).toNat IntKind.u32.bits)).tmod 6 = s
      refine g_nil ?_
      refine e_seq ?_
      have hk1B : k + 1 ≤ k0 + 1 + (j + 1) * per := by
        have : 1 ≤ per := by cases d <;> simp only [per] <;> omega
        omega
      generalize hBe : k0 + 1 + (j + 1) * per = B at hB hk1B hkB
      refine c_keep (L' := (27, .int .u32 s) :: (10, str key) :: (9, .int .u32 u) :: toSlots b4 b3 bo d q j) ⟨rfl, rfl, rfl, rfl, rfl, rfl, rfl, rfl, rfl, rfl, trivial⟩ ?_
      refine c_to (M' := toMem bat b4 b3 bo ro (k + 1) lv kv (F ++ mo)) (Fits.refl _) ?_
      generalize F ++ mo = F
      refine c_block ?_
      refine c_seq ?_
      refine c_region ?_   -- region 9
      refine g_q (qv_eqi rfl rfl) rfl ?_
      refine g_q (qv_assign rfl) rfl ?_
      refine g_nil ?_
      refine e_seq ?_
      refine c_cond rfl (fun hc => ?_) (fun hc => ?_)   -- t39
      · -- null
        refine c_region ?_   -- region 10
        refine g_q (qv_move rfl) rfl ?_
        refine g_q (qv_nil rfl) rfl ?_
        refine g_q (qv_field rfl Try.runUnderlying40 rfl Try.sizeOf38 rfl) rfl ?_
        refine g_q (qv_load (b := bo) rfl Try.isAgg38 m3 rfl) rfl ?_
        refine g_q (qv_move rfl) rfl ?_
        refine g_q (qv_build (vs := [(0, .int .i64 0)]) (cs := sCells 0 false 0 [] nilS nilM) lay40 ⟨rfl, rfl, trivial⟩ rfl) rfl ?_
        refine g_i (iv_boxA rfl) rfl ?_
        rintro _ _ ⟨bn, rfl, rfl⟩
        refine g_i0 (iv_put (i := 5) rfl rfl rfl Try.runUnderlying38 Try.runUnderlying9 rfl) ?_
        rintro _ _ rfl
        refine g_nil ?_
        refine e_normal_block ?_
        refine e_normal_block ?_
        refine e_to (M' := toMem bat b4 b3 bo ro (k + 1) lv (kv.put key (ptr bn)) (F ++ [(bn, .cells (sCells 0 false 0 [] nilS nilM) 40 (0, 0))])) (fun f => by simp [toMem] <;> omega) ?_
        exact e_mid (L' := toSlots b4 b3 bo d q j) ⟨rfl, rfl, rfl, rfl, rfl, rfl, rfl, trivial⟩ ⟨rfl, (k + 1), key, .null, (ptr bn), [(bn, .cells (sCells 0 false 0 [] nilS nilM) 40 (0, 0))], hkl, (by cases d <;> exact ⟨bn, rfl, rfl⟩), (by omega), hk1B, rfl⟩
      · refine c_cut (fun L' M' => ∃ b : Bool, L' = (48, .bool b) :: (27, .int .u32 s) :: (10, str key) :: (9, .int .u32 u) :: toSlots b4 b3 bo d q j ∧ M' = toMem bat b4 b3 bo ro (k + 1) lv kv F) ?_ ?_
        · refine c_seq ?_
          refine c_region ?_   -- region 11
          refine g_q (qv_eqi rfl rfl) rfl ?_
          refine g_q (qv_assign rfl) rfl ?_
          refine g_nil ?_
          refine e_seq ?_
          refine c_cond rfl (fun hc => ?_) (fun hc => ?_)   -- t48
          · refine c_skip (e_mid (L' := (48, .bool _) :: (27, .int .u32 s) :: (10, str key) :: (9, .int .u32 u) :: toSlots b4 b3 bo d q j) ⟨rfl, rfl, rfl, rfl, rfl, rfl, rfl, rfl, rfl, rfl, rfl, trivial⟩ ⟨_, rfl, rfl⟩)
          · refine c_region ?_   -- region 12
            refine g_q (qv_eqi rfl rfl) rfl ?_
            refine g_q (qv_assign rfl) rfl ?_
            refine g_nil (e_mid (L' := (48, .bool _) :: (27, .int .u32 s) :: (10, str key) :: (9, .int .u32 u) :: toSlots b4 b3 bo d q j) ⟨rfl, rfl, rfl, rfl, rfl, rfl, rfl, rfl, rfl, rfl, rfl, trivial⟩ ⟨_, rfl, rfl⟩)
        · rintro _ _ ⟨b48, rfl, rfl⟩
          refine c_cond rfl (fun hc => ?_) (fun hc => ?_)   -- t48
          · -- a table
            refine c_seq ?_
            refine c_seq ?_
            refine c_region ?_   -- region 13
            refine g_q (qv_move rfl) rfl ?_
            refine g_q (qv_gtr rfl rfl) rfl ?_
            refine g_nil ?_
            refine e_seq ?_
            refine c_cond rfl (fun hd0 => ?_) (fun hd0 => ?_)   -- t52
            · obtain ⟨d', rfl⟩ : ∃ d', d = d' + 1 := ⟨d - 1, by have := of_decide_eq_true hd0; omega⟩
              refine c_seq ?_
              refine c_draw (toR bat b4 b3 bo ro lv) (fun _ => true) Try.mixed ?_
              refine d_takeW 0 rfl (by kernel_rfl) (by kernel_rfl) (by kernel_rfl) rfl (fun _ => qv_move rfl) ?_
              refine d_takeW 1 rfl (by kernel_rfl) (by kernel_rfl) (by kernel_rfl) rfl (fun _ => qv_nil rfl) ?_
              refine d_takeW 2 rfl (by kernel_rfl) (by kernel_rfl) (by kernel_rfl) rfl (fun _ => qv_field rfl Try.runUnderlying40 rfl Try.sizeOf38 rfl) ?_
              refine d_take 3 rfl (by kernel_rfl) (by kernel_rfl) (by kernel_rfl) (by kernel_rfl) rfl (qv_load (b := bo) rfl Try.isAgg38 m2 rfl) toR_sub ?_
              refine d_takeW 4 rfl (by kernel_rfl) (by kernel_rfl) (by kernel_rfl) rfl (fun _ => qv_move rfl) ?_
              refine d_take 5 rfl (by kernel_rfl) (by kernel_rfl) (by kernel_rfl) (by kernel_rfl) rfl (qv_load (b := b3) rfl Try.isAgg22 m1 rfl) toR_sub ?_
              refine d_take 6 rfl (by kernel_rfl) (by kernel_rfl) (by kernel_rfl) (by kernel_rfl) rfl (qv_load (b := b4) rfl Try.isAgg61 m0 rfl) toR_sub ?_
              refine d_takeW 7 rfl (by kernel_rfl) (by kernel_rfl) (by kernel_rfl) rfl (fun _ => qv_move rfl) ?_
              refine d_takeW 8 rfl (by kernel_rfl) (by kernel_rfl) (by kernel_rfl) rfl (fun _ => qv_sub (c := (d' : Int)) rfl rfl (by rw [wrap_i64 (by omega) (by omega)]; omega)) ?_
              refine d_run 9 rfl (by kernel_rfl) rfl (iv_call (vs := [lv, ptr bat, .int .i64 (d' : Int)]) Try.call25 ⟨rfl, rfl, rfl, trivial⟩ (ih d' rfl bat (k + 1) lv xs _ hl (by omega) (by simp only [per] at hkB; omega))) (by rintro _ _ ⟨_, _, _, _, _, _, _, rfl⟩ _ x hx; exact toR_sub x hx) ?_
              rintro v1 _ ⟨t1, k', m1, hr1, _, hk5, hk6, rfl⟩
              refine d_run0 10 rfl (by kernel_rfl) (iv_put (i := 4) rfl rfl rfl Try.runUnderlying38 Try.runUnderlying9 rfl) (by rintro _ _ rfl _ x hx; exact toR_sub x hx) ?_
              rintro _ _ rfl
              refine d_done (by kernel_rfl) ?_
              refine e_seq ?_
              refine c_exit ?_
              refine e_exit_then ?_
              refine e_exit_other rfl ?_
              refine e_exit_block ?_
              refine e_to (M' := toMem bat b4 b3 bo ro k' lv (kv.put key v1) (F ++ m1)) (fun f => by simp [toMem] <;> omega) ?_
              exact e_mid (L' := toSlots b4 b3 bo ((d' + 1 : Nat) : Int) q j) ⟨rfl, rfl, rfl, rfl, rfl, rfl, rfl, trivial⟩ ⟨rfl, k', key, t1, v1, m1, hkl, hr1, (by omega), (by simp only [per] at hkB; omega), rfl⟩
            · refine c_skip ?_
              refine e_seq ?_
              refine c_draw (toR bat b4 b3 bo ro lv) (fun _ => true) Try.mixed ?_
              refine d_takeW 0 rfl (by kernel_rfl) (by kernel_rfl) (by kernel_rfl) rfl (fun _ => qv_move rfl) ?_
              refine d_takeW 1 rfl (by kernel_rfl) (by kernel_rfl) (by kernel_rfl) rfl (fun _ => qv_nil rfl) ?_
              refine d_takeW 2 rfl (by kernel_rfl) (by kernel_rfl) (by kernel_rfl) rfl (fun _ => qv_field rfl Try.runUnderlying40 rfl Try.sizeOf38 rfl) ?_
              refine d_take 3 rfl (by kernel_rfl) (by kernel_rfl) (by kernel_rfl) (by kernel_rfl) rfl (qv_load (b := bo) rfl Try.isAgg38 m2 rfl) toR_sub ?_
              refine d_takeW 4 rfl (by kernel_rfl) (by kernel_rfl) (by kernel_rfl) rfl (fun _ => qv_move rfl) ?_
              refine d_run 5 rfl (by kernel_rfl) rfl (iv_call (vs := []) Try.call16 trivial (new_any d _)) (by rintro _ _ ⟨m1, rfl, _⟩ _ x hx; exact List.mem_append_left _ (toR_sub x hx)) ?_
              rintro v1 _ ⟨m1, rfl, hr1⟩
              refine d_run0 6 rfl (by kernel_rfl) (iv_put (i := 4) rfl rfl rfl Try.runUnderlying38 Try.runUnderlying9 rfl) (by rintro _ _ rfl _ x hx; exact toR_sub x hx) ?_
              rintro _ _ rfl
              refine d_done (by kernel_rfl) ?_
              refine e_normal_block ?_
              refine e_normal_block ?_
              refine e_to (M' := toMem bat b4 b3 bo ro (k + 1) lv (kv.put key v1) (F ++ m1)) (fun f => by simp [toMem] <;> omega) ?_
              exact e_mid (L' := toSlots b4 b3 bo d q j) ⟨rfl, rfl, rfl, rfl, rfl, rfl, rfl, trivial⟩ ⟨rfl, (k + 1), key, (.tab []), v1, m1, hkl, hr1, (by omega), hk1B, rfl⟩
          · refine c_seq ?_
            refine c_region ?_   -- region 16
            refine g_q (qv_eqi rfl rfl) rfl ?_
            refine g_q (qv_assign rfl) rfl ?_
            refine g_nil ?_
            refine e_seq ?_
            refine c_cond rfl (fun hc => ?_) (fun hc => ?_)   -- t69
            · refine c_region ?_   -- region 17
              refine g_q (qv_move rfl) rfl ?_
              refine g_q (qv_nil rfl) rfl ?_
              refine g_q (qv_field rfl Try.runUnderlying40 rfl Try.sizeOf38 rfl) rfl ?_
              refine g_q (qv_load (b := bo) rfl Try.isAgg38 m3 rfl) rfl ?_
              refine g_q (qv_move rfl) rfl ?_
              refine g_q (qv_move rfl) rfl ?_
              refine g_q (qv_shr rfl rfl (by decide) rfl) rfl ?_
              refine g_q (qv_conv rfl Try.runUnderlying23 Try.runUnderlying2 rfl) rfl ?_
              generalize IntKind.i64.wrap (u.fdiv (2 ^ min (8 : Int).toNat IntKind.u32.bits)) = nn
              refine g_q (qv_build (vs := [(0, .int .i64 2), (2, .int .i64 nn)]) (cs := sCells 2 false nn [] nilS nilM) lay40 ⟨rfl, rfl, rfl, rfl, trivial⟩ rfl) rfl ?_
              refine g_i (iv_boxA rfl) rfl ?_
              rintro _ _ ⟨bx, rfl, rfl⟩
              refine g_i (iv_buildSlice (vs := [(0, ptr bx)]) (cs := #[ptr bx]) Try.runUnderlying37 Try.sizeOf24 Try.zeroValue24 ⟨rfl, rfl, trivial⟩ rfl (by kernel_rfl) rfl) rfl ?_
              rintro _ _ ⟨bi, rfl, rfl⟩
              refine g_q (qv_build (vs := [(0, .int .i64 5), (5, .slice (some ⟨bi, 0, none⟩) 1 1)]) (cs := sCells 5 false 0 [] (.slice (some ⟨bi, 0, none⟩) 1 1) nilM) lay40 ⟨rfl, rfl, rfl, rfl, trivial⟩ rfl) rfl ?_
              refine g_i (iv_boxA rfl) rfl ?_
              rintro _ _ ⟨bn, rfl, rfl⟩
              refine g_i0 (iv_put (i := 7) rfl rfl rfl Try.runUnderlying38 Try.runUnderlying9 rfl) ?_
              rintro _ _ rfl
              refine g_nil ?_
              refine e_normal_block ?_
              refine e_normal_block ?_
              refine e_to (M' := toMem bat b4 b3 bo ro (k + 1) lv (kv.put key (ptr bn)) (F ++ ((bn, .cells (sCells 5 false 0 [] (.slice (some ⟨bi, 0, none⟩) 1 1) nilM) 40 (0, 0)) :: ([(bi, .cells #[ptr bx] 24 (0, 0))] ++ [(bx, .cells (sCells 2 false nn [] nilS nilM) 40 (0, 0))])))) (fun f => by simp [toMem] <;> omega) ?_
              exact e_mid (L' := toSlots b4 b3 bo d q j) ⟨rfl, rfl, rfl, rfl, rfl, rfl, rfl, trivial⟩ ⟨rfl, (k + 1), key, .one nn, (ptr bn), ((bn, .cells (sCells 5 false 0 [] (.slice (some ⟨bi, 0, none⟩) 1 1) nilM) 40 (0, 0)) :: ([(bi, .cells #[ptr bx] 24 (0, 0))] ++ [(bx, .cells (sCells 2 false nn [] nilS nilM) 40 (0, 0))])), hkl, (by cases d <;> exact ⟨bn, _, _, bx, rfl, ⟨rfl, Or.inr ⟨bi, 1, #[ptr bx], rfl, rfl, Nat.le_refl _, rfl, rfl⟩⟩, rfl⟩), (by omega), hk1B, rfl⟩
            · refine c_seq ?_
              refine c_region ?_   -- region 18
              refine g_q (qv_eqi rfl rfl) rfl ?_
              refine g_q (qv_assign rfl) rfl ?_
              refine g_nil ?_
              refine e_seq ?_
              refine c_cond rfl (fun hc => ?_) (fun hc => ?_)   -- t84
              · refine c_region ?_   -- region 19
                refine g_q (qv_move rfl) rfl ?_
                refine g_q (qv_nil rfl) rfl ?_
                refine g_q (qv_field rfl Try.runUnderlying40 rfl Try.sizeOf38 rfl) rfl ?_
                refine g_q (qv_load (b := bo) rfl Try.isAgg38 m3 rfl) rfl ?_
                refine g_q (qv_move rfl) rfl ?_
                refine g_q (qv_move rfl) rfl ?_
                refine g_q (qv_shr rfl rfl (by decide) rfl) rfl ?_
                refine g_q (qv_and rfl rfl (fun _ => rfl)) rfl ?_
                refine g_q (qv_eqi rfl rfl) rfl ?_
                generalize decide (_ = (1 : Int)) = tb
                refine g_q (qv_build (vs := [(0, .int .i64 1), (1, .bool tb)]) (cs := sCells 1 tb 0 [] nilS nilM) lay40 ⟨rfl, rfl, rfl, rfl, trivial⟩ rfl) rfl ?_
                refine g_i (iv_boxA rfl) rfl ?_
                rintro _ _ ⟨bn, rfl, rfl⟩
                refine g_i0 (iv_put (i := 5) rfl rfl rfl Try.runUnderlying38 Try.runUnderlying9 rfl) ?_
                rintro _ _ rfl
                refine g_nil ?_
                refine e_normal_block ?_
                refine e_normal_block ?_
                refine e_to (M' := toMem bat b4 b3 bo ro (k + 1) lv (kv.put key (ptr bn)) (F ++ [(bn, .cells (sCells 1 tb 0 [] nilS nilM) 40 (0, 0))])) (fun f => by simp [toMem] <;> omega) ?_
                exact e_mid (L' := toSlots b4 b3 bo d q j) ⟨rfl, rfl, rfl, rfl, rfl, rfl, rfl, trivial⟩ ⟨rfl, (k + 1), key, .truth tb, (ptr bn), [(bn, .cells (sCells 1 tb 0 [] nilS nilM) 40 (0, 0))], hkl, (by cases d <;> exact ⟨bn, rfl, rfl⟩), (by omega), hk1B, rfl⟩
              · refine c_draw (toR bat b4 b3 bo ro lv) (fun _ => true) Try.mixed ?_
                refine d_takeW 0 rfl (by kernel_rfl) (by kernel_rfl) (by kernel_rfl) rfl (fun _ => qv_move rfl) ?_
                refine d_takeW 1 rfl (by kernel_rfl) (by kernel_rfl) (by kernel_rfl) rfl (fun _ => qv_nil rfl) ?_
                refine d_takeW 2 rfl (by kernel_rfl) (by kernel_rfl) (by kernel_rfl) rfl (fun _ => qv_field rfl Try.runUnderlying40 rfl Try.sizeOf38 rfl) ?_
                refine d_take 3 rfl (by kernel_rfl) (by kernel_rfl) (by kernel_rfl) (by kernel_rfl) rfl (qv_load (b := bo) rfl Try.isAgg38 m2 rfl) toR_sub ?_
                refine d_takeW 4 rfl (by kernel_rfl) (by kernel_rfl) (by kernel_rfl) rfl (fun _ => qv_move rfl) ?_
                refine d_takeW 5 rfl (by kernel_rfl) (by kernel_rfl) (by kernel_rfl) rfl (fun _ => qv_move rfl) ?_
                refine d_takeW 6 rfl (by kernel_rfl) (by kernel_rfl) (by kernel_rfl) rfl (fun _ => qv_shr rfl rfl (by decide) rfl) ?_
                have hs0 : 0 ≤ u.fdiv (2 ^ min (8 : Int).toNat IntKind.u32.bits) := Int.fdiv_nonneg hu0 (by decide)
                have hr0 := Int.tmod_nonneg (a := u.fdiv (2 ^ min (8 : Int).toNat IntKind.u32.bits)) (5 : Int) hs0
                have hr1 := Int.tmod_lt_of_pos (u.fdiv (2 ^ min (8 : Int).toNat IntKind.u32.bits)) (b := (5 : Int)) (by decide)
                generalize hq5 : (u.fdiv (2 ^ min (8 : Int).toNat IntKind.u32.bits)).tmod 5 = q5 at hr0 hr1
                refine d_takeW 7 rfl (by kernel_rfl) (by kernel_rfl) (by kernel_rfl) rfl (fun _ => qv_rem rfl rfl (by decide) hq5) ?_
                refine d_takeW 8 rfl (by kernel_rfl) (by kernel_rfl) (by kernel_rfl) rfl (fun _ => qv_strTake (l := [116, 101, 120, 116]) rfl rfl Try.runUnderlying9 hr0 (by simp only [List.length_cons, List.length_nil]; omega)) ?_
                generalize ([116, 101, 120, 116] : List UInt8).take q5.toNat = tx
                refine d_takeW 9 rfl (by kernel_rfl) (by kernel_rfl) (by kernel_rfl) rfl (fun _ => qv_build (vs := [(0, .int .i64 4), (4, str tx)]) (cs := sCells 4 false 0 tx nilS nilM) lay40 ⟨rfl, rfl, rfl, rfl, trivial⟩ rfl) ?_
                refine d_run 10 rfl (by kernel_rfl) rfl (iv_boxA rfl) (by rintro _ _ ⟨bn, rfl, rfl⟩ _ x hx; exact List.mem_cons_of_mem _ (toR_sub x hx)) ?_
                rintro _ _ ⟨bn, rfl, rfl⟩
                refine d_run0 11 rfl (by kernel_rfl) (iv_put (i := 5) rfl rfl rfl Try.runUnderlying38 Try.runUnderlying9 rfl) (by rintro _ _ rfl _ x hx; exact List.mem_cons_of_mem _ (toR_sub x hx)) ?_
                rintro _ _ rfl
                refine d_done (by kernel_rfl) ?_
                refine e_normal_block ?_
                refine e_normal_block ?_
                refine e_to (M' := toMem bat b4 b3 bo ro (k + 1) lv (kv.put key (ptr bn)) (F ++ [(bn, .cells (sCells 4 false 0 tx nilS nilM) 40 (0, 0))])) (fun f => by simp [toMem] <;> omega) ?_
                exact e_mid (L' := toSlots b4 b3 bo d q j) ⟨rfl, rfl, rfl, rfl, rfl, rfl, rfl, trivial⟩ ⟨rfl, (k + 1), key, .text tx, (ptr bn), [(bn, .cells (sCells 4 false 0 tx nilS nilM) 40 (0, 0))], hkl, (by cases d <;> exact ⟨bn, rfl, rfl⟩), (by omega), hk1B, rfl⟩
    · rintro _ _ ⟨rfl, k1, key, t, v, m1, hkl, hrep, hk3, hk4, rfl⟩
      obtain ⟨mo', hkids', hfit⟩ := hkids.put (k := key) hrep kv.nodup
      rw [← kv.list_put key v] at hkids'
      refine c_region ?_   -- region 20
      refine g_q (qv_add (c := ((j + 1 : Nat) : Int)) rfl rfl (by rw [wrap_u32 (by omega) (by omega)]; omega)) rfl ?_
      refine g_q (qv_move rfl) rfl ?_
      refine g_to (M' := toMem bat b4 b3 bo ro k1 lv (kv.put key v) (F ++ mo')) (fun f => by
        have := hfit f
        simp [toMem] at this ⊢ <;> omega) ?_
      refine g_nil ?_
      refine e_again (j + 1) (by omega) (L' := toSlots b4 b3 bo d q ((j + 1 : Nat) : Int)) ⟨rfl, rfl, rfl, rfl, rfl, rfl, rfl, trivial⟩ ⟨rfl, by omega, k1, _, _, mo', rfl, hkids', fun p hp => ?_, by omega, hk4⟩
      rcases putT_keys _ _ _ p hp with h | ⟨q, hq, h⟩
      · rw [h]; exact hkl
      · rw [← h]; exact hkeys q hq
  · -- false
    refine c_exit ?_
    refine e_exit_then ?_
    refine e_exit_then ?_
    refine e_exit_block ?_
    refine e_seq ?_
    refine c_seq ?_
    refine c_region ?_   -- region 21
    refine g_q (qv_move rfl) rfl ?_
    refine g_q (qv_assign rfl) rfl ?_
    refine g_nil ?_
    refine e_seq ?_
    refine c_ret ?_
    have hnd : (ots.map (·.1)).Nodup := by rw [hkids.keys]; exact kv.nodup
    have hkb : k ≤ k0 + bud d := by
      have : j * per ≤ 4 * per := Nat.mul_le_mul_right _ hj4
      omega
    refine e_to (M' := (bat, .cells #[.int .i64 ((k : Nat) : Int)] 3 (0, 0)) :: (F ++ ((bo, .cells (sCells 6 false 0 [] nilS (.map (some ro))) 40 (0, 0)) :: (ro, kv.obj) :: mo))) (fun f => by simp [toMem] <;> omega) ?_
    exact e_ret1 (.inl rfl) Try.results25 rfl ⟨.tab (sortK ots), k, _, ⟨bo, ro, kv, ots, mo, rfl, sortK_ok hnd hkeys, (sortK_perm ots).symm, hkids, rfl⟩, ⟨_, rfl⟩, by omega, hkb, rfl⟩

theorem tableOf_any (d : Nat) : TableOfSpec W0 d := by
  induction d with
  | zero => exact tableOf_step 0 (fun d' h => by cases h)
  | succ d ih => exact tableOf_step (d + 1) (fun d' h => by cases h; exact ih)

end Go.Proofs.Ytnnclcfklbeocaa

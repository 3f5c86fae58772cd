/-
  The walks, part 20: the package's deep copy (zzDeep, zzCopy, copyValues): the same tree, all its own.
  Conditions: the value lies in memory as RepA says.
-/
import Derived.Test.YtnnclcfklbeocaaR3
import Derived.Laws.MakeOwn
namespace Go.Proofs.Ytnnclcfklbeocaa
open Go.RowKit

variable {W0 : World}

section
variable {P : Program} {L : Slots} {M : Heap}
theorem iv_makeKVN {T K E : TypeId} {x : Operand} {k : IntKind} {n : Int} (hx : opv L x = some (.int k n)) (hu : ∀ w, (underlying T).run P w = .ok (.map K E) w) : IV P W0 L M (.makeMap T (some x)) (fun u M' => ∃ b, u = .map (some b) ∧ M' = (b, KV.empty.obj) :: M) :=
  iv_new (F := fun b => .map (some b)) fun a w o ha hO ho => by
    simp [execOp, ho, ha _ _ hx, Instr.makeMap, hu, asInt, asIntOf, KV.obj, KV.empty]
theorem iv_makeSlice1 {T E : TypeId} {i : TypeInfo} {z : Value} {x y : Operand} (hx : opv L x = some (.int .i64 1)) (hy : opv L y = some (.int .i64 1)) (ht : P.underlying T = some (.slice E)) (hi : P.info? E = some i) (hz : i.zero = some z) (hs : i.size = 1) (hb : i.bytes ≤ 1000) (hc : z.cells = #[z]) :
    IV P W0 L M (.makeSlice T x y) (fun u M' => ∃ b, u = .slice (some ⟨b, 0, none⟩) 1 1 ∧ M' = (b, .cells #[z] E (0, 0)) :: M) :=
  iv_new (F := fun b => .slice (some ⟨b, 0, none⟩) 1 1) fun a w o ha hO ho => by
    have h := run_makeSlice (P := P) w T E i z ht hi hz .i64 .i64 1 1 (by decide) (by decide) (by rw [hs]; decide) (by omega) (by decide)
    rw [hs, hc] at h
    simp only [execOp, ho, ha _ _ hx, ha _ _ hy]
    rw [Sem.run_bind, h]
    have hmc : madeCells #[z] (Int.toNat 1 * 1) = #[z] := by
      have h1 : (madeCells #[z] (Int.toNat 1 * 1)).size = 1 := size_madeCells _ _
      refine Array.ext h1 fun i hi _ => ?_
      obtain rfl : i = 0 := by omega
      simp [madeCells]
    rw [hmc]
    rfl
end

def DeepSpec (W0 : World) (n : Nat) (t : T) : Prop := ∀ a ma M, RepA n t a ma → (∀ x, x ∈ ma → x ∈ M) → Tri Try.prog W0 72 [a] M fun r M' => ∃ m', RepA n t r m' ∧ M' = M ++ m'

theorem deep_leaf (a : Value) (M : Heap) (hv : a = .nilIface ∨ ∃ T' u, a = .iface T' u ∧ Nat.beq T' 63 = false ∧ Nat.beq T' 89 = false) : Tri Try.prog W0 72 [a] M fun r M' => r = a ∧ M' = M := by
  refine tri_of 61 Try.func72 rfl Try.ntmps72 (Nat.le_of_ble_eq_true rfl) ?_
  refine c_seq ?_
  refine c_region ?_   -- region 0
  refine g_q (qv_assign rfl) rfl ?_
  refine g_nil ?_
  refine e_seq ?_
  refine c_seq ?_
  refine c_seq ?_
  refine c_region ?_   -- region 1
  refine g_q (qv_move rfl) rfl ?_
  refine g_nil ?_
  refine e_seq ?_
  refine c_block ?_
  refine c_seq ?_
  refine c_region ?_   -- region 2
  refine g_q (qv_isntX (hv.imp id fun ⟨T', u, h1, h2, _⟩ => ⟨T', u, h1, h2⟩) rfl Try.runUnderlying63 (fun _ h => by cases h) Try.zeroValue63) rfl ?_
  refine g_q (qv_extract rfl rfl) rfl ?_
  refine g_q (qv_extract rfl rfl) rfl ?_
  refine g_nil ?_
  refine e_seq ?_
  refine c_false rfl ?_   -- t13
  refine c_seq ?_
  refine c_region ?_   -- region 12
  refine g_q (qv_isntX (hv.imp id fun ⟨T', u, h1, _, h2⟩ => ⟨T', u, h1, h2⟩) rfl Try.runUnderlying89 (fun _ h => by cases h) Try.zeroValue89) rfl ?_
  refine g_q (qv_extract rfl rfl) rfl ?_
  refine g_q (qv_extract rfl rfl) rfl ?_
  refine g_nil ?_
  refine e_seq ?_
  refine c_false rfl ?_   -- t36
  refine c_skip ?_
  refine e_normal_block ?_
  refine e_seq ?_
  refine c_seq ?_
  refine c_region ?_   -- region 23
  refine g_q (qv_move rfl) rfl ?_
  refine g_q (qv_assign rfl) rfl ?_
  refine g_nil ?_
  refine e_seq ?_
  refine c_ret ?_
  refine ?_
  exact e_ret1 (.inl rfl) Try.results72 rfl ⟨rfl, rfl⟩
theorem deep_one (n : Nat) (y : Int) : DeepSpec W0 n (.one y) := by
  intro a ma M ha hma
  obtain ⟨s, rfl, hrow⟩ : ∃ s, a = .iface 89 s ∧ Row 20 1 s 1 [.iface 2 (.int .i64 y)] ma := by cases n <;> exact ha
  obtain ⟨g, c, cs, rfl, hg, hcs⟩ := row_at (k := 0) hrow rfl
  have hg' := hma _ hg
  refine tri_of 61 Try.func72 rfl Try.ntmps72 (Nat.le_of_ble_eq_true rfl) ?_
  refine c_seq ?_
  refine c_region ?_   -- region 0
  refine g_q (qv_assign rfl) rfl ?_
  refine g_nil ?_
  refine e_seq ?_
  refine c_seq ?_
  refine c_seq ?_
  refine c_region ?_   -- region 1
  refine g_q (qv_move rfl) rfl ?_
  refine g_nil ?_
  refine e_seq ?_
  refine c_block ?_
  refine c_seq ?_
  refine c_region ?_   -- region 2
  refine g_q (qv_isnt rfl rfl Try.runUnderlying63 (fun _ h => by cases h) Try.zeroValue63) rfl ?_
  refine g_q (qv_extract rfl rfl) rfl ?_
  refine g_q (qv_extract rfl rfl) rfl ?_
  refine g_nil ?_
  refine e_seq ?_
  refine c_false rfl ?_   -- t13
  refine c_seq ?_
  refine c_region ?_   -- region 12
  refine g_q (qv_is rfl Try.runUnderlying89 (fun _ h => by cases h)) rfl ?_
  refine g_q (qv_extract rfl rfl) rfl ?_
  refine g_q (qv_extract rfl rfl) rfl ?_
  refine g_nil ?_
  refine e_seq ?_
  refine c_true rfl ?_   -- t36
  refine c_seq ?_
  refine c_region ?_   -- region 13
  refine g_q (qv_assign rfl) rfl ?_
  refine g_nil ?_
  refine e_seq ?_
  refine c_seq ?_
  refine c_seq ?_
  refine c_region ?_   -- region 14
  refine g_q (qv_move rfl) rfl ?_
  refine g_q (qv_eqsl Try.runUnderlying89 rfl) rfl ?_
  refine g_nil ?_
  refine e_seq ?_
  refine c_false rfl ?_   -- t39
  refine c_skip ?_
  refine e_seq ?_
  refine c_seq ?_
  refine c_region ?_   -- region 16
  refine g_q (qv_move rfl) rfl ?_
  refine g_q (qv_len_slice rfl Try.runUnderlying89) rfl ?_
  refine g_i (iv_makeSlice1 (z := .nilIface) rfl rfl Try.underlying89 info20 rfl rfl (by decide) rfl) rfl ?_
  rintro _ _ ⟨b8, rfl, rfl⟩
  -- ?? makeSlice
  refine g_q (qv_assign rfl) rfl ?_
  refine g_nil ?_
  refine e_seq ?_
  refine c_seq ?_
  refine c_seq ?_
  refine c_region ?_   -- region 17
  refine g_q (qv_move rfl) rfl ?_
  refine g_q (qv_len_slice rfl Try.runUnderlying89) rfl ?_
  refine g_q (qv_move rfl) rfl ?_
  refine g_nil ?_
  refine e_seq ?_
  refine c_block ?_
  refine c_keep (L' := [(8, .slice (some ⟨b8, 0, none⟩) 1 1), (45, .slice (some ⟨g, 0, none⟩) 1 c), (46, .int .i64 ((1 : Nat) : Int)), (47, .int .i64 ((0 : Nat) : Int))]) ⟨rfl, rfl, rfl, rfl, trivial⟩ ?_
  refine c_loop (ι := Nat) (fun j L M' => ∃ u, L = [(8, .slice (some ⟨b8, 0, none⟩) 1 1), (45, .slice (some ⟨g, 0, none⟩) 1 c), (46, .int .i64 ((1 : Nat) : Int)), (47, .int .i64 (j : Int))] ∧ j ≤ 1 ∧ (j = 1 → u = .iface 2 (.int .i64 y)) ∧ M' = (b8, .cells #[u] 20 (0, 0)) :: M) (fun j => 1 - j) 0 ⟨.nilIface, rfl, Nat.zero_le _, fun e => (by cases e), rfl⟩ ?_
  rintro j _ _ ⟨u, rfl, hj, hu, rfl⟩
  refine c_seq ?_
  refine c_region ?_   -- region 18
  refine g_q (qv_lss rfl rfl) rfl ?_
  refine g_nil ?_
  refine e_seq ?_
  refine c_seq ?_
  refine c_cond rfl (fun hc => ?_) (fun hc => ?_)   -- t48
  · -- true
    refine c_skip ?_
    refine e_seq ?_
    refine c_seq ?_
    refine c_block ?_
    refine c_seq ?_
    refine c_region ?_   -- region 19
    obtain rfl : j = 0 := by
      have := of_decide_eq_true hc
      omega
    refine g_q (qv_move rfl) rfl ?_
    refine g_q (qv_index rfl rfl Try.runUnderlying89 Try.sizeOf20 (by omega) (by omega)) rfl ?_
    refine g_q (qv_load (v := .iface 2 (.int .i64 y)) rfl Try.isAgg20 (.tail _ hg') hcs) rfl ?_
    refine g_q (qv_assign rfl) rfl ?_
    refine g_q (qv_assign rfl) rfl ?_
    refine g_nil ?_
    refine e_seq ?_
    refine c_region ?_   -- region 20
    refine g_q (qv_move rfl) rfl ?_
    refine g_q (qv_move rfl) rfl ?_
    refine g_q (qv_move rfl) rfl ?_
    refine g_i (iv_call (vs := [.iface 2 (.int .i64 y)]) Try.call72 ⟨rfl, trivial⟩ (deep_leaf _ _ (Or.inr ⟨_, _, rfl, rfl, rfl⟩))) rfl ?_
    rintro _ _ ⟨rfl, rfl⟩
    refine g_q (qv_index rfl rfl Try.runUnderlying89 Try.sizeOf20 (by omega) (by omega)) rfl ?_
    refine g_i0 (iv_store (i := 0) (b := b8) rfl rfl rfl Try.sizeOf20 rfl (Nat.le_of_ble_eq_true rfl)) ?_
    rintro _ _ rfl
    refine g_nil ?_
    refine e_normal_block ?_
    refine e_seq ?_
    refine c_region ?_   -- region 21
    refine g_q (qv_add (c := ((1 : Nat) : Int)) rfl rfl (by decide)) rfl ?_
    refine g_q (qv_move rfl) rfl ?_
    refine g_nil ?_
    exact e_again 1 (by omega) (L' := [(8, .slice (some ⟨b8, 0, none⟩) 1 1), (45, .slice (some ⟨g, 0, none⟩) 1 c), (46, .int .i64 ((1 : Nat) : Int)), (47, .int .i64 ((1 : Nat) : Int))]) ⟨rfl, rfl, rfl, rfl, trivial⟩ ⟨.iface 2 (.int .i64 y), rfl, Nat.le_refl _, fun _ => rfl, rfl⟩
  · -- false
    refine c_exit ?_
    refine e_exit_then ?_
    refine e_exit_then ?_
    refine e_exit_block ?_
    refine e_seq ?_
    refine c_seq ?_
    refine c_region ?_   -- region 22
    refine g_q (qv_move rfl) rfl ?_
    refine g_q (qv_iface Try.runUnderlying89 (fun _ h => by cases h) rfl) rfl ?_
    refine g_q (qv_assign rfl) rfl ?_
    refine g_nil ?_
    refine e_seq ?_
    refine c_ret ?_
    refine e_ret_block (e_ret_then (?_))
    obtain rfl : j = 1 := by
      have := of_decide_eq_false hc
      omega
    obtain rfl := hu rfl
    refine e_to (M' := M ++ [(b8, .cells #[.iface 2 (.int .i64 y)] 20 (0, 0))]) (fun f => by simp <;> omega) (e_ret1 (.inl rfl) Try.results72 rfl ⟨_, ?_, rfl⟩)
    cases n <;> exact ⟨_, rfl, rfl, Or.inr ⟨b8, 1, _, rfl, rfl, Nat.le_refl _, rfl, rfl⟩⟩
theorem deep_tab (n : Nat) (es : List (Key × T)) (hsub : ∀ p, p ∈ es → ∀ n', n' < n → DeepSpec W0 n' p.2) : DeepSpec W0 n (.tab es) := by
  intro a ma M ha hma
  obtain ⟨r, kv, kts, mk, rfl, hok, hperm, hkids, rfl⟩ := ha.table
  have hr := hma _ m0
  have hndk := perm_keys_nodup hok hperm
  refine tri_of 61 Try.func72 rfl Try.ntmps72 (Nat.le_of_ble_eq_true rfl) ?_
  refine c_seq ?_
  refine c_region ?_   -- region 0
  refine g_q (qv_assign rfl) rfl ?_
  refine g_nil ?_
  refine e_seq ?_
  refine c_seq ?_
  refine c_seq ?_
  refine c_region ?_   -- region 1
  refine g_q (qv_move rfl) rfl ?_
  refine g_nil ?_
  refine e_seq ?_
  refine c_block ?_
  refine c_seq ?_
  refine c_region ?_   -- region 2
  refine g_q (qv_is rfl Try.runUnderlying63 (fun _ h => by cases h)) rfl ?_
  refine g_q (qv_extract rfl rfl) rfl ?_
  refine g_q (qv_extract rfl rfl) rfl ?_
  refine g_nil ?_
  refine e_seq ?_
  refine c_true rfl ?_   -- t13
  refine c_seq ?_
  refine c_region ?_   -- region 3
  refine g_q (qv_assign rfl) rfl ?_
  refine g_nil ?_
  refine e_seq ?_
  refine c_seq ?_
  refine c_seq ?_
  refine c_region ?_   -- region 4
  refine g_q (qv_move rfl) rfl ?_
  refine g_q (qv_eqm Try.runUnderlying63 rfl) rfl ?_
  refine g_nil ?_
  refine e_seq ?_
  refine c_false rfl ?_   -- t16
  refine c_skip ?_
  refine e_seq ?_
  refine c_seq ?_
  refine c_region ?_   -- region 6
  refine g_q (qv_move rfl) rfl ?_
  refine g_q (qv_len_map rfl Try.runUnderlying63 hr) rfl ?_
  refine g_i (iv_makeKVN rfl Try.runUnderlying63) rfl ?_
  rintro _ _ ⟨r2, rfl, rfl⟩
  refine g_q (qv_assign rfl) rfl ?_
  refine g_nil ?_
  refine e_seq ?_
  refine c_seq ?_
  refine c_seq ?_
  refine c_region ?_   -- region 7
  refine g_q (qv_move rfl) rfl ?_
  refine g_i (iv_range (m := kv) rfl Try.runUnderlying63 (.tail _ hr)) rfl ?_
  rintro _ _ ⟨it, rfl, rfl⟩
  refine g_nil ?_
  refine e_seq ?_
  refine c_block ?_
  refine c_keep (L' := [(4, .map (some r2)), (23, ptr it)]) ⟨rfl, rfl, trivial⟩ ?_
  refine c_to (M' := (it, iterObj r kv #[]) :: (r2, KV.empty.obj) :: (M ++ [])) (by rw [List.append_nil]; exact Fits.refl _) ?_
  refine c_loop (ι := Array Nat) (fun seen L M' => ∃ kv2 vts lts ml mo, L = [(4, .map (some r2)), (23, ptr it)] ∧ Kids (fun t v m => ∃ n', n' < n ∧ RepA n' t v m) vts (KV.list kv2) mo ∧ Kids (fun t v m => ∃ n', n' < n ∧ RepA n' t v m) lts (kv.left seen) ml ∧ (vts ++ lts).Perm kts ∧ (∀ x, x ∈ ml → x ∈ mk) ∧
    M' = (it, iterObj r kv seen) :: (r2, kv2.obj) :: (M ++ mo)) (fun seen => (kv.left seen).length) #[] ⟨KV.empty, [], kts, mk, [], rfl, rfl, by rw [KV.left_start]; exact hkids, List.Perm.refl _, fun _ h => h, rfl⟩ ?_
  rintro seen _ _ ⟨kv2, vts, lts, ml, mo, rfl, hvk, hlk, hvl, hml, rfl⟩
  refine c_seq ?_
  refine c_region ?_   -- region 8
  refine g_i (iv_next (i := 0) rfl rfl (.tail _ (.tail _ (List.mem_append_left _ hr)))) rfl ?_
  rintro _ _ (⟨hl0, rfl, rfl⟩ | ⟨key, u, seen2, rfl, rfl, hperm2, hcur⟩)
  · refine g_q (qv_extract rfl rfl) rfl ?_
    refine g_nil ?_
    refine e_seq ?_
    refine c_seq ?_
    refine c_false rfl ?_
    refine c_exit ?_
    refine e_exit_then ?_
    refine e_exit_then ?_
    refine e_exit_block ?_
    refine e_seq ?_
    rw [hl0] at hlk
    obtain ⟨rfl, rfl⟩ := hlk.none
    rw [List.append_nil] at hvl
    refine c_seq ?_
    refine c_region ?_   -- region 11
    refine g_q (qv_move rfl) rfl ?_
    refine g_q (qv_iface Try.runUnderlying63 (fun _ h => by cases h) rfl) rfl ?_
    refine g_q (qv_assign rfl) rfl ?_
    refine g_nil ?_
    refine e_seq ?_
    refine c_ret ?_
    refine e_ret_block (e_ret_then (?_))
    refine e_to (M' := M ++ ((r2, kv2.obj) :: mo)) (fun f => by simp <;> omega) (e_ret1 (.inl rfl) Try.results72 rfl ⟨_, ?_, rfl⟩)
    have hfin : RepA1 (fun t v m => ∃ n', n' < n ∧ RepA n' t v m) (.tab es) (.iface 63 (.map (some r2))) ((r2, kv2.obj) :: mo) := ⟨r2, kv2, vts, mo, rfl, hok, hvl.trans hperm, hvk, rfl⟩
    cases n with
    | zero => exact RepA1.mono (fun _ _ _ ⟨_, h, _⟩ => absurd h (Nat.not_lt_zero _)) hfin
    | succ n => exact RepA1.mono (fun _ _ _ ⟨_, h, h'⟩ => h'.le (Nat.le_of_lt_succ h)) hfin
  · have hmu : (kv.left seen2).length < (kv.left seen).length := by
      rw [hperm2.length_eq]
      exact Nat.lt_succ_self _
    obtain ⟨lts', ml', hpl0, hpml, hkl'⟩ := hlk.perm hperm2
    obtain ⟨tu, lts2, mu, ml2, rfl, rfl, ⟨n', hn', hru⟩, hkl2⟩ := hkl'.cons
    have hmu' : ∀ x, x ∈ mu → x ∈ M := fun x hx => hma _ (.tail _ (hml _ (hpml.mem_iff.2 (List.mem_append_left _ hx))))
    have hpes : (key, tu) ∈ es := hperm.mem_iff.1 (hvl.mem_iff.1 (List.mem_append_right _ (hpl0.mem_iff.2 List.mem_cons_self)))
    have hvl2 : (vts ++ [(key, tu)] ++ lts2).Perm kts := by
      refine List.Perm.trans ?_ hvl
      rw [List.append_assoc]
      exact List.Perm.append_left vts hpl0.symm
    have hfresh : kv2.list.lookup key = none := by
      refine lookup_none ?_
      rw [← hvk.keys]
      have h1 := (hvl2.map (·.1)).nodup_iff.2 hndk
      rw [List.map_append, List.map_append] at h1
      have h2 := (List.nodup_append.1 (List.nodup_append.1 h1).1).2.2
      exact fun hin => h2 _ hin key (by simp) rfl
    refine g_q (qv_extract rfl rfl) rfl ?_
    refine g_nil ?_
    refine e_seq ?_
    refine c_seq ?_
    refine c_true rfl ?_
    refine c_skip ?_
    refine e_seq ?_
    refine c_block ?_
    refine c_seq ?_
    refine c_region ?_   -- region 9
    refine g_q (qv_entry (k := key) (v := u) rfl m0 (.tail _ (.tail _ (List.mem_append_left _ hr))) hcur) rfl ?_
    refine g_q (qv_extract rfl rfl) rfl ?_
    refine g_q (qv_extract rfl rfl) rfl ?_
    refine g_q (qv_assign rfl) rfl ?_
    refine g_q (qv_assign rfl) rfl ?_
    refine g_nil ?_
    refine e_seq ?_
    refine c_region ?_   -- region 10
    refine g_q (qv_move rfl) rfl ?_
    refine g_q (qv_move rfl) rfl ?_
    refine g_q (qv_move rfl) rfl ?_
    refine g_i (iv_call (vs := [u]) Try.call72 ⟨rfl, trivial⟩ (hsub _ hpes n' hn' u mu _ hru (fun x hx => .tail _ (.tail _ (List.mem_append_left _ (hmu' x hx)))))) rfl ?_
    rintro d1 _ ⟨m1, hd1, rfl⟩
    refine g_i0 (iv_put (i := 1) (m := kv2) rfl rfl rfl Try.runUnderlying63 Try.runUnderlying9 rfl) ?_
    rintro _ _ rfl
    refine g_nil ?_
    refine e_normal_block ?_
    have hput : (kv2.put key d1).list = kv2.list ++ [(key, d1)] := by rw [KV.list_put, putL, hfresh]; rfl
    refine e_to (M' := (it, iterObj r kv seen2) :: (r2, (kv2.put key d1).obj) :: (M ++ (mo ++ m1))) (fun f => by simp) ?_
    exact e_again seen2 hmu (L' := [(4, .map (some r2)), (23, ptr it)]) ⟨rfl, rfl, trivial⟩ ⟨kv2.put key d1, vts ++ [(key, tu)], lts2, ml2, mo ++ m1, rfl, by rw [hput]; exact hvk.append (Kids.single ⟨n', hn', hd1⟩), hkl2, hvl2, fun x hx => hml _ (hpml.mem_iff.2 (List.mem_append_right _ hx)), rfl⟩
theorem deep_any (n : Nat) : ∀ t, DeepSpec W0 n t := by
  induction n using Nat.strongRecOn with
  | ind n ih =>
    intro t
    cases t with
    | tab es => exact deep_tab n es (fun p _ n' hn' => ih n' hn' p.2)
    | one y => exact deep_one n y
    | null =>
      intro a ma M ha _
      obtain ⟨rfl, rfl⟩ : a = .nilIface ∧ ma = [] := by cases n <;> exact ha
      exact (deep_leaf _ M (Or.inl rfl)).mono fun v M' ⟨h1, h2⟩ => ⟨[], by rw [h1]; exact ha, by rw [h2, List.append_nil]⟩
    | truth x =>
      intro a ma M ha _
      obtain ⟨rfl, rfl⟩ : a = .iface 4 (.bool x) ∧ ma = [] := by cases n <;> exact ha
      exact (deep_leaf _ M (Or.inr ⟨_, _, rfl, rfl, rfl⟩)).mono fun v M' ⟨h1, h2⟩ => ⟨[], by rw [h1]; exact ha, by rw [h2, List.append_nil]⟩
    | int x =>
      intro a ma M ha _
      obtain ⟨rfl, rfl⟩ : a = .iface 2 (.int .i64 x) ∧ ma = [] := by cases n <;> exact ha
      exact (deep_leaf _ M (Or.inr ⟨_, _, rfl, rfl, rfl⟩)).mono fun v M' ⟨h1, h2⟩ => ⟨[], by rw [h1]; exact ha, by rw [h2, List.append_nil]⟩
    | text x =>
      intro a ma M ha _
      obtain ⟨rfl, rfl⟩ : a = .iface 9 (str x) ∧ ma = [] := by cases n <;> exact ha
      exact (deep_leaf _ M (Or.inr ⟨_, _, rfl, rfl, rfl⟩)).mono fun v M' ⟨h1, h2⟩ => ⟨[], by rw [h1]; exact ha, by rw [h2, List.append_nil]⟩

theorem zzCopy_any (n : Nat) (es : List (Key × T)) (r : Nat) (ma M : Heap) (ha : RepA n (.tab es) (.iface 63 (.map (some r))) ma) (hma : ∀ x, x ∈ ma → x ∈ M) :
    Tri Try.prog W0 57 [.map (some r)] M fun v M' => ∃ r2 m', v = .tuple #[.iface 63 (.map (some r2)), .nilIface] ∧ RepA n (.tab es) (.iface 63 (.map (some r2))) m' ∧ M' = M ++ m' := by
  refine tri_of 10 Try.func57 rfl Try.ntmps57 (Nat.le_of_ble_eq_true rfl) ?_
  refine c_seq ?_
  refine c_region ?_   -- region 0
  refine g_q (qv_assign rfl) rfl ?_
  refine g_q (qv_assign rfl) rfl ?_
  refine g_nil ?_
  refine e_seq ?_
  refine c_seq ?_
  refine c_seq ?_
  refine c_region ?_   -- region 1
  refine g_q (qv_move rfl) rfl ?_
  refine g_q (qv_eqm Try.runUnderlying63 rfl) rfl ?_
  refine g_nil ?_
  refine e_seq ?_
  refine c_false rfl ?_   -- t5
  refine c_skip ?_
  refine e_seq ?_
  refine c_seq ?_
  refine c_region ?_   -- region 3
  refine g_q (qv_move rfl) rfl ?_
  refine g_q (qv_iface Try.runUnderlying63 (fun _ h => by cases h) rfl) rfl ?_
  refine g_i (iv_call (vs := [.iface 63 (.map (some r))]) Try.call72 ⟨rfl, trivial⟩ (deep_any n (.tab es) _ ma M ha hma)) rfl ?_
  rintro v1 _ ⟨m1, hr1, rfl⟩
  obtain ⟨r2, _, _, _, rfl, _⟩ := hr1.table
  refine g_q (qv_assign rfl) rfl ?_
  refine g_q (qv_assign rfl) rfl ?_
  refine g_nil ?_
  refine e_seq ?_
  refine c_ret ?_
  refine ?_
  exact e_ret2 (.inl rfl) Try.results57 rfl rfl ⟨r2, m1, rfl, hr1, rfl⟩
theorem copyValues_any (n : Nat) (es : List (Key × T)) (r : Nat) (ma M : Heap) (ha : RepA n (.tab es) (.iface 63 (.map (some r))) ma) (hma : ∀ x, x ∈ ma → x ∈ M) :
    Tri Try.prog W0 48 [.map (some r)] M fun v M' => ∃ r2 m', v = .tuple #[.map (some r2), .nilIface] ∧ RepA n (.tab es) (.iface 63 (.map (some r2))) m' ∧ M' = M ++ m' := by
  refine tri_of 22 Try.func48 rfl Try.ntmps48 (Nat.le_of_ble_eq_true rfl) ?_
  refine c_seq ?_
  refine c_region ?_   -- region 0
  refine g_q (qv_assign rfl) rfl ?_
  refine g_q (qv_assign rfl) rfl ?_
  refine g_nil ?_
  refine e_seq ?_
  refine c_seq ?_
  refine c_region ?_   -- region 1
  refine g_q (qv_move rfl) rfl ?_
  refine g_i (iv_call (vs := [.map (some r)]) Try.call57 ⟨rfl, trivial⟩ (zzCopy_any n es r ma M ha hma)) rfl ?_
  rintro _ _ ⟨r2, m1, rfl, hr1, rfl⟩
  refine g_q (qv_move rfl) rfl ?_
  refine g_q (qv_extract rfl rfl) rfl ?_
  refine g_q (qv_extract rfl rfl) rfl ?_
  refine g_q (qv_assign rfl) rfl ?_
  refine g_q (qv_assign rfl) rfl ?_
  refine g_nil ?_
  refine e_seq ?_
  refine c_seq ?_
  refine c_seq ?_
  refine c_region ?_   -- region 2
  refine g_q (qv_move rfl) rfl ?_
  refine g_q (qv_nen Try.runUnderlying68 rfl (Or.inl rfl)) rfl ?_
  refine g_nil ?_
  refine e_seq ?_
  refine c_false rfl ?_   -- t13
  refine c_skip ?_
  refine e_seq ?_
  refine c_seq ?_
  refine c_region ?_   -- region 4
  refine g_q (qv_move rfl) rfl ?_
  refine g_q (qv_as rfl Try.runUnderlying63 (fun _ h => by cases h)) rfl ?_
  refine g_q (qv_assign rfl) rfl ?_
  refine g_nil ?_
  refine e_seq ?_
  refine c_seq ?_
  refine c_seq ?_
  refine c_region ?_   -- region 5
  refine g_q (qv_move rfl) rfl ?_
  refine g_q (qv_eqm Try.runUnderlying63 rfl) rfl ?_
  refine g_nil ?_
  refine e_seq ?_
  refine c_false rfl ?_   -- t19
  refine c_skip ?_
  refine e_seq ?_
  refine c_seq ?_
  refine c_region ?_   -- region 7
  refine g_q (qv_move rfl) rfl ?_
  refine g_q (qv_assign rfl) rfl ?_
  refine g_q (qv_assign rfl) rfl ?_
  refine g_nil ?_
  refine e_seq ?_
  refine c_ret ?_
  refine ?_
  exact e_ret2 (.inl rfl) Try.results48 rfl rfl ⟨r2, m1, rfl, hr1, rfl⟩
end Go.Proofs.Ytnnclcfklbeocaa

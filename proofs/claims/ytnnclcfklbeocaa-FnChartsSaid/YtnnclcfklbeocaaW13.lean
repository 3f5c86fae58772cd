/-
  The walks, part 13: CoalesceTables and MergeTables, their wrappers, and laws.FnTableOfNone: the law answers true.
  Conditions: the tables lie in memory as RepD says; the numbers came in as an argument.
-/
import Derived.Test.YtnnclcfklbeocaaW12
namespace Go.Proofs.Ytnnclcfklbeocaa
open Go.RowKit

variable {W0 : World}

theorem coalTables30_any (n : Nat) (hn : 7 * n ≤ 1000) (de se : List (Key × T)) (rd rs : Nat) (md ms F : Heap) (hd : RepA n (.tab de) (.iface 63 (.map (some rd))) md) (hs : RepA n (.tab se) (.iface 63 (.map (some rs))) ms) :
    Tri Try.prog W0 30 [.map (some rd), .map (some rs)] (md ++ (ms ++ F)) fun v M' => v = .map (some rd) ∧ ∃ re m', RepA n (.tab re) (.iface 63 (.map (some rd))) m' ∧ Coal false de se re ∧ M' = m' ++ F := by
  refine tri_of 8 Try.func30 rfl Try.ntmps30 (Nat.le_of_ble_eq_true rfl) ?_
  refine c_seq ?_
  refine c_region ?_   -- region 0
  refine g_q (qv_assign rfl) rfl ?_
  refine g_nil ?_
  refine e_seq ?_
  refine c_seq ?_
  refine c_region ?_   -- region 1
  refine g_q (qv_move rfl) rfl ?_
  refine g_q (qv_move rfl) rfl ?_
  refine g_i (iv_call (vs := [.func (.func 44) #[] #[], .map (some rd), .map (some rs), str [], .bool false]) Try.call43 ⟨rfl, rfl, rfl, rfl, rfl, trivial⟩ (coal_any n de se rd rs md ms [] false F hd hs (by simpa using hn))) rfl ?_
  rintro _ _ ⟨rfl, re, m', hr, hc, rfl⟩
  refine g_q (qv_assign rfl) rfl ?_
  refine g_nil ?_
  refine e_seq ?_
  refine c_ret ?_
  refine ?_
  exact e_ret1 (.inl rfl) Try.results30 rfl ⟨rfl, re, m', hr, hc, rfl⟩
theorem coalTables31_any (n : Nat) (hn : 7 * n ≤ 1000) (de se : List (Key × T)) (rd rs : Nat) (md ms F : Heap) (hd : RepA n (.tab de) (.iface 63 (.map (some rd))) md) (hs : RepA n (.tab se) (.iface 63 (.map (some rs))) ms) :
    Tri Try.prog W0 31 [.map (some rd), .map (some rs)] (md ++ (ms ++ F)) fun v M' => v = .map (some rd) ∧ ∃ re m', RepA n (.tab re) (.iface 63 (.map (some rd))) m' ∧ Coal true de se re ∧ M' = m' ++ F := by
  refine tri_of 8 Try.func31 rfl Try.ntmps31 (Nat.le_of_ble_eq_true rfl) ?_
  refine c_seq ?_
  refine c_region ?_   -- region 0
  refine g_q (qv_assign rfl) rfl ?_
  refine g_nil ?_
  refine e_seq ?_
  refine c_seq ?_
  refine c_region ?_   -- region 1
  refine g_q (qv_move rfl) rfl ?_
  refine g_q (qv_move rfl) rfl ?_
  refine g_i (iv_call (vs := [.func (.func 44) #[] #[], .map (some rd), .map (some rs), str [], .bool true]) Try.call43 ⟨rfl, rfl, rfl, rfl, rfl, trivial⟩ (coal_any n de se rd rs md ms [] true F hd hs (by simpa using hn))) rfl ?_
  rintro _ _ ⟨rfl, re, m', hr, hc, rfl⟩
  refine g_q (qv_assign rfl) rfl ?_
  refine g_nil ?_
  refine e_seq ?_
  refine c_ret ?_
  refine ?_
  exact e_ret1 (.inl rfl) Try.results31 rfl ⟨rfl, re, m', hr, hc, rfl⟩
theorem implCoal15_any (n : Nat) (hn : n ≤ 19) (de se : List (Key × T)) (d1 d2 : Value) (md ms M : Heap) (hd : RepD n (.tab de) d1 md) (hs : RepD n (.tab se) d2 ms) (hmd : ∀ x, x ∈ md → x ∈ M) (hms : ∀ x, x ∈ ms → x ∈ M) :
    Tri Try.prog W0 15 [d1, d2] M fun v M' => ∃ d re m' mm, v = .tuple #[d, .bool true] ∧ RepD n (.tab re) d m' ∧ KeysOk re ∧ Coal false de se re ∧ M' = M ++ mm ∧ ∀ x, x ∈ m' → x ∈ mm := by
  obtain ⟨k1, x1, i1, s1, p1, n1, c1, q1, o1, e1, rfl⟩ := hd.agg
  obtain ⟨k2, x2, i2, s2, p2, n2, c2, q2, o2, e2, rfl⟩ := hs.agg
  refine tri_of 32 Try.func15 rfl Try.ntmps15 (Nat.le_of_ble_eq_true rfl) ?_
  refine c_seq ?_
  refine c_region ?_   -- region 0
  refine g_i (iv_boxA rfl) rfl ?_
  rintro _ _ ⟨b2, rfl, rfl⟩
  refine g_i (iv_boxA rfl) rfl ?_
  rintro _ _ ⟨b3, rfl, rfl⟩
  refine g_i (iv_allocA (z := dCells 0 false 0 [] nilS nilS) Try.zeroValue32) rfl ?_
  rintro _ _ ⟨b4, rfl, rfl⟩
  refine g_q (qv_assign rfl) rfl ?_
  refine g_nil ?_
  refine e_seq ?_
  refine c_seq ?_
  refine c_region ?_   -- region 1
  refine g_q (qv_loadA (vs := (dCells k1 x1 i1 s1 (.slice p1 n1 c1) (.slice q1 o1 e1)).toList) rfl Try.isAgg32 Try.sizeOf32 m2 (fun _ _ h => by simpa using h)) rfl ?_
  refine g_i (iv_call (vs := [.agg (dCells k1 x1 i1 s1 (.slice p1 n1 c1) (.slice q1 o1 e1))]) Try.call26 ⟨rfl, trivial⟩ (table_any n hn de _ md _ hd (fun x hx => by simp [hmd x hx]))) rfl ?_
  rintro _ _ ⟨rm1, ma1, rfl, hra1, rfl⟩
  refine g_q (qv_move rfl) rfl ?_
  refine g_q (qv_extract rfl rfl) rfl ?_
  refine g_q (qv_extract rfl rfl) rfl ?_
  refine g_q (qv_assign rfl) rfl ?_
  refine g_q (qv_assign rfl) rfl ?_
  refine g_nil ?_
  refine e_seq ?_
  refine c_seq ?_
  refine c_region ?_   -- region 2
  refine g_q (qv_loadA (vs := (dCells k2 x2 i2 s2 (.slice p2 n2 c2) (.slice q2 o2 e2)).toList) rfl Try.isAgg32 Try.sizeOf32 (List.mem_append_left _ m1) (fun _ _ h => by simpa using h)) rfl ?_
  refine g_i (iv_call (vs := [.agg (dCells k2 x2 i2 s2 (.slice p2 n2 c2) (.slice q2 o2 e2))]) Try.call26 ⟨rfl, trivial⟩ (table_any n hn se _ ms _ hs (fun x hx => by simp [hms x hx]))) rfl ?_
  rintro _ _ ⟨rm2, ma2, rfl, hra2, rfl⟩
  refine g_q (qv_move rfl) rfl ?_
  refine g_q (qv_extract rfl rfl) rfl ?_
  refine g_q (qv_extract rfl rfl) rfl ?_
  refine g_q (qv_assign rfl) rfl ?_
  refine g_q (qv_assign rfl) rfl ?_
  refine g_nil ?_
  refine e_seq ?_
  refine c_seq ?_
  refine c_seq ?_
  refine c_region ?_   -- region 3
  refine g_q (qv_move rfl) rfl ?_
  refine g_q (qv_not rfl) rfl ?_
  refine g_q (qv_move rfl) rfl ?_
  refine g_on rfl rfl ?_
  refine g_q (qv_move rfl) rfl ?_
  refine g_on rfl rfl ?_
  refine g_q (qv_not rfl) rfl ?_
  refine g_q (qv_pick_f rfl rfl) rfl ?_
  refine g_nil ?_
  refine e_seq ?_
  refine c_false rfl ?_   -- t25
  refine c_skip ?_
  refine e_seq ?_
  refine c_seq ?_
  refine c_region ?_   -- region 5
  refine g_q (qv_move rfl) rfl ?_
  refine g_q (qv_move rfl) rfl ?_
  refine g_to (M' := ma1 ++ (ma2 ++ ((b4, .cells (dCells 0 false 0 [] nilS nilS) 32 (0, 0)) :: M))) (fun f => by simp <;> omega) ?_
  refine g_i (iv_call (vs := [.map (some rm1), .map (some rm2)]) Try.call30 ⟨rfl, rfl, trivial⟩ (coalTables30_any n (by omega) de se rm1 rm2 ma1 ma2 _ hra1 hra2)) rfl ?_
  rintro _ _ ⟨rfl, re, mr, hrr, hco, rfl⟩
  refine g_q (qv_iface Try.runUnderlying63 (fun _ h => by cases h) rfl) rfl ?_
  refine g_i (iv_call (vs := [.iface 63 (.map (some rm1))]) Try.call28 ⟨rfl, trivial⟩ (told_any n (.tab re) _ mr _ hrr (fun x hx => List.mem_append_left _ hx))) rfl ?_
  rintro d3 _ ⟨m3', hd3, rfl⟩
  obtain ⟨k3, x3, i3, s3, p3, n3, c3, q3, o3, e3, rfl⟩ := hd3.agg
  refine g_to (M' := (b4, .cells (dCells 0 false 0 [] nilS nilS) 32 (0, 0)) :: (M ++ m3')) (fun f => by simp <;> omega) ?_
  refine g_i0 (iv_storeA (i := 0) (b := b4) (vs := (dCells k3 x3 i3 s3 (.slice p3 n3 c3) (.slice q3 o3 e3))) rfl rfl all_dCells Try.sizeOf32 rfl rfl) ?_
  rintro _ _ rfl
  refine g_q (qv_assign rfl) rfl ?_
  refine g_nil ?_
  refine e_seq ?_
  refine c_ret ?_
  refine ?_
  refine e_to (M' := M ++ ((b4, .cells (dCells k3 x3 i3 s3 (.slice p3 n3 c3) (.slice q3 o3 e3)) 32 (0, 0)) :: m3')) (fun f => by simp <;> omega) ?_
  exact e_retc2 (vs := (dCells k3 x3 i3 s3 (.slice p3 n3 c3) (.slice q3 o3 e3)).toList) (.inl rfl) Try.results15 Try.isAgg32 Try.sizeOf32 rfl rfl (List.mem_append_right _ m0) (fun _ _ h => by simpa using h) ⟨_, re, m3', _, rfl, hd3, hrr.ok, hco, rfl, fun x hx => .tail _ hx⟩
theorem implCoal17_any (n : Nat) (hn : n ≤ 19) (de se : List (Key × T)) (d1 d2 : Value) (md ms M : Heap) (hd : RepD n (.tab de) d1 md) (hs : RepD n (.tab se) d2 ms) (hmd : ∀ x, x ∈ md → x ∈ M) (hms : ∀ x, x ∈ ms → x ∈ M) :
    Tri Try.prog W0 17 [d1, d2] M fun v M' => ∃ d re m' mm, v = .tuple #[d, .bool true] ∧ RepD n (.tab re) d m' ∧ KeysOk re ∧ Coal true de se re ∧ M' = M ++ mm ∧ ∀ x, x ∈ m' → x ∈ mm := by
  obtain ⟨k1, x1, i1, s1, p1, n1, c1, q1, o1, e1, rfl⟩ := hd.agg
  obtain ⟨k2, x2, i2, s2, p2, n2, c2, q2, o2, e2, rfl⟩ := hs.agg
  refine tri_of 32 Try.func17 rfl Try.ntmps17 (Nat.le_of_ble_eq_true rfl) ?_
  refine c_seq ?_
  refine c_region ?_   -- region 0
  refine g_i (iv_boxA rfl) rfl ?_
  rintro _ _ ⟨b2, rfl, rfl⟩
  refine g_i (iv_boxA rfl) rfl ?_
  rintro _ _ ⟨b3, rfl, rfl⟩
  refine g_i (iv_allocA (z := dCells 0 false 0 [] nilS nilS) Try.zeroValue32) rfl ?_
  rintro _ _ ⟨b4, rfl, rfl⟩
  refine g_q (qv_assign rfl) rfl ?_
  refine g_nil ?_
  refine e_seq ?_
  refine c_seq ?_
  refine c_region ?_   -- region 1
  refine g_q (qv_loadA (vs := (dCells k1 x1 i1 s1 (.slice p1 n1 c1) (.slice q1 o1 e1)).toList) rfl Try.isAgg32 Try.sizeOf32 m2 (fun _ _ h => by simpa using h)) rfl ?_
  refine g_i (iv_call (vs := [.agg (dCells k1 x1 i1 s1 (.slice p1 n1 c1) (.slice q1 o1 e1))]) Try.call26 ⟨rfl, trivial⟩ (table_any n hn de _ md _ hd (fun x hx => by simp [hmd x hx]))) rfl ?_
  rintro _ _ ⟨rm1, ma1, rfl, hra1, rfl⟩
  refine g_q (qv_move rfl) rfl ?_
  refine g_q (qv_extract rfl rfl) rfl ?_
  refine g_q (qv_extract rfl rfl) rfl ?_
  refine g_q (qv_assign rfl) rfl ?_
  refine g_q (qv_assign rfl) rfl ?_
  refine g_nil ?_
  refine e_seq ?_
  refine c_seq ?_
  refine c_region ?_   -- region 2
  refine g_q (qv_loadA (vs := (dCells k2 x2 i2 s2 (.slice p2 n2 c2) (.slice q2 o2 e2)).toList) rfl Try.isAgg32 Try.sizeOf32 (List.mem_append_left _ m1) (fun _ _ h => by simpa using h)) rfl ?_
  refine g_i (iv_call (vs := [.agg (dCells k2 x2 i2 s2 (.slice p2 n2 c2) (.slice q2 o2 e2))]) Try.call26 ⟨rfl, trivial⟩ (table_any n hn se _ ms _ hs (fun x hx => by simp [hms x hx]))) rfl ?_
  rintro _ _ ⟨rm2, ma2, rfl, hra2, rfl⟩
  refine g_q (qv_move rfl) rfl ?_
  refine g_q (qv_extract rfl rfl) rfl ?_
  refine g_q (qv_extract rfl rfl) rfl ?_
  refine g_q (qv_assign rfl) rfl ?_
  refine g_q (qv_assign rfl) rfl ?_
  refine g_nil ?_
  refine e_seq ?_
  refine c_seq ?_
  refine c_seq ?_
  refine c_region ?_   -- region 3
  refine g_q (qv_move rfl) rfl ?_
  refine g_q (qv_not rfl) rfl ?_
  refine g_q (qv_move rfl) rfl ?_
  refine g_on rfl rfl ?_
  refine g_q (qv_move rfl) rfl ?_
  refine g_on rfl rfl ?_
  refine g_q (qv_not rfl) rfl ?_
  refine g_q (qv_pick_f rfl rfl) rfl ?_
  refine g_nil ?_
  refine e_seq ?_
  refine c_false rfl ?_   -- t25
  refine c_skip ?_
  refine e_seq ?_
  refine c_seq ?_
  refine c_region ?_   -- region 5
  refine g_q (qv_move rfl) rfl ?_
  refine g_q (qv_move rfl) rfl ?_
  refine g_to (M' := ma1 ++ (ma2 ++ ((b4, .cells (dCells 0 false 0 [] nilS nilS) 32 (0, 0)) :: M))) (fun f => by simp <;> omega) ?_
  refine g_i (iv_call (vs := [.map (some rm1), .map (some rm2)]) Try.call31 ⟨rfl, rfl, trivial⟩ (coalTables31_any n (by omega) de se rm1 rm2 ma1 ma2 _ hra1 hra2)) rfl ?_
  rintro _ _ ⟨rfl, re, mr, hrr, hco, rfl⟩
  refine g_q (qv_iface Try.runUnderlying63 (fun _ h => by cases h) rfl) rfl ?_
  refine g_i (iv_call (vs := [.iface 63 (.map (some rm1))]) Try.call28 ⟨rfl, trivial⟩ (told_any n (.tab re) _ mr _ hrr (fun x hx => List.mem_append_left _ hx))) rfl ?_
  rintro d3 _ ⟨m3', hd3, rfl⟩
  obtain ⟨k3, x3, i3, s3, p3, n3, c3, q3, o3, e3, rfl⟩ := hd3.agg
  refine g_to (M' := (b4, .cells (dCells 0 false 0 [] nilS nilS) 32 (0, 0)) :: (M ++ m3')) (fun f => by simp <;> omega) ?_
  refine g_i0 (iv_storeA (i := 0) (b := b4) (vs := (dCells k3 x3 i3 s3 (.slice p3 n3 c3) (.slice q3 o3 e3))) rfl rfl all_dCells Try.sizeOf32 rfl rfl) ?_
  rintro _ _ rfl
  refine g_q (qv_assign rfl) rfl ?_
  refine g_nil ?_
  refine e_seq ?_
  refine c_ret ?_
  refine ?_
  refine e_to (M' := M ++ ((b4, .cells (dCells k3 x3 i3 s3 (.slice p3 n3 c3) (.slice q3 o3 e3)) 32 (0, 0)) :: m3')) (fun f => by simp <;> omega) ?_
  exact e_retc2 (vs := (dCells k3 x3 i3 s3 (.slice p3 n3 c3) (.slice q3 o3 e3)).toList) (.inl rfl) Try.results17 Try.isAgg32 Try.sizeOf32 rfl rfl (List.mem_append_right _ m0) (fun _ _ h => by simpa using h) ⟨_, re, m3', _, rfl, hd3, hrr.ok, hco, rfl, fun x hx => .tail _ hx⟩
theorem RepS.ok {n : Nat} {es : List (Key × T)} {v : Value} {m : Heap} (h : RepS n (.tab es) v m) : KeysOk es := by
  obtain ⟨_, _, _, _, _, _, _, _, _, _, hc⟩ := h.look
  rcases hc with ⟨_, es', _, _, _, _, e, _, hok, _⟩ | ⟨_, h⟩
  · cases e; exact hok
  · exact absurd rfl (h es)

theorem fnTableOfNone_any (lv : Value) (xs : List Int) (M : Heap) (hl : ArgL W0 lv xs) : Tri Try.prog W0 4 [lv] M fun v _ => v = .bool true := by
  obtain ⟨pl, cl, rfl⟩ : ∃ p c, lv = .slice p xs.length c := by
    obtain ⟨p, c, h, _⟩ := hl.form
    exact ⟨p, c, h⟩
  refine tri_of 46 Try.func4 rfl Try.ntmps4 (Nat.le_of_ble_eq_true rfl) ?_
  refine c_seq ?_
  refine c_region ?_   -- region 0
  refine g_q (qv_assign rfl) rfl ?_
  refine g_nil ?_
  refine e_seq ?_
  refine c_seq ?_
  refine c_seq ?_
  refine c_region ?_   -- region 1
  refine g_q (qv_move rfl) rfl ?_
  refine g_q (qv_len_slice rfl Try.runUnderlying22) rfl ?_
  refine g_q (qv_gtr rfl rfl) rfl ?_
  refine g_nil ?_
  refine e_seq ?_
  refine c_cond rfl (fun hc => ?_) (fun hc => ?_)   -- t10
  · -- true
    refine c_seq ?_
    refine c_region ?_   -- region 2
    refine g_q (qv_assign rfl) rfl ?_
    refine g_nil ?_
    refine e_seq ?_
    refine c_ret ?_
    refine e_ret_then (?_)
    exact e_ret1 (.inl rfl) Try.results4 rfl rfl
  · -- false
    refine c_skip ?_
    refine e_seq ?_
    refine c_seq ?_
    refine c_seq ?_
    refine c_region ?_   -- region 3
    refine g_q (qv_move rfl) rfl ?_
    refine g_q (qv_len_slice rfl Try.runUnderlying22) rfl ?_
    refine g_q (qv_gtr rfl rfl) rfl ?_
    refine g_nil ?_
    refine e_seq ?_
    refine c_cond rfl (fun hc => ?_) (fun hc => ?_)   -- t13
    · -- true
      refine c_seq ?_
      refine c_region ?_   -- region 4
      refine g_q (qv_assign rfl) rfl ?_
      refine g_nil ?_
      refine e_seq ?_
      refine c_ret ?_
      refine e_ret_then (?_)
      exact e_ret1 (.inl rfl) Try.results4 rfl rfl
    · -- false
      refine c_skip ?_
      refine e_seq ?_
      refine c_seq ?_
      refine c_region ?_   -- region 5
      refine g_q (qv_move rfl) rfl ?_
      refine g_i (iv_call (vs := [.slice pl xs.length cl]) Try.call8 ⟨rfl, trivial⟩ (numbers_any _ xs M hl)) rfl ?_
      rintro u _ ⟨es, mu, hu, rfl⟩
      refine g_q (qv_assign rfl) rfl ?_
      refine g_nil ?_
      refine e_seq ?_
      refine c_seq ?_
      refine c_region ?_   -- region 6
      refine g_i (iv_call (vs := []) Try.call16 trivial (new_any 3 _)) rfl ?_
      rintro w _ ⟨mw, rfl, hw⟩
      refine g_i (iv_call (vs := [w]) Try.call12 ⟨rfl, trivial⟩ (of_any 3 (.tab []) w mw _ hw (fun x hx => by simp [hx]))) rfl ?_
      rintro d1 _ ⟨md1, hd1, rfl⟩
      refine g_q (qv_move rfl) rfl ?_
      refine g_i (iv_call (vs := [u]) Try.call12 ⟨rfl, trivial⟩ (of_any 3 (.tab es) u mu _ hu (fun x hx => by simp [hx]))) rfl ?_
      rintro d2 _ ⟨md2, hd2, rfl⟩
      refine g_i (iv_call (vs := [d1, d2]) Try.call15 ⟨rfl, rfl, trivial⟩ (implCoal15_any 3 (by decide) [] es d1 d2 md1 md2 _ hd1 hd2 (fun x hx => by simp [hx]) (fun x hx => by simp [hx]))) rfl ?_
      rintro _ _ ⟨d3, re, m3', mm3, rfl, hd3, hok3, hco3, rfl, hm3⟩
      obtain rfl : re = es := lookup_ext hok3 hu.ok fun k => (hco3 k).of_none
      obtain ⟨k3, x3, i3, s3, p3, n3, c3, q3, o3, e3, rfl⟩ := hd3.agg
      refine g_q (qv_move rfl) rfl ?_
      refine g_q (qv_extract rfl rfl) rfl ?_
      refine g_q (qv_extract rfl rfl) rfl ?_
      refine g_i (iv_allocA (z := dCells 0 false 0 [] nilS nilS) Try.zeroValue32) rfl ?_
      rintro _ _ ⟨b4, rfl, rfl⟩
      refine g_i0 (iv_storeA (i := 0) (b := b4) (vs := (dCells k3 x3 i3 s3 (.slice p3 n3 c3) (.slice q3 o3 e3))) rfl rfl all_dCells Try.sizeOf32 rfl rfl) ?_
      rintro _ _ rfl
      refine g_q (qv_assign rfl) rfl ?_
      refine g_nil ?_
      refine e_seq ?_
      refine c_seq ?_
      refine c_region ?_   -- region 7
      refine g_q (qv_move rfl) rfl ?_
      refine g_i (iv_call (vs := [u]) Try.call12 ⟨rfl, trivial⟩ (of_any 3 (.tab re) u mu _ hu (fun x hx => by simp [hx]))) rfl ?_
      rintro d4 _ ⟨md4, hd4, rfl⟩
      refine g_i (iv_call (vs := []) Try.call16 trivial (new_any 3 _)) rfl ?_
      rintro w2 _ ⟨mw2, rfl, hw2⟩
      refine g_i (iv_call (vs := [w2]) Try.call12 ⟨rfl, trivial⟩ (of_any 3 (.tab []) w2 mw2 _ hw2 (fun x hx => by simp [hx]))) rfl ?_
      rintro d5 _ ⟨md5, hd5, rfl⟩
      refine g_i (iv_call (vs := [d4, d5]) Try.call17 ⟨rfl, rfl, trivial⟩ (implCoal17_any 3 (by decide) re [] d4 d5 md4 md5 _ hd4 hd5 (fun x hx => by simp [hx]) (fun x hx => by simp [hx]))) rfl ?_
      rintro _ _ ⟨d6, re6, m6', mm6, rfl, hd6, hok6, hco6, rfl, hm6⟩
      obtain rfl : re6 = re := lookup_ext hok6 hu.ok fun k => (hco6 k).to_none
      obtain ⟨k6, x6, i6, s6, p6, n6, c6, q6, o6, e6, rfl⟩ := hd6.agg
      refine g_q (qv_move rfl) rfl ?_
      refine g_q (qv_extract rfl rfl) rfl ?_
      refine g_q (qv_extract rfl rfl) rfl ?_
      refine g_i (iv_allocA Try.zeroValue32) rfl ?_
      rintro _ _ ⟨b6, rfl, rfl⟩
      refine g_i0 (iv_storeA (i := 0) (b := b6) (vs := (dCells k6 x6 i6 s6 (.slice p6 n6 c6) (.slice q6 o6 e6))) rfl rfl all_dCells Try.sizeOf32 rfl rfl) ?_
      rintro _ _ rfl
      refine g_q (qv_assign rfl) rfl ?_
      refine g_nil ?_
      refine e_seq ?_
      refine c_seq ?_
      refine c_region ?_   -- region 8
      refine g_q (qv_move rfl) rfl ?_
      refine g_q (qv_move rfl) rfl ?_
      refine g_on rfl rfl ?_
      refine g_q (qv_move rfl) rfl ?_
      refine g_q (qv_pick_t rfl rfl) rfl ?_
      refine g_q (qv_move rfl) rfl ?_
      refine g_on rfl rfl ?_
      refine g_q (qv_loadA (vs := (dCells k3 x3 i3 s3 (.slice p3 n3 c3) (.slice q3 o3 e3)).toList) rfl Try.isAgg32 Try.sizeOf32 (b := b4) (.tail _ (List.mem_append_left _ (List.mem_append_left _ (List.mem_append_left _ (List.mem_append_left _ m0))))) (fun _ _ h => by simpa using h)) rfl ?_
      refine g_on rfl rfl ?_
      refine g_q (qv_move rfl) rfl ?_
      refine g_on rfl rfl ?_
      refine g_i (iv_call (vs := [.agg (dCells k3 x3 i3 s3 (.slice p3 n3 c3) (.slice q3 o3 e3)), u]) Try.call14 ⟨rfl, rfl, trivial⟩ (is_any 3 3 (.tab _) _ _ m3' mu _ hd3 hu (fun x hx => by simp [hm3 x hx]) (fun x hx => by simp [hx]))) rfl ?_
      rintro _ _ ⟨rfl, m9, rfl⟩
      refine g_q (qv_pick_t rfl rfl) rfl ?_
      refine g_q (qv_move rfl) rfl ?_
      refine g_on rfl rfl ?_
      refine g_q (qv_loadA (vs := (dCells k6 x6 i6 s6 (.slice p6 n6 c6) (.slice q6 o6 e6)).toList) rfl Try.isAgg32 Try.sizeOf32 (b := b6) (List.mem_append_left _ m0) (fun _ _ h => by simpa using h)) rfl ?_
      refine g_on rfl rfl ?_
      refine g_q (qv_move rfl) rfl ?_
      refine g_on rfl rfl ?_
      refine g_i (iv_call (vs := [.agg (dCells k6 x6 i6 s6 (.slice p6 n6 c6) (.slice q6 o6 e6)), u]) Try.call14 ⟨rfl, rfl, trivial⟩ (is_any 3 3 (.tab _) _ _ m6' mu _ hd6 hu (fun x hx => by simp [hm6 x hx]) (fun x hx => by simp [hx]))) rfl ?_
      rintro _ _ ⟨rfl, m10, rfl⟩
      refine g_q (qv_pick_t rfl rfl) rfl ?_
      refine g_q (qv_assign rfl) rfl ?_
      refine g_nil ?_
      refine e_seq ?_
      refine c_ret ?_
      refine ?_
      exact e_ret1 (.inl rfl) Try.results4 rfl rfl
end Go.Proofs.Ytnnclcfklbeocaa

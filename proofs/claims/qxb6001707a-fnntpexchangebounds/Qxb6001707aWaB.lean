/-
  WALKS, B: Sub, Take, errors.New, the law's own helpers, Delay. Own work.
-/
import Derived.Test.Qxb6001707aWaA
namespace Go.Proofs.Qxb6001707a
open Go.Fw
set_option maxRecDepth 10000

theorem sv_ext {w w' : World} {b : Nat} {e : TypeId} {cs : List Value} (h : sv w b e cs) (hx : Ext w w') : sv w' b e cs := by
  have hl := h.lt
  obtain ⟨c, hc, r⟩ := h
  exact ⟨c, by rw [hx b hl]; exact hc, r⟩
/-- A difference, held to a Duration. -/
def sat (z : Int) : Int := max (-9223372036854775808) (min z 9223372036854775807)
theorem sub_plain {X Y M D : Int} (hM : IntKind.i64.wrap ((X / 1000000000 - Y / 1000000000) * 1000000000) = M) (hD : IntKind.i64.wrap (M + (X % 1000000000 - Y % 1000000000)) = D) :
    (-9223372036854775808 ≤ D ∧ D ≤ 9223372036854775807) ∧ (-9223372036854775808 ≤ X - Y → X - Y ≤ 9223372036854775807 → D = X - Y) := by
  rw [IntKind.wrap_i64] at hM hD
  omega

theorem sub_any (X Y : Int) (hX : -9223372036854775808 ≤ X ∧ X ≤ 9223372036854775807) (hY : -9223372036854775808 ≤ Y ∧ Y ≤ 9223372036854775807) (w : World) :
    Calls Try.prog 13 #[.agg (tm X).toArray, .agg (tm Y).toArray] w fun e w' => ∃ v, e = .returned v ∧ (v = .int .i64 (sat (X - Y)) ∧ Keeps w w' noB) := by
  refine enter1 (args := [_, _]) (R := fun v w' => v = .int .i64 (sat (X - Y)) ∧ Keeps w w' noB) Try.func13 rfl Try.ntmps13 Try.results13 rfl rfl ?_
  refine Cw_seq (Cw_region (by kernel_rfl) ?_)
  refine s_boxV (cs := tm X) rfl fun w1 hs1 hk1 hz1 => s_boxV (cs := tm Y) rfl fun w2 ht2 hk2 hz2 => s_assign (Fl_nil (th_n ?_))
  have hs2 := hs1.keep hk2 (fun h => h)
  have hk02 : Keeps w w2 noB := hk1.on hk2
  obtain ⟨bX, hbX⟩ : ∃ b, b = w.heap.size := ⟨_, rfl⟩
  obtain ⟨bY, hbY⟩ : ∃ b, b = w1.heap.size := ⟨_, rfl⟩
  rw [← hbX] at hs2 ⊢
  rw [← hbY] at ht2 ⊢
  refine Cw_seq (Cw_seq (Cw_region (by kernel_rfl) ?_))
  refine s_field rfl (by kernel_rfl) (s_load rfl (by kernel_rfl) (hs2.cell (k := 0) rfl) (s_field rfl (by kernel_rfl) (s_load rfl (by kernel_rfl) (ht2.cell (k := 0) rfl) (s_andAny rfl rfl (by omega) (by omega) fun c hc0 hc1 => Fl_val rfl (r_andTop rfl hc0 hc1) (Fl_val rfl (r_neqF rfl rfl rfl) (Fl_nil (th_n ?_)))))))
  refine Cw_false rfl rfl rfl (Cw_skip (th_n ?_))
  refine Cw_fr [(2, .pointer (some ⟨bX, 0, none⟩)), (3, .pointer (some ⟨bY, 0, none⟩))] ⟨rfl, rfl, trivial⟩ (fun g => ?_)
  obtain ⟨M, hM⟩ : ∃ M, IntKind.i64.wrap ((X / 1000000000 - Y / 1000000000) * 1000000000) = M := ⟨_, rfl⟩
  obtain ⟨D, hD⟩ : ∃ D, IntKind.i64.wrap (M + (X % 1000000000 - Y % 1000000000)) = D := ⟨_, rfl⟩
  obtain ⟨hDr, hDe⟩ := sub_plain hM hD
  refine Cw_seq (Cw_region (by kernel_rfl) ?_)
  refine s_cv (by kernel_rfl) rfl (sec_any hs2 (by omega) (by omega)) fun v3 w3 h3 => ?_
  obtain ⟨rfl, rfl⟩ := h3
  refine s_cv (by kernel_rfl) rfl (sec_any ht2 (by omega) (by omega)) fun v4 w4 h4 => ?_
  obtain ⟨rfl, rfl⟩ := h4
  refine Fl_val rfl (r_subZ rfl rfl (wrap_in64 (z := X / 1000000000 - Y / 1000000000) (by omega) (by omega))) (Fl_val rfl (r_mulZ rfl rfl hM) ?_)
  refine s_cv (by kernel_rfl) rfl (nsec_any hs2 (by omega) (by omega)) fun v5 w5 h5 => ?_
  obtain ⟨rfl, rfl⟩ := h5
  refine s_cv (by kernel_rfl) rfl (nsec_any ht2 (by omega) (by omega)) fun v6 w6 h6 => ?_
  obtain ⟨rfl, rfl⟩ := h6
  refine Fl_val rfl (r_subZ rfl rfl (wrap_in32 (z := X % 1000000000 - Y % 1000000000) (by omega) (by omega))) (Fl_val rfl (r_convZ rfl (by kernel_rfl) (by kernel_rfl) (wrap_in64 (z := X % 1000000000 - Y % 1000000000) (by omega) (by omega))) (Fl_val rfl (r_addZ rfl rfl hD) (s_assign (Fl_nil (th_n ?_)))))
  refine Cw_fr [(2, .pointer (some ⟨bX, 0, none⟩)), (3, .pointer (some ⟨bY, 0, none⟩)), (5, .int .i64 D)] ⟨rfl, rfl, rfl, trivial⟩ (fun g => ?_)
  refine Cw_block (Cw_seq (Cw_drawn [(0, 1), (1, 0), (3, 1), (2, 2), (4, 2), (5, 0)] [0, 1, 2, 3, 4, 5] (Ext w6) (by kernel_rfl) (by kernel_rfl) (by kernel_rfl) (by kernel_rfl) ?_))
  have hS : Ext w6 w6.drew := fun _ _ => rfl
  refine o1 rfl hS rfl (fun _ hw => r_loadV rfl (by kernel_rfl) (sv_ext ht2 hw)) (o0 rfl rfl (fun _ => r_move) (o1 rfl hS rfl (fun _ hw => r_loadV rfl (by kernel_rfl) (sv_ext hs2 hw)) (o2c rfl (by kernel_rfl) rfl (add_any Y D (by omega) hDr w6.drew) fun v7 w7 h7 => ?_)))
  obtain ⟨rfl, hk7⟩ := h7
  refine ⟨fun _ _ k hk => hk7.block k hk (fun h => h), ?_⟩
  refine o2c rfl (by kernel_rfl) rfl (equal_any (Y + D) X w7) fun v8 w8 h8 => ?_
  obtain ⟨rfl, hk8⟩ := h8
  have hk68 : Keeps w6 w8 noB := (Keeps.drew w6 noB).on (hk7.on hk8)
  refine ⟨fun _ _ k hk => hk68.block k hk (fun h => h), ?_⟩
  refine o0 rfl rfl (fun _ => r_assign) (Fo_nil (th_n ?_))
  have hs8 := hs2.keep hk68 (fun h => h)
  have ht8 := ht2.keep hk68 (fun h => h)
  refine Cw_cond rfl rfl (fun hb => ?_) (fun hb => ?_)
  · have hb := of_decide_eq_true hb
    refine Cw_seq (Cw_region (by kernel_rfl) ?_)
    refine s_move (s_assign (Fl_nil (th_n ?_)))
    refine Cw_ret ⟨?_, hk02.on hk68⟩
    show Value.int .i64 D = _
    have : sat (X - Y) = D := by unfold sat; omega
    rw [this]
  · have hb := of_decide_eq_false hb
    refine Cw_seq (Cw_region (by kernel_rfl) ?_)
    refine s_loadV rfl (by kernel_rfl) hs8 (s_loadV rfl (by kernel_rfl) ht8 (s_cv (by kernel_rfl) rfl (before_any X Y w8) fun v9 w9 h9 => ?_))
    obtain ⟨rfl, hk9⟩ := h9
    refine s_assign (Fl_nil (th_n ?_))
    refine Cw_cond rfl rfl (fun hb2 => ?_) (fun hb2 => ?_)
    · have hb2 := of_decide_eq_true hb2
      refine Cw_seq (Cw_region (by kernel_rfl) ?_)
      refine s_assign (Fl_nil (th_n ?_))
      refine Cw_ret ⟨?_, (hk02.on hk68).on hk9⟩
      show Value.int .i64 (-9223372036854775808) = _
      have : sat (X - Y) = -9223372036854775808 := by unfold sat; omega
      rw [this]
    · have hb2 := of_decide_eq_false hb2
      refine Cw_seq (Cw_region (by kernel_rfl) ?_)
      refine s_assign (Fl_nil (th_n ?_))
      refine Cw_ret ⟨?_, (hk02.on hk68).on hk9⟩
      show Value.int .i64 9223372036854775807 = _
      have : sat (X - Y) = 9223372036854775807 := by unfold sat; omega
      rw [this]

theorem min_if (a b : Int) : (if b < a then b else a) = min a b := by split <;> omega
theorem max_if (a b : Int) : (if a < b then b else a) = max a b := by split <;> omega

theorem take_any {w : World} {b : Nat} {e l d : Int} (hs : sv w b 41 [.int .i64 e, .int .i64 l]) (he : -9223372036854775808 ≤ e ∧ e ≤ 0) (hd : -9223372036854775808 ≤ d) :
    Calls Try.prog 14 #[.pointer (some ⟨b, 0, none⟩), .int .i64 d] w fun e' w' => ∃ v, e' = .returned v ∧ (((v = .bool false ∧ 9223372036854775807 + min e d ≤ max l d) ∨ (v = .bool true ∧ max l d < 9223372036854775807 + min e d ∧ sv w' b 41 [.int .i64 (min e d), .int .i64 (max l d)])) ∧ Keeps w w' (fun k => k = b)) := by
  refine enter1 (args := [_, _]) (R := fun v w' => ((v = .bool false ∧ 9223372036854775807 + min e d ≤ max l d) ∨ (v = .bool true ∧ max l d < 9223372036854775807 + min e d ∧ sv w' b 41 [.int .i64 (min e d), .int .i64 (max l d)])) ∧ Keeps w w' (fun k => k = b)) Try.func14 rfl Try.ntmps14 Try.results14 rfl rfl ?_
  refine Cw_seq (Cw_region (by kernel_rfl) ?_)
  refine s_assign (Fl_nil (th_n ?_))
  refine Cw_seq (Cw_drawn [(0, 0), (1, 0), (2, 0), (3, 1), (4, 0), (5, 0), (6, 0), (7, 0), (8, 0), (9, 1), (10, 0), (11, 0), (12, 0), (13, 0)] [0, 1, 2, 3, 4, 5, 6, 7, 8, 9, 10, 11, 12, 13] (Ext w) (by kernel_rfl) (by kernel_rfl) (by kernel_rfl) (by kernel_rfl) ?_)
  have hS : Ext w w.drew := fun _ _ => rfl
  refine o0 rfl rfl (fun _ => r_move) (o0 rfl rfl (fun _ => r_nilP rfl) (o0 rfl rfl (fun _ => r_field0 rfl (by kernel_rfl)) (o1 rfl hS rfl (fun _ hw => r_load rfl (by kernel_rfl) (hw.cell (hs.cell (k := 0) rfl))) (o0 rfl rfl (fun _ => r_move) (o0 rfl rfl (fun _ => r_min rfl rfl (min_if e d)) (o0 rfl rfl (fun _ => r_move) (o0 rfl rfl (fun _ => r_nilP rfl) (o0 rfl rfl (fun _ => r_field0 rfl (by kernel_rfl)) (o1 rfl hS rfl (fun _ hw => r_load rfl (by kernel_rfl) (hw.cell (hs.cell (k := 1) rfl))) (o0 rfl rfl (fun _ => r_move) (o0 rfl rfl (fun _ => r_max rfl rfl (max_if l d)) (o0 rfl rfl (fun _ => r_assign) (o0 rfl rfl (fun _ => r_assign) (Fo_nil (th_n ?_)))))))))))))))
  have hs1 : sv w.drew b 41 [.int .i64 e, .int .i64 l] := sv_ext hs hS
  have hk1 : Keeps w w.drew (fun k => k = b) := Keeps.drew w _
  refine Cw_fr [(0, .pointer (some ⟨b, 0, none⟩)), (5, .int .i64 (min e d)), (6, .int .i64 (max l d))] ⟨rfl, rfl, rfl, trivial⟩ (fun g => ?_)
  refine Cw_seq (Cw_seq (Cw_region (by kernel_rfl) ?_))
  refine s_move (s_move (Fl_val rfl (r_addZ rfl rfl (wrap_in64 (z := 9223372036854775807 + min e d) (by omega) (by omega))) (s_geq rfl rfl (Fl_nil (th_n ?_)))))
  refine Cw_cond rfl rfl (fun hb => ?_) (fun hb => ?_)
  · refine Cw_seq (Cw_region (by kernel_rfl) ?_)
    refine s_assign (Fl_nil (th_n ?_))
    exact Cw_ret ⟨.inl ⟨rfl, of_decide_eq_true hb⟩, hk1⟩
  refine Cw_skip (th_n ?_)
  refine Cw_seq (Cw_region (by kernel_rfl) ?_)
  refine s_move (s_move (s_move (s_move (s_nilP rfl (s_field rfl (by kernel_rfl) (s_storeK (cs' := [.int .i64 (min e d), .int .i64 l]) rfl rfl (by kernel_rfl) rfl hs1 (by show 0 < 2; omega) rfl fun w2 hs2 hk2 _ => ?_))))))
  refine s_nilP rfl (s_field rfl (by kernel_rfl) (s_storeK (cs' := [.int .i64 (min e d), .int .i64 (max l d)]) rfl rfl (by kernel_rfl) rfl hs2 (by show 1 < 2; omega) rfl fun w3 hs3 hk3 _ => Fl_nil (th_n ?_)))
  refine Cw_seq (Cw_region (by kernel_rfl) ?_)
  refine s_assign (Fl_nil (th_n ?_))
  refine Cw_ret ⟨.inr ⟨rfl, ?_, hs3⟩, (hk1.trans hk2 (fun _ _ h => h) (fun _ _ h => h)).trans hk3 (fun _ _ h => h) (fun _ _ h => h)⟩
  have := of_decide_eq_false hb
  omega

theorem new_any (s : ByteArray) (w : World) : Calls Try.prog 15 #[.string s] w fun e w' => ∃ v, e = .returned v ∧ ((∃ x, v = .iface 55 x) ∧ Keeps w w' noB) := by
  refine enter1 (args := [_]) (R := fun v w' => (∃ x, v = .iface 55 x) ∧ Keeps w w' noB) Try.func15 rfl Try.ntmps15 Try.results15 rfl rfl ?_
  refine Cw_seq (Cw_region (by kernel_rfl) ?_)
  refine s_assign (Fl_nil (th_n ?_))
  refine Cw_seq (Cw_region (by kernel_rfl) ?_)
  refine s_move (s_build (v := .agg #[.string s]) (by kernel_rfl) (s_box rfl (Fl_val rfl (r_mkIface rfl (by kernel_rfl)) (s_assign (Fl_nil (th_n ?_))))))
  exact Cw_ret ⟨⟨_, rfl⟩, Keeps.alloc w _ noB⟩
theorem mini_any (a b : Int) (w : World) : Calls Try.prog 5 #[.int .i64 a, .int .i64 b] w fun e w' => ∃ v, e = .returned v ∧ (v = .int .i64 (min a b) ∧ w' = w) := by
  refine enter1 (args := [_, _]) (R := fun v w' => v = .int .i64 (min a b) ∧ w' = w) Try.func5 rfl Try.ntmps5 Try.results5 rfl rfl ?_
  refine Cw_seq (Cw_region (by kernel_rfl) ?_)
  refine s_assign (Fl_nil (th_n ?_))
  refine Cw_seq (Cw_seq (Cw_region (by kernel_rfl) ?_))
  refine s_move (s_move (s_lss rfl rfl (Fl_nil (th_n ?_))))
  refine Cw_cond rfl rfl (fun hb => ?_) (fun hb => ?_)
  · have hb := of_decide_eq_true hb
    refine Cw_seq (Cw_region (by kernel_rfl) ?_)
    refine s_move (s_assign (Fl_nil (th_n ?_)))
    refine Cw_ret ⟨?_, rfl⟩
    rw [show min a b = a by omega]
    rfl
  · have hb := of_decide_eq_false hb
    refine Cw_skip (th_n ?_)
    refine Cw_seq (Cw_region (by kernel_rfl) ?_)
    refine s_move (s_assign (Fl_nil (th_n ?_)))
    refine Cw_ret ⟨?_, rfl⟩
    rw [show min a b = b by omega]
    rfl
theorem maxi_any (a b : Int) (w : World) : Calls Try.prog 6 #[.int .i64 a, .int .i64 b] w fun e w' => ∃ v, e = .returned v ∧ (v = .int .i64 (max a b) ∧ w' = w) := by
  refine enter1 (args := [_, _]) (R := fun v w' => v = .int .i64 (max a b) ∧ w' = w) Try.func6 rfl Try.ntmps6 Try.results6 rfl rfl ?_
  refine Cw_seq (Cw_region (by kernel_rfl) ?_)
  refine s_assign (Fl_nil (th_n ?_))
  refine Cw_seq (Cw_seq (Cw_region (by kernel_rfl) ?_))
  refine s_move (s_move (s_gtr rfl rfl (Fl_nil (th_n ?_))))
  refine Cw_cond rfl rfl (fun hb => ?_) (fun hb => ?_)
  · have hb := of_decide_eq_true hb
    refine Cw_seq (Cw_region (by kernel_rfl) ?_)
    refine s_move (s_assign (Fl_nil (th_n ?_)))
    refine Cw_ret ⟨?_, rfl⟩
    rw [show max a b = a by omega]
    rfl
  · have hb := of_decide_eq_false hb
    refine Cw_skip (th_n ?_)
    refine Cw_seq (Cw_region (by kernel_rfl) ?_)
    refine s_move (s_assign (Fl_nil (th_n ?_)))
    refine Cw_ret ⟨?_, rfl⟩
    rw [show max a b = b by omega]
    rfl
theorem fits_any (lo hi : Int) (hl : -9223372036854775808 ≤ lo) (hh : hi ≤ 9223372036854775807) (hle : lo ≤ hi) (w : World) : Calls Try.prog 7 #[.int .i64 lo, .int .i64 hi] w fun e w' => ∃ v, e = .returned v ∧ (v = .bool (decide (hi - lo < 9223372036854775807)) ∧ w' = w) := by
  refine enter1 (args := [_, _]) (R := fun v w' => v = .bool (decide (hi - lo < 9223372036854775807)) ∧ w' = w) Try.func7 rfl Try.ntmps7 Try.results7 rfl rfl ?_
  refine Cw_seq (Cw_region (by kernel_rfl) ?_)
  refine s_assign (Fl_nil (th_n ?_))
  refine Cw_seq (Cw_region (by kernel_rfl) ?_)
  refine s_move (Fl_val rfl (r_convZ rfl (by kernel_rfl) (by kernel_rfl) (IntKind.wrap_u64 hi)) (s_move (Fl_val rfl (r_convZ rfl (by kernel_rfl) (by kernel_rfl) (IntKind.wrap_u64 lo)) (Fl_val rfl (r_subZ (z := hi - lo) rfl rfl (by rw [IntKind.wrap_u64]; omega)) (s_lss rfl rfl (s_assign (Fl_nil (th_n ?_))))))))
  exact Cw_ret ⟨rfl, rfl⟩

/-- An exchange. -/
def exL (lo hi x1 x2 x3 x4 : Int) : List Value := .int .i64 lo :: .int .i64 hi :: (tm x1 ++ (tm x2 ++ (tm x3 ++ tm x4)))
theorem oc_ex (lo hi x1 x2 x3 x4 : Int) : ∀ v ∈ exL lo hi x1 x2 x3 x4, oc v = true := by
  intro v hv
  simp only [exL, List.mem_cons, List.mem_append] at hv
  rcases hv with rfl | rfl | hv | hv | hv | hv
  · rfl
  · rfl
  all_goals exact oc_tm _ v hv
theorem delay_any (lo hi x1 x2 x3 x4 : Int) (hr : -9223372036854775808 ≤ hi - lo ∧ hi - lo ≤ 9223372036854775807) (w : World) : Calls Try.prog 9 #[.agg (exL lo hi x1 x2 x3 x4).toArray] w fun e w' => ∃ v, e = .returned v ∧ (v = .int .i64 (hi - lo) ∧ Keeps w w' noB) := by
  refine enter1 (args := [_]) (R := fun v w' => v = .int .i64 (hi - lo) ∧ Keeps w w' noB) Try.func9 rfl Try.ntmps9 Try.results9 rfl rfl ?_
  refine Cw_seq (Cw_region (by kernel_rfl) ?_)
  refine s_boxV (cs := exL lo hi x1 x2 x3 x4) rfl fun w1 hs1 hk1 hz1 => s_assign (Fl_nil (th_n ?_))
  refine Cw_seq (Cw_region (by kernel_rfl) ?_)
  refine s_field rfl (by kernel_rfl) (s_load rfl (by kernel_rfl) (hs1.cell (k := 1) rfl) (s_field rfl (by kernel_rfl) (s_load rfl (by kernel_rfl) (hs1.cell (k := 0) rfl) (Fl_val rfl (r_subZ rfl rfl (wrap_in64 hr.1 hr.2)) (s_assign (Fl_nil (th_n ?_)))))))
  exact Cw_ret ⟨rfl, hk1⟩
end Go.Proofs.Qxb6001707a

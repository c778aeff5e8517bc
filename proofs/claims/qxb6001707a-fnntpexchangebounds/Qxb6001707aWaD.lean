/-
  WALKS, D: FnNTPExchangeBounds. Own work.
-/
import Derived.Test.Qxb6001707aWaC
namespace Go.Proofs.Qxb6001707a
open Go.Fw
set_option maxRecDepth 10000

theorem eqs_any (X : Int) (w : World) : Calls Try.prog 10 #[.agg (tm X).toArray, .agg (tm X).toArray] w fun e w' => ∃ v, e = .returned v ∧ (v = .bool true ∧ Keeps w w' noB) := by
  have h := equal_any X X w
  rw [decide_eq_true rfl] at h
  exact h
theorem ex_cells {w : World} {b : Nat} {lo hi x1 x2 x3 x4 : Int} (h : sv w b 31 (exL lo hi x1 x2 x3 x4)) :
    (∀ (j : Nat) v, (tm x1)[j]? = some v → w.cell? ⟨b, 2 + j, none⟩ = some v) ∧ (∀ (j : Nat) v, (tm x2)[j]? = some v → w.cell? ⟨b, 5 + j, none⟩ = some v) ∧
    (∀ (j : Nat) v, (tm x3)[j]? = some v → w.cell? ⟨b, 8 + j, none⟩ = some v) ∧ (∀ (j : Nat) v, (tm x4)[j]? = some v → w.cell? ⟨b, 11 + j, none⟩ = some v) := by
  have h3 : ∀ (X : Int) (j : Nat) (v : Value), (tm X)[j]? = some v → j < 3 := fun X j v hv => (List.getElem?_eq_some_iff.1 hv).1
  refine ⟨fun j v hv => ?_, fun j v hv => ?_, fun j v hv => ?_, fun j v hv => ?_⟩
  all_goals
    refine h.cell ?_
    have hj := h3 _ j v hv
    match j, hj with
    | 0, _ => exact hv
    | 1, _ => exact hv
    | 2, _ => exact hv

set_option maxHeartbeats 1000000 in
theorem f3_any (x1 x2 x3 x4 : Int) (h1 : In64 x1) (h2 : In64 x2) (h3 : In64 x3) (h4 : In64 x4) (w : World) :
    Calls Try.prog 3 #[.int .i64 x1, .int .i64 x2, .int .i64 x3, .int .i64 x4] w fun e w' => ∃ v, e = .returned v ∧ (v = .bool true ∧ Keeps w w' noB) := by
  refine enter1 (args := [_, _, _, _]) (R := fun v w' => v = .bool true ∧ Keeps w w' noB) Try.func3 rfl Try.ntmps3 Try.results3 rfl rfl ?_
  have g1 := h1
  have g2 := h2
  have g3 := h3
  have g4 := h4
  unfold In64 at g1 g2 g3 g4
  refine Cw_seq (Cw_region (by kernel_rfl) ?_)
  refine s_assign (Fl_nil (th_n ?_))
  refine Cw_seq (Cw_region (by kernel_rfl) ?_)
  refine s_move (s_cv (by kernel_rfl) rfl (at_any x1 h1 w) fun v1 w1 q1 => ?_)
  obtain ⟨rfl, hk1⟩ := q1
  refine s_move (s_cv (by kernel_rfl) rfl (at_any x2 h2 w1) fun v2 w2 q2 => ?_)
  obtain ⟨rfl, hk2⟩ := q2
  refine s_move (s_cv (by kernel_rfl) rfl (at_any x3 h3 w2) fun v3 w3 q3 => ?_)
  obtain ⟨rfl, hk3⟩ := q3
  refine s_move (s_cv (by kernel_rfl) rfl (at_any x4 h4 w3) fun v4 w4 q4 => ?_)
  obtain ⟨rfl, hk4⟩ := q4
  have hk04 : Keeps w w4 noB := hk1.on (hk2.on (hk3.on hk4))
  have hz04 := hk04.size
  refine s_allocV (cs := tm 0) (by kernel_rfl) fun w5 k9 hk5 hz5 => s_allocV (cs := tm 0) (by kernel_rfl) fun w6 k10 hk6 hz6 => s_allocV (cs := tm 0) (by kernel_rfl) fun w7 k11 hk7 hz7 => s_allocV (cs := tm 0) (by kernel_rfl) fun w8 k12 hk8 hz8 => ?_
  replace k9 := k9.keep (hk6.on (hk7.on hk8)) (fun h => h)
  replace k10 := k10.keep (hk7.on hk8) (fun h => h)
  replace k11 := k11.keep hk8 (fun h => h)
  refine s_storeV (cs := tm 0) (cs' := tm x1) rfl rfl (by kernel_rfl) rfl (oc_tm _) k9 fun w9 j9 hk9 hz9 => s_storeV (cs := tm 0) (cs' := tm x2) rfl rfl (by kernel_rfl) rfl (oc_tm _) (k10.keep hk9 (by omega)) fun w10 j10 hk10 hz10 => s_storeV (cs := tm 0) (cs' := tm x3) rfl rfl (by kernel_rfl) rfl (oc_tm _) ((k11.keep hk9 (by omega)).keep hk10 (by omega)) fun w11 j11 hk11 hz11 => s_storeV (cs := tm 0) (cs' := tm x4) rfl rfl (by kernel_rfl) rfl (oc_tm _) (((k12.keep hk9 (by omega)).keep hk10 (by omega)).keep hk11 (by omega)) fun w12 j12 hk12 hz12 => Fl_nil (th_n ?_)
  replace j9 := ((j9.keep hk10 (by omega)).keep hk11 (by omega)).keep hk12 (by omega)
  replace j10 := (j10.keep hk11 (by omega)).keep hk12 (by omega)
  replace j11 := j11.keep hk12 (by omega)
  have hk012 : Keeps w w12 noB := ((((hk04.on (hk5.on (hk6.on (hk7.on hk8)))).into (b := w4.heap.size) (by omega) hk9).into (b := w5.heap.size) (by omega) hk10).into (b := w6.heap.size) (by omega) hk11).into (b := w7.heap.size) (by omega) hk12
  obtain ⟨b9, hb9⟩ : ∃ b, b = w4.heap.size := ⟨_, rfl⟩
  obtain ⟨b10, hb10⟩ : ∃ b, b = w5.heap.size := ⟨_, rfl⟩
  obtain ⟨b11, hb11⟩ : ∃ b, b = w6.heap.size := ⟨_, rfl⟩
  obtain ⟨b12, hb12⟩ : ∃ b, b = w7.heap.size := ⟨_, rfl⟩
  rw [← hb9] at j9 ⊢
  rw [← hb10] at j10 ⊢
  rw [← hb11] at j11 ⊢
  rw [← hb12] at j12 ⊢
  clear hk1 hk2 hk3 hk4 hk5 hk6 hk7 hk8 hk9 hk10 hk11 hk12 k9 k10 k11 k12 hz5 hz6 hz7 hz8 hz9 hz10 hz11 hz12 hb9 hb10 hb11 hb12 hk04 hz04
  refine Cw_fr [(0, .int .i64 x1), (1, .int .i64 x2), (2, .int .i64 x3), (3, .int .i64 x4), (9, .pointer (some ⟨b9, 0, none⟩)), (10, .pointer (some ⟨b10, 0, none⟩)), (11, .pointer (some ⟨b11, 0, none⟩)), (12, .pointer (some ⟨b12, 0, none⟩))] ⟨rfl, rfl, rfl, rfl, rfl, rfl, rfl, rfl, trivial⟩ (fun g => ?_)
  refine Cw_seq (Cw_region (by kernel_rfl) ?_)
  refine s_move (s_move (s_cv (by kernel_rfl) rfl (mini_any x1 x2 w12) fun v13 w13 q13 => ?_))
  obtain ⟨rfl, rfl⟩ := q13
  refine s_move (s_move (s_cv (by kernel_rfl) rfl (mini_any x3 x4 w13) fun v14 w14 q14 => ?_))
  obtain ⟨rfl, rfl⟩ := q14
  refine s_cv (by kernel_rfl) rfl (mini_any (min x1 x2) (min x3 x4) w14) fun v15 w15 q15 => ?_
  obtain ⟨rfl, rfl⟩ := q15
  refine s_assign (Fl_nil (th_n ?_))
  refine Cw_seq (Cw_region (by kernel_rfl) ?_)
  refine s_move (s_move (s_cv (by kernel_rfl) rfl (maxi_any x1 x2 w15) fun v13 w13 q13 => ?_))
  obtain ⟨rfl, rfl⟩ := q13
  refine s_move (s_move (s_cv (by kernel_rfl) rfl (maxi_any x3 x4 w13) fun v14 w14 q14 => ?_))
  obtain ⟨rfl, rfl⟩ := q14
  refine s_cv (by kernel_rfl) rfl (maxi_any (max x1 x2) (max x3 x4) w14) fun v15 w15 q15 => ?_
  obtain ⟨rfl, rfl⟩ := q15
  refine s_assign (Fl_nil (th_n ?_))
  -- what the law takes for acceptance
  refine Cw_fr [(0, .int .i64 x1), (1, .int .i64 x2), (2, .int .i64 x3), (3, .int .i64 x4), (9, .pointer (some ⟨b9, 0, none⟩)), (10, .pointer (some ⟨b10, 0, none⟩)), (11, .pointer (some ⟨b11, 0, none⟩)), (12, .pointer (some ⟨b12, 0, none⟩)), (13, .int .i64 (min (min x1 x2) (min x3 x4))), (14, .int .i64 (max (max x1 x2) (max x3 x4)))] ⟨rfl, rfl, rfl, rfl, rfl, rfl, rfl, rfl, rfl, rfl, trivial⟩ (fun g => ?_)
  refine Cw_seq (Cw_meet (fun f' w' => w' = w15 ∧ ∃ g acc, f' = sets [(0, .int .i64 x1), (1, .int .i64 x2), (2, .int .i64 x3), (3, .int .i64 x4), (9, .pointer (some ⟨b9, 0, none⟩)), (10, .pointer (some ⟨b10, 0, none⟩)), (11, .pointer (some ⟨b11, 0, none⟩)), (12, .pointer (some ⟨b12, 0, none⟩)), (15, .bool acc)] g ∧ (acc = true ↔ Acc x1 x2 x3 x4)) ?_ ?_)
  · refine Cw_region (by kernel_rfl) ?_
    have hf := fits_any (min (min x1 x2) (min x3 x4)) (max (max x1 x2) (max x3 x4)) (by omega) (by omega) (by omega) w15
    by_cases hA : max (max x1 x2) (max x3 x4) - min (min x1 x2) (min x3 x4) < 9223372036854775807
    · rw [decide_eq_true hA] at hf
      refine s_move (s_move (s_cv (by kernel_rfl) rfl hf fun v16 w16 q16 => ?_))
      obtain ⟨rfl, rfl⟩ := q16
      by_cases hB : x2 ≤ x3
      · refine s_move (Fl_val rfl r_move (Fl_val rfl r_move (Fl_val rfl (r_leqB rfl rfl (decide_eq_true hB)) (s_pick rfl (s_move (Fl_val rfl r_move (Fl_val rfl r_move (Fl_val rfl (r_subZ rfl rfl (wrap_in64 (z := x3 - x2) (by omega) (by omega))) (Fl_val rfl r_move (Fl_val rfl r_move (Fl_val rfl (r_subZ rfl rfl (wrap_in64 (z := x4 - x1) (by omega) (by omega))) (Fl_val rfl (r_leq rfl rfl) (s_pick rfl (s_assign (Fl_nil (th_n ?_))))))))))))))))
        exact ⟨rfl, _, decide (x3 - x2 ≤ x4 - x1), sets_known ⟨rfl, rfl, rfl, rfl, rfl, rfl, rfl, rfl, rfl, trivial⟩, ⟨fun h => ⟨hA, hB, of_decide_eq_true h⟩, fun h => decide_eq_true h.2.2⟩⟩
      · refine s_move (Fl_val rfl r_move (Fl_val rfl r_move (Fl_val rfl (r_leqB rfl rfl (decide_eq_false hB)) (s_pick rfl (s_move (Fl_pass rfl (Fl_pass rfl (Fl_pass rfl (Fl_pass rfl (Fl_pass rfl (Fl_pass rfl (Fl_pass rfl (s_pick rfl (s_assign (Fl_nil (th_n ?_))))))))))))))))
        exact ⟨rfl, _, false, sets_known ⟨rfl, rfl, rfl, rfl, rfl, rfl, rfl, rfl, rfl, trivial⟩, ⟨(fun h => by cases h), fun h => absurd h.2.1 hB⟩⟩
    · rw [decide_eq_false hA] at hf
      refine s_move (s_move (s_cv (by kernel_rfl) rfl hf fun v16 w16 q16 => ?_))
      obtain ⟨rfl, rfl⟩ := q16
      refine s_move (Fl_pass rfl (Fl_pass rfl (Fl_pass rfl (s_pick rfl (s_move (Fl_pass rfl (Fl_pass rfl (Fl_pass rfl (Fl_pass rfl (Fl_pass rfl (Fl_pass rfl (Fl_pass rfl (s_pick rfl (s_assign (Fl_nil (th_n ?_))))))))))))))))
      exact ⟨rfl, _, false, sets_known ⟨rfl, rfl, rfl, rfl, rfl, rfl, rfl, rfl, rfl, trivial⟩, ⟨(fun h => by cases h), fun h => absurd h.1 hA⟩⟩
  rintro f' w' ⟨rfl, g, acc, rfl, hacc⟩
  refine Cw_seq (Cw_region (by kernel_rfl) ?_)
  refine s_loadV rfl (by kernel_rfl) j9 (s_loadV rfl (by kernel_rfl) j10 (s_loadV rfl (by kernel_rfl) j11 (s_loadV rfl (by kernel_rfl) j12 (s_cv (by kernel_rfl) rfl (ntp_any x1 x2 x3 x4 h1 h2 h3 h4 w') fun v16 w16 q16 => ?_))))
  obtain ⟨q16, hk16⟩ := q16
  have hk016 : Keeps w w16 noB := hk012.on hk16
  have hz016 := hk016.size
  rcases q16 with ⟨⟨x, rfl⟩, hna⟩ | ⟨rfl, hA⟩
  · -- refused
    obtain rfl : acc = false := by
      cases acc with
      | true => exact absurd (hacc.1 rfl) hna
      | false => rfl
    refine s_move (s_extract rfl rfl (s_extract rfl rfl (s_allocV (cs := exL 0 0 0 0 0 0) (by kernel_rfl) fun w17 hs17 hk17 hz17 => s_storeV (cs := exL 0 0 0 0 0 0) (cs' := exL 0 0 0 0 0 0) rfl rfl (by kernel_rfl) rfl (oc_ex _ _ _ _ _ _) hs17 fun w18 hs18 hk18 hz18 => s_assign (Fl_nil (th_n ?_)))))
    have hk018 : Keeps w w18 noB := (hk016.on hk17).into (b := w16.heap.size) (by omega) hk18
    refine Cw_seq (Cw_seq (Cw_region (by kernel_rfl) ?_))
    refine s_move (Fl_val rfl (r_eqlHeld (by kernel_rfl) rfl) (s_move (Fl_val rfl (r_neqBB (by kernel_rfl) rfl rfl (c := false) rfl) (Fl_nil (th_n ?_)))))
    refine Cw_false rfl rfl rfl (Cw_skip (th_n ?_))
    refine Cw_seq (Cw_seq (Cw_region (by kernel_rfl) ?_))
    refine s_move (Fl_val rfl (r_neqHeld (by kernel_rfl) rfl) (Fl_nil (th_n ?_)))
    refine Cw_true rfl rfl rfl (Cw_seq (Cw_region (by kernel_rfl) ?_))
    refine s_assign (Fl_nil (th_n ?_))
    exact Cw_ret ⟨rfl, hk018⟩
  -- accepted
  obtain rfl : acc = true := hacc.2 hA
  obtain ⟨a1, a2, a3⟩ := hA
  refine s_move (s_extract rfl rfl (s_extract rfl rfl (s_allocV (cs := exL 0 0 0 0 0 0) (by kernel_rfl) fun w17 hs17 hk17 hz17 => s_storeV (cs := exL 0 0 0 0 0 0) (cs' := exL (x3 - x4) (x2 - x1) x1 x2 x3 x4) rfl rfl (by kernel_rfl) rfl (oc_ex _ _ _ _ _ _) hs17 fun w18 hs18 hk18 hz18 => s_assign (Fl_nil (th_n ?_)))))
  obtain ⟨b16, hb16⟩ : ∃ b, b = w16.heap.size := ⟨_, rfl⟩
  have hk018 : Keeps w w18 noB := (hk016.on hk17).into (b := w16.heap.size) (by omega) hk18
  have hk1618 : Keeps w16 w18 noB := hk17.into (b := w16.heap.size) (by omega) hk18
  rw [← hb16] at hs18 ⊢
  have t9 := j9.keep (hk16.on hk1618) (fun h => h)
  have t10 := j10.keep (hk16.on hk1618) (fun h => h)
  have t11 := j11.keep (hk16.on hk1618) (fun h => h)
  have t12 := j12.keep (hk16.on hk1618) (fun h => h)
  refine Cw_fr [(0, .int .i64 x1), (1, .int .i64 x2), (2, .int .i64 x3), (3, .int .i64 x4), (9, .pointer (some ⟨b9, 0, none⟩)), (10, .pointer (some ⟨b10, 0, none⟩)), (11, .pointer (some ⟨b11, 0, none⟩)), (12, .pointer (some ⟨b12, 0, none⟩)), (15, .bool true), (16, .pointer (some ⟨b16, 0, none⟩)), (17, .nilIface)] ⟨rfl, rfl, rfl, rfl, rfl, rfl, rfl, rfl, rfl, rfl, rfl, trivial⟩ (fun g => ?_)
  refine Cw_seq (Cw_seq (Cw_region (by kernel_rfl) ?_))
  refine s_move (Fl_val rfl (r_eqlNil (by kernel_rfl) rfl) (s_move (Fl_val rfl (r_neqBB (by kernel_rfl) rfl rfl (c := false) rfl) (Fl_nil (th_n ?_)))))
  refine Cw_false rfl rfl rfl (Cw_skip (th_n ?_))
  refine Cw_seq (Cw_seq (Cw_region (by kernel_rfl) ?_))
  refine s_move (Fl_val rfl (r_neqNil (by kernel_rfl) rfl) (Fl_nil (th_n ?_)))
  refine Cw_false rfl rfl rfl (Cw_skip (th_n ?_))
  refine Cw_seq (Cw_region (by kernel_rfl) ?_)
  refine s_move (s_move (Fl_val rfl (r_subZ rfl rfl (wrap_in64 (z := x4 - x1) (by omega) (by omega))) (s_move (s_move (Fl_val rfl (r_subZ rfl rfl (wrap_in64 (z := x3 - x2) (by omega) (by omega))) (Fl_val rfl (r_subZ rfl rfl (wrap_in64 (z := x4 - x1 - (x3 - x2)) (by omega) (by omega))) (s_assign (Fl_nil (th_n ?_)))))))))
  refine Cw_fr [(0, .int .i64 x1), (1, .int .i64 x2), (2, .int .i64 x3), (3, .int .i64 x4), (9, .pointer (some ⟨b9, 0, none⟩)), (10, .pointer (some ⟨b10, 0, none⟩)), (11, .pointer (some ⟨b11, 0, none⟩)), (12, .pointer (some ⟨b12, 0, none⟩)), (16, .pointer (some ⟨b16, 0, none⟩)), (18, .int .i64 (x4 - x1 - (x3 - x2)))] ⟨rfl, rfl, rfl, rfl, rfl, rfl, rfl, rfl, rfl, rfl, trivial⟩ (fun g => ?_)
  refine Cw_seq (Cw_region (by kernel_rfl) ?_)
  refine s_field rfl (by kernel_rfl) (s_load rfl (by kernel_rfl) (hs18.cell (k := 0) rfl) (s_move (s_move (Fl_val rfl (r_subZ rfl rfl (wrap_in64 (z := x3 - x4) (by omega) (by omega))) (Fl_val rfl (r_eqlT rfl rfl rfl) (s_move ?_))))))
  refine Fl_val rfl (r_field0 rfl (by kernel_rfl)) (Fl_val rfl (r_load rfl (by kernel_rfl) (hs18.cell (k := 1) rfl)) (Fl_val rfl r_move (Fl_val rfl r_move (Fl_val rfl (r_subZ rfl rfl (wrap_in64 (z := x2 - x1) (by omega) (by omega))) (Fl_val rfl (r_eqlT rfl rfl rfl) (s_pick rfl (s_move ?_)))))))
  refine Fl_fr [(9, .pointer (some ⟨b9, 0, none⟩)), (10, .pointer (some ⟨b10, 0, none⟩)), (11, .pointer (some ⟨b11, 0, none⟩)), (12, .pointer (some ⟨b12, 0, none⟩)), (16, .pointer (some ⟨b16, 0, none⟩)), (18, .int .i64 (x4 - x1 - (x3 - x2))), (93, .bool true)] ⟨rfl, rfl, rfl, rfl, rfl, rfl, rfl, trivial⟩ (fun g => ?_)
  refine Fl_val rfl (r_loadV rfl (by kernel_rfl) hs18) (s_cvg rfl (by kernel_rfl) rfl (delay_any (x3 - x4) (x2 - x1) x1 x2 x3 x4 (by omega) w18) fun v19 w19 q19 => ?_)
  obtain ⟨rfl, hk19⟩ := q19
  have hs19 := hs18.keep hk19 (fun h => h)
  refine Fl_val rfl r_move (Fl_val rfl (r_eqlT rfl rfl (show x2 - x1 - (x3 - x4) = x4 - x1 - (x3 - x2) by omega)) (s_pick rfl (s_move ?_)))
  refine Fl_val rfl (r_field0 rfl (by kernel_rfl)) (Fl_val rfl (r_load rfl (by kernel_rfl) (hs19.cell (k := 0) rfl)) (Fl_val rfl (r_field0 rfl (by kernel_rfl)) (Fl_val rfl (r_load rfl (by kernel_rfl) (hs19.cell (k := 1) rfl)) (Fl_val rfl (r_leqB rfl rfl (decide_eq_true (show x3 - x4 ≤ x2 - x1 by omega))) (s_pick rfl (s_move ?_))))))
  refine Fl_fr [(9, .pointer (some ⟨b9, 0, none⟩)), (10, .pointer (some ⟨b10, 0, none⟩)), (11, .pointer (some ⟨b11, 0, none⟩)), (12, .pointer (some ⟨b12, 0, none⟩)), (16, .pointer (some ⟨b16, 0, none⟩)), (106, .bool true)] ⟨rfl, rfl, rfl, rfl, rfl, rfl, trivial⟩ (fun g => ?_)
  refine Fl_val rfl (r_field0 (off := 2) rfl (by kernel_rfl)) (Fl_val rfl (r_loadA (cs := tm x1) rfl (by kernel_rfl) (ex_cells hs19).1) (Fl_val rfl (r_loadV rfl (by kernel_rfl) (t9.keep hk19 (fun h => h))) (s_cvg rfl (by kernel_rfl) rfl (eqs_any x1 w19) fun v20 w20 q20 => ?_)))
  obtain ⟨rfl, hk20⟩ := q20
  have hk1820 := hk19.on hk20
  have hs20 := hs18.keep hk1820 (fun h => h)
  refine s_pick rfl (s_move (Fl_val rfl (r_field0 (off := 5) rfl (by kernel_rfl)) (Fl_val rfl (r_loadA (cs := tm x2) rfl (by kernel_rfl) (ex_cells hs20).2.1) (Fl_val rfl (r_loadV rfl (by kernel_rfl) (t10.keep hk1820 (fun h => h))) (s_cvg rfl (by kernel_rfl) rfl (eqs_any x2 w20) fun v21 w21 q21 => ?_)))))
  obtain ⟨rfl, hk21⟩ := q21
  have hk1821 := hk1820.on hk21
  have hs21 := hs18.keep hk1821 (fun h => h)
  refine s_pick rfl (s_move ?_)
  refine Fl_fr [(11, .pointer (some ⟨b11, 0, none⟩)), (12, .pointer (some ⟨b12, 0, none⟩)), (16, .pointer (some ⟨b16, 0, none⟩)), (118, .bool true)] ⟨rfl, rfl, rfl, rfl, trivial⟩ (fun g => ?_)
  refine Fl_val rfl (r_field0 (off := 8) rfl (by kernel_rfl)) (Fl_val rfl (r_loadA (cs := tm x3) rfl (by kernel_rfl) (ex_cells hs21).2.2.1) (Fl_val rfl (r_loadV rfl (by kernel_rfl) (t11.keep hk1821 (fun h => h))) (s_cvg rfl (by kernel_rfl) rfl (eqs_any x3 w21) fun v22 w22 q22 => ?_)))
  obtain ⟨rfl, hk22⟩ := q22
  have hk1822 := hk1821.on hk22
  have hs22 := hs18.keep hk1822 (fun h => h)
  refine s_pick rfl (s_move (Fl_val rfl (r_field0 (off := 11) rfl (by kernel_rfl)) (Fl_val rfl (r_loadA (cs := tm x4) rfl (by kernel_rfl) (ex_cells hs22).2.2.2) (Fl_val rfl (r_loadV rfl (by kernel_rfl) (t12.keep hk1822 (fun h => h))) (s_cvg rfl (by kernel_rfl) rfl (eqs_any x4 w22) fun v23 w23 q23 => ?_)))))
  obtain ⟨rfl, hk23⟩ := q23
  refine s_pick rfl (s_assign (Fl_nil (th_n ?_)))
  exact Cw_ret ⟨rfl, hk018.on (hk1822.on hk23)⟩
end Go.Proofs.Qxb6001707a

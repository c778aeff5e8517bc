/-
  WALKS, A: add, multiply, zzCliqueClosedForm. Own work.
-/
import Derived.Test.Qxb6000043aProg
import Derived.Test.Qxb6000043aFwE
import Derived.Test.Qxb6000043aPlA
namespace Go.Proofs.Qxb6000043a
open Go.Fw Go.Proofs.Qxb6000043a.Pl
set_option maxRecDepth 10000

/-- (*stepBound).add: what is past the limit is cut at limit + 1. -/
theorem add_any (B : Nat) (x y l : Nat) (w : World) (hl : w.cell? ⟨B, 2, none⟩ = some (.int .i64 (l : Int))) (h1 : l < 9223372036854775807) (_hx : x ≤ l + 1) (hy' : y ≤ l + 1) :
    Calls Try.prog 43 #[.pointer (some ⟨B, 0, none⟩), .int .i64 (x : Int), .int .i64 (y : Int)] w fun e w' => ∃ v, e = .returned v ∧ (v = .int .i64 ((min (l + 1) (x + y) : Nat) : Int) ∧ w' = w) := by
  refine enter1 (args := [_, _, _]) (R := fun v w' => v = .int .i64 ((min (l + 1) (x + y) : Nat) : Int) ∧ w' = w) Try.func43 rfl Try.ntmps43 Try.results43 rfl rfl ?_
  refine Cw_seq (Cw_region (by kernel_rfl) ?_)
  refine s_assign (Fl_nil (th_n ?_))
  refine Cw_seq (Cw_seq (Cw_region (by kernel_rfl) ?_))
  refine s_move (s_nilP rfl (s_field rfl (by kernel_rfl) (s_load rfl (by kernel_rfl) hl (s_add rfl rfl (by omega) (s_assign (Fl_nil (th_n ?_)))))))
  refine Cw_seq (Cw_region (by kernel_rfl) ?_)
  refine s_move (s_move (s_move (s_sub rfl rfl (by omega) (s_gtr rfl rfl (Fl_nil (th_n ?_))))))
  refine Cw_cond rfl rfl (fun hb => ?_) (fun hb => ?_)
  · have hb' := of_decide_eq_true hb
    refine Cw_seq (Cw_region (by kernel_rfl) ?_)
    refine s_move (s_assign (Fl_nil (th_n ?_)))
    refine Cw_ret ?_
    have e : ((l : Int) + 1) = ((min (l + 1) (x + y) : Nat) : Int) := by omega
    exact ⟨congrArg (Value.int .i64) e, rfl⟩
  · have hb' := of_decide_eq_false hb
    refine Cw_skip (th_n ?_)
    refine Cw_seq (Cw_region (by kernel_rfl) ?_)
    refine s_move (s_move (s_add rfl rfl (by omega) (s_assign (Fl_nil (th_n ?_)))))
    refine Cw_ret ?_
    have e : ((x : Int) + y) = ((min (l + 1) (x + y) : Nat) : Int) := by omega
    exact ⟨congrArg (Value.int .i64) e, rfl⟩

theorem lt_of_div {m f p : Nat} (hf : 1 ≤ f) (h : ((m : Int) / (f : Int)) < (p : Int)) : m < p * f := by
  have h' : m / f < p := by
    have : ((m / f : Nat) : Int) < (p : Int) := by rw [Int.natCast_ediv]; exact h
    omega
  rwa [Nat.div_lt_iff_lt_mul (by omega)] at h'
theorem le_of_div {m f p : Nat} (hf : 1 ≤ f) (h : ¬ ((m : Int) / (f : Int)) < (p : Int)) : p * f ≤ m := by
  have h' : p ≤ m / f := by
    have : ¬ ((m / f : Nat) : Int) < (p : Int) := by rw [Int.natCast_ediv]; exact h
    omega
  rwa [Nat.le_div_iff_mul_le (by omega)] at h'

/-- zzCliqueClosedForm. -/
theorem closed_any (k limit : Nat) (w : World) (hk : 1 ≤ k) (hk' : k ≤ 500) (hl : limit < 9223372036854775807) :
    Calls Try.prog 17 #[.int .i64 (k : Int), .int .i64 (limit : Int)] w fun e w' => ∃ v, e = .returned v ∧ (v = .int .i64 ((min (limit + 1) (bs k k) : Nat) : Int) ∧ w' = w) := by
  refine enter1 (args := [_, _]) (R := fun v w' => v = .int .i64 ((min (limit + 1) (bs k k) : Nat) : Int) ∧ w' = w) Try.func17 rfl Try.ntmps17 Try.results17 rfl rfl ?_
  refine Cw_seq (Cw_region (by kernel_rfl) ?_)
  refine s_assign (Fl_nil (th_n ?_))
  refine Cw_seq (Cw_region (by kernel_rfl) ?_)
  refine s_move (s_add rfl rfl (by omega) (s_assign (Fl_nil (th_n ?_))))
  refine Cw_seq (Cw_region (by kernel_rfl) ?_)
  refine s_assign (Fl_nil (th_n ?_))
  refine Cw_seq (Cw_seq (Cw_region (by kernel_rfl) ?_))
  refine s_assign (Fl_nil (th_n ?_))
  refine Cw_block ?_
  -- the outer loop
  refine Cw_loop (fun m f w' => ∃ g j, f = sets [(0, .int .i64 (k : Int)), (5, .int .i64 ((limit + 1 : Nat) : Int)), (6, .int .i64 ((bs k (j - 1) : Nat) : Int)), (7, .int .i64 ((j : Nat) : Int))] g ∧
    2 ≤ j ∧ j ≤ k + 1 ∧ bs k (j - 1) < limit + 1 ∧ m = k + 1 - j ∧ w = w') (k + 1 - 2) ⟨_, 2, sets_known ⟨rfl, rfl, rfl, rfl, trivial⟩, by omega, by omega, by simp [bs], rfl, rfl⟩ ?_
  rintro m f w' ⟨g, j, rfl, hj2, hjk, htot, rfl, rfl⟩
  refine Cw_seq (Cw_seq (Cw_region (by kernel_rfl) ?_))
  refine s_move (s_move (s_leq rfl rfl (Fl_nil (th_n ?_))))
  refine Cw_cond rfl rfl (fun hb => ?_) (fun hb => ?_)
  · have hb' := of_decide_eq_true hb
    refine Cw_skip (th_n ?_)
    refine Cw_seq (Cw_block ?_)
    refine Cw_seq (Cw_region (by kernel_rfl) ?_)
    refine s_assign (Fl_nil (th_n ?_))
    refine Cw_seq (Cw_seq (Cw_region (by kernel_rfl) ?_))
    refine s_assign (Fl_nil (th_n ?_))
    refine Cw_block ?_
    -- the inner loop
    refine Cw_loop (fun m f w' => ∃ g t, f = sets [(0, .int .i64 (k : Int)), (5, .int .i64 ((limit + 1 : Nat) : Int)), (6, .int .i64 ((bs k (j - 1) : Nat) : Int)), (7, .int .i64 ((j : Nat) : Int)), (8, .int .i64 ((ff k t : Nat) : Int)), (9, .int .i64 ((t : Nat) : Int))] g ∧
      t ≤ j ∧ ff k t ≤ limit + 1 ∧ m = j - t ∧ w = w') (j - 0) ⟨_, 0, sets_known ⟨rfl, rfl, rfl, rfl, rfl, rfl, trivial⟩, by omega, by simp [ff], rfl, rfl⟩ ?_
    rintro m f w' ⟨g, t, rfl, htj, hff, rfl, rfl⟩
    refine Cw_seq (Cw_seq (Cw_region (by kernel_rfl) ?_))
    refine s_move (s_move (s_lss rfl rfl (Fl_nil (th_n ?_))))
    refine Cw_cond rfl rfl (fun hc => ?_) (fun hc => ?_)
    · have hc' := of_decide_eq_true hc
      refine Cw_skip (th_n ?_)
      refine Cw_seq (Cw_block ?_)
      refine Cw_seq (Cw_region (by kernel_rfl) ?_)
      refine s_move (s_move (s_sub rfl rfl (by omega) (s_assign (Fl_nil (th_n ?_)))))
      have ef : ((k : Int) - (t : Int)) = ((k - t : Nat) : Int) := by omega
      refine Cw_seq (Cw_seq (Cw_region (by kernel_rfl) ?_))
      refine s_move (s_move (s_move (s_quo rfl rfl (by omega) (by omega) (by omega) (s_gtr rfl rfl (Fl_nil (th_n ?_))))))
      refine Cw_cond rfl rfl (fun hd => ?_) (fun hd => ?_)
      · have hd' := of_decide_eq_true hd
        rw [ef] at hd'
        have hd2 := lt_of_div (by omega) hd'
        refine Cw_seq (Cw_region (by kernel_rfl) ?_)
        refine s_move (s_assign (Fl_nil (th_n ?_)))
        refine Cw_ret ?_
        have hp : limit + 1 ≤ bs k k := past_ff k j (t + 1) (limit + 1) hj2 (by omega) (by omega) (by simp only [ff]; omega)
        have e : ((limit + 1 : Nat) : Int) = ((min (limit + 1) (bs k k) : Nat) : Int) := by rw [Nat.min_eq_left hp]
        exact ⟨congrArg (Value.int .i64) e, rfl⟩
      · have hd' := of_decide_eq_false hd
        rw [ef] at hd'
        have hd2 := le_of_div (by omega) hd'
        refine Cw_skip (th_n ?_)
        refine Cw_region (by kernel_rfl) ?_
        have em : ((ff k t : Nat) : Int) * ((k : Int) - (t : Int)) = ((ff k (t + 1) : Nat) : Int) := by
          rw [ef]; simp only [ff]; exact (Int.natCast_mul _ _).symm
        have hm : ff k (t + 1) ≤ limit + 1 := hd2
        refine s_move (s_move (s_mul rfl rfl (by rw [em]; omega) (s_assign (Fl_nil (ib_n (th_n ?_))))))
        refine Cw_region (by kernel_rfl) ?_
        refine s_move (s_add rfl rfl (by omega) (s_assign (Fl_nil ?_)))
        refine ⟨j - (t + 1), by omega, _, t + 1, sets_known ⟨rfl, rfl, rfl, rfl, congrArg (Value.int .i64) em, rfl, trivial⟩, by omega, hm, rfl, rfl⟩
    · have hc' := of_decide_eq_false hc
      have htj' : t = j := by omega
      subst htj'
      refine Cw_exit (ex_th (ex_th (ex_in (th_n ?_))))
      refine Cw_seq (Cw_region (by kernel_rfl) ?_)
      refine s_move (s_move (s_quo rfl rfl (by omega) (by omega) (by omega) (s_assign (Fl_nil (th_n ?_)))))
      have eq : ((ff k t : Nat) : Int) / (t : Int) = ((ff k t / t : Nat) : Int) := (Int.natCast_ediv _ _).symm
      have et : (((limit + 1 : Nat) : Int) - ((bs k (t - 1) : Nat) : Int)) = ((limit + 1 - bs k (t - 1) : Nat) : Int) := by omega
      have ej : ((t : Int) + 1) = ((t + 1 : Nat) : Int) := by omega
      have hq1 : ff k t / t ≤ ff k t := Nat.div_le_self _ _
      refine Cw_seq (Cw_seq (Cw_region (by kernel_rfl) ?_))
      refine s_move (s_move (s_move (s_sub rfl rfl (by omega) (s_move (s_add rfl rfl (by omega) (s_quo rfl rfl (by omega) (by omega) (by omega) (s_gtr rfl rfl (Fl_nil (th_n ?_)))))))))
      refine Cw_cond rfl rfl (fun hd => ?_) (fun hd => ?_)
      · have hd' := of_decide_eq_true hd
        rw [et, ej, eq] at hd'
        have hd2 := lt_of_div (by omega) hd'
        refine Cw_seq (Cw_region (by kernel_rfl) ?_)
        refine s_move (s_assign (Fl_nil (th_n ?_)))
        refine Cw_ret ?_
        have hp : limit + 1 ≤ bs k k := by
          refine Nat.le_trans ?_ (bs_le k t k (by omega))
          rw [bs_step k t hj2]
          unfold term
          omega
        have e : ((limit + 1 : Nat) : Int) = ((min (limit + 1) (bs k k) : Nat) : Int) := by rw [Nat.min_eq_left hp]
        exact ⟨congrArg (Value.int .i64) e, rfl⟩
      · have hd' := of_decide_eq_false hd
        rw [et, ej, eq] at hd'
        have hd2 := le_of_div (by omega) hd'
        have hst := bs_step k t hj2
        unfold term at hst
        have em : ((ff k t : Nat) : Int) / (t : Int) * ((t : Int) + 1) = ((ff k t / t * (t + 1) : Nat) : Int) := by
          rw [eq, ej]; exact (Int.natCast_mul _ _).symm
        have es : ((bs k (t - 1) : Nat) : Int) + ((ff k t : Nat) : Int) / (t : Int) * ((t : Int) + 1) = ((bs k t : Nat) : Int) := by
          rw [em, hst]; exact (Int.natCast_add _ _).symm
        refine Cw_skip (th_n ?_)
        refine Cw_seq (Cw_region (by kernel_rfl) ?_)
        refine s_move (s_move (s_move (s_add rfl rfl (by omega) (s_mul rfl rfl (by rw [em]; omega) (s_add rfl rfl (by rw [es]; omega) (s_assign (Fl_nil (th_n ?_))))))))
        refine Cw_seq (Cw_region (by kernel_rfl) ?_)
        refine s_move (s_move (s_geq rfl rfl (Fl_nil (th_n ?_))))
        refine Cw_cond rfl rfl (fun hg => ?_) (fun hg => ?_)
        · have hg' := of_decide_eq_true hg
          rw [es] at hg'
          refine Cw_seq (Cw_region (by kernel_rfl) ?_)
          refine s_move (s_assign (Fl_nil (th_n ?_)))
          refine Cw_ret ?_
          have hp : limit + 1 ≤ bs k k := Nat.le_trans (by omega) (bs_le k t k (by omega))
          have e : ((limit + 1 : Nat) : Int) = ((min (limit + 1) (bs k k) : Nat) : Int) := by rw [Nat.min_eq_left hp]
          exact ⟨congrArg (Value.int .i64) e, rfl⟩
        · have hg' := of_decide_eq_false hg
          rw [es] at hg'
          refine Cw_skip (ib_n (th_n ?_))
          refine Cw_region (by kernel_rfl) ?_
          refine s_move (s_add rfl rfl (by omega) (s_assign (Fl_nil ?_)))
          refine ⟨k + 1 - (t + 1), by omega, _, t + 1, sets_known ⟨rfl, rfl, congrArg (Value.int .i64) es, rfl, trivial⟩, by omega, by omega, ?_, rfl, rfl⟩
          rw [Nat.add_sub_cancel]
          omega
  · have hb' := of_decide_eq_false hb
    have : j = k + 1 := by omega
    subst this
    refine Cw_exit (ex_th (ex_th (ex_in (th_n ?_))))
    refine Cw_seq (Cw_region (by kernel_rfl) ?_)
    refine s_move (s_assign (Fl_nil (th_n ?_)))
    refine Cw_ret ?_
    have e : ((bs k (k + 1 - 1) : Nat) : Int) = ((min (limit + 1) (bs k k) : Nat) : Int) := by
      rw [Nat.add_sub_cancel] at htot ⊢; omega
    exact ⟨congrArg (Value.int .i64) e, rfl⟩
end Go.Proofs.Qxb6000043a

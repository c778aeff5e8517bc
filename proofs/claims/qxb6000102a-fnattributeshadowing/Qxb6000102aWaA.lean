/-
  WALKS, A: zzBytes_, b1StrsBytes. Own work.
-/
import Derived.Test.Qxb6000102aProg
import Derived.Test.Qxb6000102aFwH
namespace Go.Proofs.Qxb6000102a
open Go.Fw
set_option maxRecDepth 10000

theorem bytes24_any (s0 s1 s4 s5 s6 s7 : ByteArray) (v2 v3 v8 v9 v10 : Value) (w : World) :
    Calls Try.prog 24 #[.string s0, .string s1, v2, v3, .string s4, .string s5, .string s6, .string s7, v8, v9, v10] w fun e w' => ∃ v, e = .returned v ∧ ((∃ b, v = .bool b) ∧ w' = w) := by
  refine enter1 (args := [_, _, _, _, _, _, _, _, _, _, _]) (R := fun v w' => (∃ b, v = .bool b) ∧ w' = w) Try.func24 rfl Try.ntmps24 Try.results24 rfl rfl ?_
  refine Cw_seq (Cw_region (by kernel_rfl) ?_)
  refine s_assign (Fl_nil (th_n ?_))
  refine Cw_seq (Cw_region (by kernel_rfl) ?_)
  refine s_assign (Fl_nil (th_n ?_))
  refine Cw_seq (Cw_seq (Cw_region (by kernel_rfl) ?_))
  refine s_move (s_lenStr rfl (by kernel_rfl) (s_gtr rfl rfl (Fl_nil (th_n ?_))))
  refine Cw_cond rfl rfl (fun hb => ?_) (fun hb => ?_)
  · refine Cw_seq (Cw_region (by kernel_rfl) ?_)
    refine s_assign (Fl_nil (th_n ?_))
    exact Cw_ret ⟨⟨_, rfl⟩, rfl⟩
  have h0 := of_decide_eq_false hb
  refine Cw_skip (th_n ?_)
  refine Cw_seq (Cw_region (by kernel_rfl) ?_)
  refine s_move (s_move (s_lenStr rfl (by kernel_rfl) (s_add rfl rfl (by omega) (s_assign (Fl_nil (th_n ?_))))))
  refine Cw_seq (Cw_seq (Cw_region (by kernel_rfl) ?_))
  refine s_move (s_gtr rfl rfl (Fl_nil (th_n ?_)))
  refine Cw_cond rfl rfl (fun hb => ?_) (fun hb => ?_)
  · refine Cw_seq (Cw_region (by kernel_rfl) ?_)
    refine s_assign (Fl_nil (th_n ?_))
    exact Cw_ret ⟨⟨_, rfl⟩, rfl⟩
  refine Cw_skip (th_n ?_)
  refine Cw_seq (Cw_seq (Cw_region (by kernel_rfl) ?_))
  refine s_move (s_lenStr rfl (by kernel_rfl) (s_gtr rfl rfl (Fl_nil (th_n ?_))))
  refine Cw_cond rfl rfl (fun hb => ?_) (fun hb => ?_)
  · refine Cw_seq (Cw_region (by kernel_rfl) ?_)
    refine s_assign (Fl_nil (th_n ?_))
    exact Cw_ret ⟨⟨_, rfl⟩, rfl⟩
  have h1 := of_decide_eq_false hb
  refine Cw_skip (th_n ?_)
  refine Cw_seq (Cw_region (by kernel_rfl) ?_)
  refine s_move (s_move (s_lenStr rfl (by kernel_rfl) (s_add rfl rfl (by omega) (s_assign (Fl_nil (th_n ?_))))))
  refine Cw_seq (Cw_seq (Cw_region (by kernel_rfl) ?_))
  refine s_move (s_gtr rfl rfl (Fl_nil (th_n ?_)))
  refine Cw_cond rfl rfl (fun hb => ?_) (fun hb => ?_)
  · refine Cw_seq (Cw_region (by kernel_rfl) ?_)
    refine s_assign (Fl_nil (th_n ?_))
    exact Cw_ret ⟨⟨_, rfl⟩, rfl⟩
  refine Cw_skip (th_n ?_)
  refine Cw_seq (Cw_seq (Cw_region (by kernel_rfl) ?_))
  refine s_move (s_lenStr rfl (by kernel_rfl) (s_gtr rfl rfl (Fl_nil (th_n ?_))))
  refine Cw_cond rfl rfl (fun hb => ?_) (fun hb => ?_)
  · refine Cw_seq (Cw_region (by kernel_rfl) ?_)
    refine s_assign (Fl_nil (th_n ?_))
    exact Cw_ret ⟨⟨_, rfl⟩, rfl⟩
  have h4 := of_decide_eq_false hb
  refine Cw_skip (th_n ?_)
  refine Cw_seq (Cw_region (by kernel_rfl) ?_)
  refine s_move (s_move (s_lenStr rfl (by kernel_rfl) (s_add rfl rfl (by omega) (s_assign (Fl_nil (th_n ?_))))))
  refine Cw_seq (Cw_seq (Cw_region (by kernel_rfl) ?_))
  refine s_move (s_gtr rfl rfl (Fl_nil (th_n ?_)))
  refine Cw_cond rfl rfl (fun hb => ?_) (fun hb => ?_)
  · refine Cw_seq (Cw_region (by kernel_rfl) ?_)
    refine s_assign (Fl_nil (th_n ?_))
    exact Cw_ret ⟨⟨_, rfl⟩, rfl⟩
  refine Cw_skip (th_n ?_)
  refine Cw_seq (Cw_seq (Cw_region (by kernel_rfl) ?_))
  refine s_move (s_lenStr rfl (by kernel_rfl) (s_gtr rfl rfl (Fl_nil (th_n ?_))))
  refine Cw_cond rfl rfl (fun hb => ?_) (fun hb => ?_)
  · refine Cw_seq (Cw_region (by kernel_rfl) ?_)
    refine s_assign (Fl_nil (th_n ?_))
    exact Cw_ret ⟨⟨_, rfl⟩, rfl⟩
  have h5 := of_decide_eq_false hb
  refine Cw_skip (th_n ?_)
  refine Cw_seq (Cw_region (by kernel_rfl) ?_)
  refine s_move (s_move (s_lenStr rfl (by kernel_rfl) (s_add rfl rfl (by omega) (s_assign (Fl_nil (th_n ?_))))))
  refine Cw_seq (Cw_seq (Cw_region (by kernel_rfl) ?_))
  refine s_move (s_gtr rfl rfl (Fl_nil (th_n ?_)))
  refine Cw_cond rfl rfl (fun hb => ?_) (fun hb => ?_)
  · refine Cw_seq (Cw_region (by kernel_rfl) ?_)
    refine s_assign (Fl_nil (th_n ?_))
    exact Cw_ret ⟨⟨_, rfl⟩, rfl⟩
  refine Cw_skip (th_n ?_)
  refine Cw_seq (Cw_seq (Cw_region (by kernel_rfl) ?_))
  refine s_move (s_lenStr rfl (by kernel_rfl) (s_gtr rfl rfl (Fl_nil (th_n ?_))))
  refine Cw_cond rfl rfl (fun hb => ?_) (fun hb => ?_)
  · refine Cw_seq (Cw_region (by kernel_rfl) ?_)
    refine s_assign (Fl_nil (th_n ?_))
    exact Cw_ret ⟨⟨_, rfl⟩, rfl⟩
  have h6 := of_decide_eq_false hb
  refine Cw_skip (th_n ?_)
  refine Cw_seq (Cw_region (by kernel_rfl) ?_)
  refine s_move (s_move (s_lenStr rfl (by kernel_rfl) (s_add rfl rfl (by omega) (s_assign (Fl_nil (th_n ?_))))))
  refine Cw_seq (Cw_seq (Cw_region (by kernel_rfl) ?_))
  refine s_move (s_gtr rfl rfl (Fl_nil (th_n ?_)))
  refine Cw_cond rfl rfl (fun hb => ?_) (fun hb => ?_)
  · refine Cw_seq (Cw_region (by kernel_rfl) ?_)
    refine s_assign (Fl_nil (th_n ?_))
    exact Cw_ret ⟨⟨_, rfl⟩, rfl⟩
  refine Cw_skip (th_n ?_)
  refine Cw_seq (Cw_seq (Cw_region (by kernel_rfl) ?_))
  refine s_move (s_lenStr rfl (by kernel_rfl) (s_gtr rfl rfl (Fl_nil (th_n ?_))))
  refine Cw_cond rfl rfl (fun hb => ?_) (fun hb => ?_)
  · refine Cw_seq (Cw_region (by kernel_rfl) ?_)
    refine s_assign (Fl_nil (th_n ?_))
    exact Cw_ret ⟨⟨_, rfl⟩, rfl⟩
  have h7 := of_decide_eq_false hb
  refine Cw_skip (th_n ?_)
  refine Cw_seq (Cw_region (by kernel_rfl) ?_)
  refine s_move (s_move (s_lenStr rfl (by kernel_rfl) (s_add rfl rfl (by omega) (s_assign (Fl_nil (th_n ?_))))))
  refine Cw_seq (Cw_seq (Cw_region (by kernel_rfl) ?_))
  refine s_move (s_gtr rfl rfl (Fl_nil (th_n ?_)))
  refine Cw_cond rfl rfl (fun hb => ?_) (fun hb => ?_)
  · refine Cw_seq (Cw_region (by kernel_rfl) ?_)
    refine s_assign (Fl_nil (th_n ?_))
    exact Cw_ret ⟨⟨_, rfl⟩, rfl⟩
  refine Cw_skip (th_n ?_)
  refine Cw_seq (Cw_region (by kernel_rfl) ?_)
  refine s_assign (Fl_nil (th_n ?_))
  exact Cw_ret ⟨⟨_, rfl⟩, rfl⟩

theorem bytes18_any (s0 s1 s4 s5 s6 s7 : ByteArray) (v2 v3 v8 v9 v10 : Value) (w : World) :
    Calls Try.prog 18 #[.string s0, .string s1, v2, v3, .string s4, .string s5, .string s6, .string s7, v8, v9, v10] w fun e w' => ∃ v, e = .returned v ∧ ((∃ b, v = .bool b) ∧ w' = w) := by
  refine enter1 (args := [_, _, _, _, _, _, _, _, _, _, _]) (R := fun v w' => (∃ b, v = .bool b) ∧ w' = w) Try.func18 rfl Try.ntmps18 Try.results18 rfl rfl ?_
  refine Cw_seq (Cw_region (by kernel_rfl) ?_)
  refine s_assign (Fl_nil (th_n ?_))
  refine Cw_seq (Cw_region (by kernel_rfl) ?_)
  refine s_assign (Fl_nil (th_n ?_))
  refine Cw_seq (Cw_seq (Cw_region (by kernel_rfl) ?_))
  refine s_move (s_lenStr rfl (by kernel_rfl) (s_gtr rfl rfl (Fl_nil (th_n ?_))))
  refine Cw_cond rfl rfl (fun hb => ?_) (fun hb => ?_)
  · refine Cw_seq (Cw_region (by kernel_rfl) ?_)
    refine s_assign (Fl_nil (th_n ?_))
    exact Cw_ret ⟨⟨_, rfl⟩, rfl⟩
  have h0 := of_decide_eq_false hb
  refine Cw_skip (th_n ?_)
  refine Cw_seq (Cw_region (by kernel_rfl) ?_)
  refine s_move (s_move (s_lenStr rfl (by kernel_rfl) (s_add rfl rfl (by omega) (s_assign (Fl_nil (th_n ?_))))))
  refine Cw_seq (Cw_seq (Cw_region (by kernel_rfl) ?_))
  refine s_move (s_gtr rfl rfl (Fl_nil (th_n ?_)))
  refine Cw_cond rfl rfl (fun hb => ?_) (fun hb => ?_)
  · refine Cw_seq (Cw_region (by kernel_rfl) ?_)
    refine s_assign (Fl_nil (th_n ?_))
    exact Cw_ret ⟨⟨_, rfl⟩, rfl⟩
  refine Cw_skip (th_n ?_)
  refine Cw_seq (Cw_seq (Cw_region (by kernel_rfl) ?_))
  refine s_move (s_lenStr rfl (by kernel_rfl) (s_gtr rfl rfl (Fl_nil (th_n ?_))))
  refine Cw_cond rfl rfl (fun hb => ?_) (fun hb => ?_)
  · refine Cw_seq (Cw_region (by kernel_rfl) ?_)
    refine s_assign (Fl_nil (th_n ?_))
    exact Cw_ret ⟨⟨_, rfl⟩, rfl⟩
  have h1 := of_decide_eq_false hb
  refine Cw_skip (th_n ?_)
  refine Cw_seq (Cw_region (by kernel_rfl) ?_)
  refine s_move (s_move (s_lenStr rfl (by kernel_rfl) (s_add rfl rfl (by omega) (s_assign (Fl_nil (th_n ?_))))))
  refine Cw_seq (Cw_seq (Cw_region (by kernel_rfl) ?_))
  refine s_move (s_gtr rfl rfl (Fl_nil (th_n ?_)))
  refine Cw_cond rfl rfl (fun hb => ?_) (fun hb => ?_)
  · refine Cw_seq (Cw_region (by kernel_rfl) ?_)
    refine s_assign (Fl_nil (th_n ?_))
    exact Cw_ret ⟨⟨_, rfl⟩, rfl⟩
  refine Cw_skip (th_n ?_)
  refine Cw_seq (Cw_seq (Cw_region (by kernel_rfl) ?_))
  refine s_move (s_lenStr rfl (by kernel_rfl) (s_gtr rfl rfl (Fl_nil (th_n ?_))))
  refine Cw_cond rfl rfl (fun hb => ?_) (fun hb => ?_)
  · refine Cw_seq (Cw_region (by kernel_rfl) ?_)
    refine s_assign (Fl_nil (th_n ?_))
    exact Cw_ret ⟨⟨_, rfl⟩, rfl⟩
  have h4 := of_decide_eq_false hb
  refine Cw_skip (th_n ?_)
  refine Cw_seq (Cw_region (by kernel_rfl) ?_)
  refine s_move (s_move (s_lenStr rfl (by kernel_rfl) (s_add rfl rfl (by omega) (s_assign (Fl_nil (th_n ?_))))))
  refine Cw_seq (Cw_seq (Cw_region (by kernel_rfl) ?_))
  refine s_move (s_gtr rfl rfl (Fl_nil (th_n ?_)))
  refine Cw_cond rfl rfl (fun hb => ?_) (fun hb => ?_)
  · refine Cw_seq (Cw_region (by kernel_rfl) ?_)
    refine s_assign (Fl_nil (th_n ?_))
    exact Cw_ret ⟨⟨_, rfl⟩, rfl⟩
  refine Cw_skip (th_n ?_)
  refine Cw_seq (Cw_seq (Cw_region (by kernel_rfl) ?_))
  refine s_move (s_lenStr rfl (by kernel_rfl) (s_gtr rfl rfl (Fl_nil (th_n ?_))))
  refine Cw_cond rfl rfl (fun hb => ?_) (fun hb => ?_)
  · refine Cw_seq (Cw_region (by kernel_rfl) ?_)
    refine s_assign (Fl_nil (th_n ?_))
    exact Cw_ret ⟨⟨_, rfl⟩, rfl⟩
  have h5 := of_decide_eq_false hb
  refine Cw_skip (th_n ?_)
  refine Cw_seq (Cw_region (by kernel_rfl) ?_)
  refine s_move (s_move (s_lenStr rfl (by kernel_rfl) (s_add rfl rfl (by omega) (s_assign (Fl_nil (th_n ?_))))))
  refine Cw_seq (Cw_seq (Cw_region (by kernel_rfl) ?_))
  refine s_move (s_gtr rfl rfl (Fl_nil (th_n ?_)))
  refine Cw_cond rfl rfl (fun hb => ?_) (fun hb => ?_)
  · refine Cw_seq (Cw_region (by kernel_rfl) ?_)
    refine s_assign (Fl_nil (th_n ?_))
    exact Cw_ret ⟨⟨_, rfl⟩, rfl⟩
  refine Cw_skip (th_n ?_)
  refine Cw_seq (Cw_seq (Cw_region (by kernel_rfl) ?_))
  refine s_move (s_lenStr rfl (by kernel_rfl) (s_gtr rfl rfl (Fl_nil (th_n ?_))))
  refine Cw_cond rfl rfl (fun hb => ?_) (fun hb => ?_)
  · refine Cw_seq (Cw_region (by kernel_rfl) ?_)
    refine s_assign (Fl_nil (th_n ?_))
    exact Cw_ret ⟨⟨_, rfl⟩, rfl⟩
  have h6 := of_decide_eq_false hb
  refine Cw_skip (th_n ?_)
  refine Cw_seq (Cw_region (by kernel_rfl) ?_)
  refine s_move (s_move (s_lenStr rfl (by kernel_rfl) (s_add rfl rfl (by omega) (s_assign (Fl_nil (th_n ?_))))))
  refine Cw_seq (Cw_seq (Cw_region (by kernel_rfl) ?_))
  refine s_move (s_gtr rfl rfl (Fl_nil (th_n ?_)))
  refine Cw_cond rfl rfl (fun hb => ?_) (fun hb => ?_)
  · refine Cw_seq (Cw_region (by kernel_rfl) ?_)
    refine s_assign (Fl_nil (th_n ?_))
    exact Cw_ret ⟨⟨_, rfl⟩, rfl⟩
  refine Cw_skip (th_n ?_)
  refine Cw_seq (Cw_seq (Cw_region (by kernel_rfl) ?_))
  refine s_move (s_lenStr rfl (by kernel_rfl) (s_gtr rfl rfl (Fl_nil (th_n ?_))))
  refine Cw_cond rfl rfl (fun hb => ?_) (fun hb => ?_)
  · refine Cw_seq (Cw_region (by kernel_rfl) ?_)
    refine s_assign (Fl_nil (th_n ?_))
    exact Cw_ret ⟨⟨_, rfl⟩, rfl⟩
  have h7 := of_decide_eq_false hb
  refine Cw_skip (th_n ?_)
  refine Cw_seq (Cw_region (by kernel_rfl) ?_)
  refine s_move (s_move (s_lenStr rfl (by kernel_rfl) (s_add rfl rfl (by omega) (s_assign (Fl_nil (th_n ?_))))))
  refine Cw_seq (Cw_seq (Cw_region (by kernel_rfl) ?_))
  refine s_move (s_gtr rfl rfl (Fl_nil (th_n ?_)))
  refine Cw_cond rfl rfl (fun hb => ?_) (fun hb => ?_)
  · refine Cw_seq (Cw_region (by kernel_rfl) ?_)
    refine s_assign (Fl_nil (th_n ?_))
    exact Cw_ret ⟨⟨_, rfl⟩, rfl⟩
  refine Cw_skip (th_n ?_)
  refine Cw_seq (Cw_region (by kernel_rfl) ?_)
  refine s_assign (Fl_nil (th_n ?_))
  exact Cw_ret ⟨⟨_, rfl⟩, rfl⟩

theorem strs_any (s0 s1 s2 s3 s4 s5 : ByteArray) (w : World) :
    Calls Try.prog 19 #[.string s0, .string s1, .string s2, .string s3, .string s4, .string s5] w fun e w' => ∃ v, e = .returned v ∧ ((∃ z : Int, v = .int .i64 z) ∧ w' = w) := by
  refine enter1 (args := [_, _, _, _, _, _]) (R := fun v w' => (∃ z : Int, v = .int .i64 z) ∧ w' = w) Try.func19 rfl Try.ntmps19 Try.results19 rfl rfl ?_
  refine Cw_seq (Cw_region (by kernel_rfl) ?_)
  refine s_assign (Fl_nil (th_n ?_))
  refine Cw_seq (Cw_seq (Cw_region (by kernel_rfl) ?_))
  by_cases h0 : (1048576 : Int) < (s0.size : Int)
  · refine s_move (s_lenStr rfl (by kernel_rfl) (Fl_val rfl (r_gtrT rfl rfl h0) ?_))
    refine s_move (Fl_pass rfl (Fl_pass rfl (Fl_pass rfl (s_pick rfl ?_))))
    refine s_move (Fl_pass rfl (Fl_pass rfl (Fl_pass rfl (s_pick rfl ?_))))
    refine s_move (Fl_pass rfl (Fl_pass rfl (Fl_pass rfl (s_pick rfl ?_))))
    refine s_move (Fl_pass rfl (Fl_pass rfl (Fl_pass rfl (s_pick rfl ?_))))
    refine s_move (Fl_pass rfl (Fl_pass rfl (Fl_pass rfl (s_pick rfl ?_))))
    refine Fl_nil (th_n ?_)
    refine Cw_true rfl rfl rfl (Cw_seq (Cw_region (by kernel_rfl) ?_))
    refine s_assign (Fl_nil (th_n ?_))
    exact Cw_ret ⟨⟨_, rfl⟩, rfl⟩
  refine s_move (s_lenStr rfl (by kernel_rfl) (Fl_val rfl (r_gtrF rfl rfl h0) ?_))
  by_cases h1 : (1048576 : Int) < (s1.size : Int)
  · refine s_move (Fl_val rfl r_move (Fl_val rfl (r_lenStr rfl (by kernel_rfl)) (Fl_val rfl (r_gtrT rfl rfl h1) (s_pick rfl ?_))))
    refine s_move (Fl_pass rfl (Fl_pass rfl (Fl_pass rfl (s_pick rfl ?_))))
    refine s_move (Fl_pass rfl (Fl_pass rfl (Fl_pass rfl (s_pick rfl ?_))))
    refine s_move (Fl_pass rfl (Fl_pass rfl (Fl_pass rfl (s_pick rfl ?_))))
    refine s_move (Fl_pass rfl (Fl_pass rfl (Fl_pass rfl (s_pick rfl ?_))))
    refine Fl_nil (th_n ?_)
    refine Cw_true rfl rfl rfl (Cw_seq (Cw_region (by kernel_rfl) ?_))
    refine s_assign (Fl_nil (th_n ?_))
    exact Cw_ret ⟨⟨_, rfl⟩, rfl⟩
  refine s_move (Fl_val rfl r_move (Fl_val rfl (r_lenStr rfl (by kernel_rfl)) (Fl_val rfl (r_gtrF rfl rfl h1) (s_pick rfl ?_))))
  by_cases h2 : (1048576 : Int) < (s2.size : Int)
  · refine s_move (Fl_val rfl r_move (Fl_val rfl (r_lenStr rfl (by kernel_rfl)) (Fl_val rfl (r_gtrT rfl rfl h2) (s_pick rfl ?_))))
    refine s_move (Fl_pass rfl (Fl_pass rfl (Fl_pass rfl (s_pick rfl ?_))))
    refine s_move (Fl_pass rfl (Fl_pass rfl (Fl_pass rfl (s_pick rfl ?_))))
    refine s_move (Fl_pass rfl (Fl_pass rfl (Fl_pass rfl (s_pick rfl ?_))))
    refine Fl_nil (th_n ?_)
    refine Cw_true rfl rfl rfl (Cw_seq (Cw_region (by kernel_rfl) ?_))
    refine s_assign (Fl_nil (th_n ?_))
    exact Cw_ret ⟨⟨_, rfl⟩, rfl⟩
  refine s_move (Fl_val rfl r_move (Fl_val rfl (r_lenStr rfl (by kernel_rfl)) (Fl_val rfl (r_gtrF rfl rfl h2) (s_pick rfl ?_))))
  by_cases h3 : (1048576 : Int) < (s3.size : Int)
  · refine s_move (Fl_val rfl r_move (Fl_val rfl (r_lenStr rfl (by kernel_rfl)) (Fl_val rfl (r_gtrT rfl rfl h3) (s_pick rfl ?_))))
    refine s_move (Fl_pass rfl (Fl_pass rfl (Fl_pass rfl (s_pick rfl ?_))))
    refine s_move (Fl_pass rfl (Fl_pass rfl (Fl_pass rfl (s_pick rfl ?_))))
    refine Fl_nil (th_n ?_)
    refine Cw_true rfl rfl rfl (Cw_seq (Cw_region (by kernel_rfl) ?_))
    refine s_assign (Fl_nil (th_n ?_))
    exact Cw_ret ⟨⟨_, rfl⟩, rfl⟩
  refine s_move (Fl_val rfl r_move (Fl_val rfl (r_lenStr rfl (by kernel_rfl)) (Fl_val rfl (r_gtrF rfl rfl h3) (s_pick rfl ?_))))
  by_cases h4 : (1048576 : Int) < (s4.size : Int)
  · refine s_move (Fl_val rfl r_move (Fl_val rfl (r_lenStr rfl (by kernel_rfl)) (Fl_val rfl (r_gtrT rfl rfl h4) (s_pick rfl ?_))))
    refine s_move (Fl_pass rfl (Fl_pass rfl (Fl_pass rfl (s_pick rfl ?_))))
    refine Fl_nil (th_n ?_)
    refine Cw_true rfl rfl rfl (Cw_seq (Cw_region (by kernel_rfl) ?_))
    refine s_assign (Fl_nil (th_n ?_))
    exact Cw_ret ⟨⟨_, rfl⟩, rfl⟩
  refine s_move (Fl_val rfl r_move (Fl_val rfl (r_lenStr rfl (by kernel_rfl)) (Fl_val rfl (r_gtrF rfl rfl h4) (s_pick rfl ?_))))
  by_cases h5 : (1048576 : Int) < (s5.size : Int)
  · refine s_move (Fl_val rfl r_move (Fl_val rfl (r_lenStr rfl (by kernel_rfl)) (Fl_val rfl (r_gtrT rfl rfl h5) (s_pick rfl ?_))))
    refine Fl_nil (th_n ?_)
    refine Cw_true rfl rfl rfl (Cw_seq (Cw_region (by kernel_rfl) ?_))
    refine s_assign (Fl_nil (th_n ?_))
    exact Cw_ret ⟨⟨_, rfl⟩, rfl⟩
  refine s_move (Fl_val rfl r_move (Fl_val rfl (r_lenStr rfl (by kernel_rfl)) (Fl_val rfl (r_gtrF rfl rfl h5) (s_pick rfl ?_))))
  refine Fl_nil (th_n ?_)
  refine Cw_false rfl rfl rfl (Cw_skip (th_n ?_))
  refine Cw_seq (Cw_region (by kernel_rfl) ?_)
  refine s_move (s_lenStr rfl (by kernel_rfl) (s_move (s_lenStr rfl (by kernel_rfl) (s_add rfl rfl (by omega) (s_move (s_lenStr rfl (by kernel_rfl) (s_add rfl rfl (by omega) (s_move (s_lenStr rfl (by kernel_rfl) (s_add rfl rfl (by omega) (s_move (s_lenStr rfl (by kernel_rfl) (s_add rfl rfl (by omega) (s_move (s_lenStr rfl (by kernel_rfl) (s_add rfl rfl (by omega) (s_assign (Fl_nil (th_n ?_)))))))))))))))))))
  exact Cw_ret ⟨⟨_, rfl⟩, rfl⟩
end Go.Proofs.Qxb6000102a

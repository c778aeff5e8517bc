/-
  WALKS, M: the guards and the copy: zzBytes_, zzGraphBytes, zzValidGraph, zzCloneRows. Own work.
-/
import Derived.Test.Qxb6000043aWaL
namespace Go.Proofs.Qxb6000043a
open Go.Fw Go.Proofs.Qxb6000043a.Pl
set_option maxRecDepth 10000

/-- A row as it is handed in: whatever its address where it is empty. -/
def jrow (w : World) (v : Value) (n : Nat) (c : Nat → Int) : Prop :=
  ∃ a cap, v = .slice a n cap ∧ (a = none → n = 0 ∧ cap = 0) ∧ ∀ i, i < n → ∃ b o, a = some ⟨b, o, none⟩ ∧ w.cell? ⟨b, o + i, none⟩ = some (.int .i32 (c i))
def jrows (w : World) (v : Value) (n : Nat) (len : Nat → Nat) (c : Nat → Nat → Int) : Prop :=
  ∃ a cap, v = .slice a n cap ∧ (a = none → n = 0 ∧ cap = 0) ∧ ∀ i, i < n → ∃ b o u, a = some ⟨b, o, none⟩ ∧ w.cell? ⟨b, o + i, none⟩ = some u ∧ jrow w u (len i) (c i)
theorem jrow.keep {w w' : World} {v : Value} {n : Nat} {c : Nat → Int} (h : jrow w v n c) (hk : Keeps w w' noB) : jrow w' v n c := by
  obtain ⟨a, cap, h1, h2, h3⟩ := h
  refine ⟨a, cap, h1, h2, fun i hi => ?_⟩
  obtain ⟨b, o, h4, h5⟩ := h3 i hi
  exact ⟨b, o, h4, keep_cell hk (fun h => h) h5⟩
theorem jrows.keep {w w' : World} {v : Value} {n : Nat} {len : Nat → Nat} {c : Nat → Nat → Int} (h : jrows w v n len c) (hk : Keeps w w' noB) : jrows w' v n len c := by
  obtain ⟨a, cap, h1, h2, h3⟩ := h
  refine ⟨a, cap, h1, h2, fun i hi => ?_⟩
  obtain ⟨b, o, u, h4, h5, h6⟩ := h3 i hi
  exact ⟨b, o, u, h4, keep_cell hk (fun h => h) h5, h6.keep hk⟩

/-- zzBytes_: true: all lengths together are at most 1 << 20. -/
theorem bytes27_any (w : World) (v : Value) (n : Nat) (len : Nat → Nat) (c : Nat → Nat → Int) (hv : jrows w v n len c) (root bw : Value) :
    Calls Try.prog 27 #[v, root, bw] w fun e w' => ∃ r, e = .returned r ∧ ((r = .bool false ∨ r = .bool true ∧ n + sumTo len n ≤ 1048576) ∧ w' = w) := by
  obtain ⟨a, cap, rfl, ha0, hcell⟩ := hv
  refine enter1 (args := [_, _, _]) (R := fun r w' => (r = .bool false ∨ r = .bool true ∧ n + sumTo len n ≤ 1048576) ∧ w' = w) Try.func27 rfl Try.ntmps27 Try.results27 rfl rfl ?_
  refine Cw_seq (Cw_region (by kernel_rfl) ?_)
  refine s_assign (Fl_nil (th_n ?_))
  refine Cw_seq (Cw_region (by kernel_rfl) ?_)
  refine s_assign (Fl_nil (th_n ?_))
  refine Cw_seq (Cw_seq (Cw_region (by kernel_rfl) ?_))
  refine s_move (s_lenS rfl (by kernel_rfl) (s_gtr rfl rfl (Fl_nil (th_n ?_))))
  refine Cw_cond rfl rfl (fun hb => ?_) (fun hb => ?_)
  · refine Cw_seq (Cw_region (by kernel_rfl) ?_)
    refine s_assign (Fl_nil (th_n ?_))
    exact Cw_ret ⟨.inl rfl, rfl⟩
  have hn := of_decide_eq_false hb
  refine Cw_skip (th_n ?_)
  refine Cw_seq (Cw_region (by kernel_rfl) ?_)
  refine s_move (s_move (s_lenS rfl (by kernel_rfl) (s_add rfl rfl (by omega) (s_assign (Fl_nil (th_n ?_))))))
  refine Cw_seq (Cw_seq (Cw_region (by kernel_rfl) ?_))
  refine s_move (s_gtr rfl rfl (Fl_nil (th_n ?_)))
  refine Cw_cond rfl rfl (fun hb => ?_) (fun hb => ?_)
  · refine Cw_seq (Cw_region (by kernel_rfl) ?_)
    refine s_assign (Fl_nil (th_n ?_))
    exact Cw_ret ⟨.inl rfl, rfl⟩
  refine Cw_skip (th_n ?_)
  refine Cw_seq (Cw_seq (Cw_region (by kernel_rfl) ?_))
  refine s_assign (Fl_nil (th_n ?_))
  refine Cw_block ?_
  have e0 : (0 : Int) + (n : Int) = ((n + sumTo len 0 : Nat) : Int) := by simp [sumTo]
  refine Cw_loop (fun m f w' => ∃ g j, f = sets [(0, .slice a n cap), (7, .int .i64 ((n + sumTo len j : Nat) : Int)), (8, .int .i64 ((j : Nat) : Int))] g ∧ j ≤ n ∧ n + sumTo len j ≤ 1048576 ∧ w = w' ∧ m = n - j) (n - 0)
    ⟨_, 0, sets_known ⟨rfl, congrArg (Value.int .i64) e0, rfl, trivial⟩, by omega, by simp [sumTo]; omega, rfl, rfl⟩ ?_
  rintro m f w' ⟨g, j, rfl, hj, hs, rfl, rfl⟩
  refine Cw_seq (Cw_seq (Cw_region (by kernel_rfl) ?_))
  refine s_move (s_move (s_lenS rfl (by kernel_rfl) (s_lss rfl rfl (Fl_nil (th_n ?_)))))
  refine Cw_cond rfl rfl (fun hb => ?_) (fun hb => ?_)
  · have hj' : j < n := by have := of_decide_eq_true hb; omega
    obtain ⟨b, o, u, rfl, hu, a2, cap2, rfl, _, _⟩ := hcell j hj'
    refine Cw_skip (th_n ?_)
    refine Cw_seq (Cw_block ?_)
    refine Cw_seq (Cw_seq (Cw_region (by kernel_rfl) ?_))
    refine s_move (s_move (s_indexO rfl rfl rfl hj' (by kernel_rfl) (s_load rfl (by kernel_rfl) hu (s_lenS rfl (by kernel_rfl) (s_gtr rfl rfl (Fl_nil (th_n ?_)))))))
    refine Cw_cond rfl rfl (fun hd => ?_) (fun hd => ?_)
    · refine Cw_seq (Cw_region (by kernel_rfl) ?_)
      refine s_assign (Fl_nil (th_n ?_))
      exact Cw_ret ⟨.inl rfl, rfl⟩
    have hl := of_decide_eq_false hd
    refine Cw_skip (th_n ?_)
    refine Cw_seq (Cw_region (by kernel_rfl) ?_)
    have e1 : ((n + sumTo len j : Nat) : Int) + (len j : Int) = ((n + sumTo len (j + 1) : Nat) : Int) := by simp only [sumTo]; omega
    refine s_move (s_move (s_move (s_indexO rfl rfl rfl hj' (by kernel_rfl) (s_load rfl (by kernel_rfl) hu (s_lenS rfl (by kernel_rfl) (s_add rfl rfl (by omega) (s_assign (Fl_nil (th_n ?_)))))))))
    refine Cw_seq (Cw_region (by kernel_rfl) ?_)
    refine s_move (s_gtr rfl rfl (Fl_nil (th_n ?_)))
    refine Cw_cond rfl rfl (fun hd => ?_) (fun hd => ?_)
    · refine Cw_seq (Cw_region (by kernel_rfl) ?_)
      refine s_assign (Fl_nil (th_n ?_))
      exact Cw_ret ⟨.inl rfl, rfl⟩
    have hd' := of_decide_eq_false hd
    refine Cw_skip (ib_n (th_n ?_))
    refine Cw_region (by kernel_rfl) ?_
    refine s_move (s_add rfl rfl (by omega) (s_assign (Fl_nil (th_n ?_))))
    exact ⟨n - (j + 1), by omega, _, j + 1, sets_known ⟨rfl, congrArg (Value.int .i64) e1, rfl, trivial⟩, by omega, by omega, rfl, rfl⟩
  · have hj' : j = n := by have := of_decide_eq_false hb; omega
    subst hj'
    refine Cw_exit (ex_th (ex_th (ex_in (th_n ?_))))
    refine Cw_seq (Cw_region (by kernel_rfl) ?_)
    refine s_assign (Fl_nil (th_n ?_))
    exact Cw_ret ⟨.inr ⟨rfl, hs⟩, rfl⟩
/-- zzBytes_: true: all lengths together are at most 1 << 20. -/
theorem bytes20_any (w : World) (v : Value) (n : Nat) (len : Nat → Nat) (c : Nat → Nat → Int) (hv : jrows w v n len c) (root bw : Value) :
    Calls Try.prog 20 #[v, root, bw] w fun e w' => ∃ r, e = .returned r ∧ ((r = .bool false ∨ r = .bool true ∧ n + sumTo len n ≤ 1048576) ∧ w' = w) := by
  obtain ⟨a, cap, rfl, ha0, hcell⟩ := hv
  refine enter1 (args := [_, _, _]) (R := fun r w' => (r = .bool false ∨ r = .bool true ∧ n + sumTo len n ≤ 1048576) ∧ w' = w) Try.func20 rfl Try.ntmps20 Try.results20 rfl rfl ?_
  refine Cw_seq (Cw_region (by kernel_rfl) ?_)
  refine s_assign (Fl_nil (th_n ?_))
  refine Cw_seq (Cw_region (by kernel_rfl) ?_)
  refine s_assign (Fl_nil (th_n ?_))
  refine Cw_seq (Cw_seq (Cw_region (by kernel_rfl) ?_))
  refine s_move (s_lenS rfl (by kernel_rfl) (s_gtr rfl rfl (Fl_nil (th_n ?_))))
  refine Cw_cond rfl rfl (fun hb => ?_) (fun hb => ?_)
  · refine Cw_seq (Cw_region (by kernel_rfl) ?_)
    refine s_assign (Fl_nil (th_n ?_))
    exact Cw_ret ⟨.inl rfl, rfl⟩
  have hn := of_decide_eq_false hb
  refine Cw_skip (th_n ?_)
  refine Cw_seq (Cw_region (by kernel_rfl) ?_)
  refine s_move (s_move (s_lenS rfl (by kernel_rfl) (s_add rfl rfl (by omega) (s_assign (Fl_nil (th_n ?_))))))
  refine Cw_seq (Cw_seq (Cw_region (by kernel_rfl) ?_))
  refine s_move (s_gtr rfl rfl (Fl_nil (th_n ?_)))
  refine Cw_cond rfl rfl (fun hb => ?_) (fun hb => ?_)
  · refine Cw_seq (Cw_region (by kernel_rfl) ?_)
    refine s_assign (Fl_nil (th_n ?_))
    exact Cw_ret ⟨.inl rfl, rfl⟩
  refine Cw_skip (th_n ?_)
  refine Cw_seq (Cw_seq (Cw_region (by kernel_rfl) ?_))
  refine s_assign (Fl_nil (th_n ?_))
  refine Cw_block ?_
  have e0 : (0 : Int) + (n : Int) = ((n + sumTo len 0 : Nat) : Int) := by simp [sumTo]
  refine Cw_loop (fun m f w' => ∃ g j, f = sets [(0, .slice a n cap), (7, .int .i64 ((n + sumTo len j : Nat) : Int)), (8, .int .i64 ((j : Nat) : Int))] g ∧ j ≤ n ∧ n + sumTo len j ≤ 1048576 ∧ w = w' ∧ m = n - j) (n - 0)
    ⟨_, 0, sets_known ⟨rfl, congrArg (Value.int .i64) e0, rfl, trivial⟩, by omega, by simp [sumTo]; omega, rfl, rfl⟩ ?_
  rintro m f w' ⟨g, j, rfl, hj, hs, rfl, rfl⟩
  refine Cw_seq (Cw_seq (Cw_region (by kernel_rfl) ?_))
  refine s_move (s_move (s_lenS rfl (by kernel_rfl) (s_lss rfl rfl (Fl_nil (th_n ?_)))))
  refine Cw_cond rfl rfl (fun hb => ?_) (fun hb => ?_)
  · have hj' : j < n := by have := of_decide_eq_true hb; omega
    obtain ⟨b, o, u, rfl, hu, a2, cap2, rfl, _, _⟩ := hcell j hj'
    refine Cw_skip (th_n ?_)
    refine Cw_seq (Cw_block ?_)
    refine Cw_seq (Cw_seq (Cw_region (by kernel_rfl) ?_))
    refine s_move (s_move (s_indexO rfl rfl rfl hj' (by kernel_rfl) (s_load rfl (by kernel_rfl) hu (s_lenS rfl (by kernel_rfl) (s_gtr rfl rfl (Fl_nil (th_n ?_)))))))
    refine Cw_cond rfl rfl (fun hd => ?_) (fun hd => ?_)
    · refine Cw_seq (Cw_region (by kernel_rfl) ?_)
      refine s_assign (Fl_nil (th_n ?_))
      exact Cw_ret ⟨.inl rfl, rfl⟩
    have hl := of_decide_eq_false hd
    refine Cw_skip (th_n ?_)
    refine Cw_seq (Cw_region (by kernel_rfl) ?_)
    have e1 : ((n + sumTo len j : Nat) : Int) + (len j : Int) = ((n + sumTo len (j + 1) : Nat) : Int) := by simp only [sumTo]; omega
    refine s_move (s_move (s_move (s_indexO rfl rfl rfl hj' (by kernel_rfl) (s_load rfl (by kernel_rfl) hu (s_lenS rfl (by kernel_rfl) (s_add rfl rfl (by omega) (s_assign (Fl_nil (th_n ?_)))))))))
    refine Cw_seq (Cw_region (by kernel_rfl) ?_)
    refine s_move (s_gtr rfl rfl (Fl_nil (th_n ?_)))
    refine Cw_cond rfl rfl (fun hd => ?_) (fun hd => ?_)
    · refine Cw_seq (Cw_region (by kernel_rfl) ?_)
      refine s_assign (Fl_nil (th_n ?_))
      exact Cw_ret ⟨.inl rfl, rfl⟩
    have hd' := of_decide_eq_false hd
    refine Cw_skip (ib_n (th_n ?_))
    refine Cw_region (by kernel_rfl) ?_
    refine s_move (s_add rfl rfl (by omega) (s_assign (Fl_nil (th_n ?_))))
    exact ⟨n - (j + 1), by omega, _, j + 1, sets_known ⟨rfl, congrArg (Value.int .i64) e1, rfl, trivial⟩, by omega, by omega, rfl, rfl⟩
  · have hj' : j = n := by have := of_decide_eq_false hb; omega
    subst hj'
    refine Cw_exit (ex_th (ex_th (ex_in (th_n ?_))))
    refine Cw_seq (Cw_region (by kernel_rfl) ?_)
    refine s_assign (Fl_nil (th_n ?_))
    exact Cw_ret ⟨.inr ⟨rfl, hs⟩, rfl⟩

/-- zzGraphBytes: some number. -/
theorem gbytes_any (w : World) (v : Value) (n : Nat) (len : Nat → Nat) (c : Nat → Nat → Int) (hv : jrows w v n len c) (hn : n ≤ 1048576) (hlen : ∀ i, i < n → len i ≤ 1048576) :
    Calls Try.prog 11 #[v] w fun e w' => ∃ r, e = .returned r ∧ ((∃ z : Int, r = .int .i64 z) ∧ w' = w) := by
  obtain ⟨a, cap, rfl, ha0, hcell⟩ := hv
  refine enter1 (args := [_]) (R := fun r w' => (∃ z : Int, r = .int .i64 z) ∧ w' = w) Try.func11 rfl Try.ntmps11 Try.results11 rfl rfl ?_
  refine Cw_seq (Cw_region (by kernel_rfl) ?_)
  refine s_assign (Fl_nil (th_n ?_))
  refine Cw_seq (Cw_region (by kernel_rfl) ?_)
  refine s_move (s_lenS rfl (by kernel_rfl) (s_mul rfl rfl (by omega) (s_assign (Fl_nil (th_n ?_)))))
  refine Cw_seq (Cw_seq (Cw_region (by kernel_rfl) ?_))
  refine s_assign (Fl_nil (th_n ?_))
  refine Cw_block ?_
  refine Cw_loop (fun m f w' => ∃ g j z, f = sets [(0, .slice a n cap), (3, .int .i64 z), (4, .int .i64 ((j : Nat) : Int))] g ∧ j ≤ n ∧ 0 ≤ z ∧ z ≤ 16777216 ∧ w = w' ∧ m = n - j) (n - 0)
    ⟨_, 0, 8 * (n : Int), sets_known ⟨rfl, rfl, rfl, trivial⟩, by omega, by omega, by omega, rfl, rfl⟩ ?_
  rintro m f w' ⟨g, j, z, rfl, hj, hz, hz', rfl, rfl⟩
  refine Cw_seq (Cw_seq (Cw_region (by kernel_rfl) ?_))
  refine s_move (s_move (s_lenS rfl (by kernel_rfl) (s_lss rfl rfl (Fl_nil (th_n ?_)))))
  refine Cw_cond rfl rfl (fun hb => ?_) (fun hb => ?_)
  · have hj' : j < n := by have := of_decide_eq_true hb; omega
    obtain ⟨b, o, u, rfl, hu, a2, cap2, rfl, _, _⟩ := hcell j hj'
    have hl := hlen j hj'
    refine Cw_skip (th_n ?_)
    refine Cw_seq (Cw_block ?_)
    refine Cw_seq (Cw_region (by kernel_rfl) ?_)
    refine s_move (s_move (s_move (s_indexO rfl rfl rfl hj' (by kernel_rfl) (s_load rfl (by kernel_rfl) hu (s_lenS rfl (by kernel_rfl) (s_mul rfl rfl (by omega) (s_add rfl rfl (by omega) (s_assign (Fl_nil (th_n ?_))))))))))
    refine Cw_seq (Cw_region (by kernel_rfl) ?_)
    refine s_move (s_gtr rfl rfl (Fl_nil (th_n ?_)))
    refine Cw_cond rfl rfl (fun hd => ?_) (fun hd => ?_)
    · refine Cw_seq (Cw_region (by kernel_rfl) ?_)
      refine s_move (s_assign (Fl_nil (th_n ?_)))
      exact Cw_ret ⟨⟨_, rfl⟩, rfl⟩
    have hd' := of_decide_eq_false hd
    refine Cw_skip (ib_n (th_n ?_))
    refine Cw_region (by kernel_rfl) ?_
    refine s_move (s_add rfl rfl (by omega) (s_assign (Fl_nil (th_n ?_))))
    exact ⟨n - (j + 1), by omega, _, j + 1, _, sets_known ⟨rfl, rfl, rfl, trivial⟩, by omega, by omega, by omega, rfl, rfl⟩
  · refine Cw_exit (ex_th (ex_th (ex_in (th_n ?_))))
    refine Cw_seq (Cw_region (by kernel_rfl) ?_)
    refine s_move (s_assign (Fl_nil (th_n ?_)))
    exact Cw_ret ⟨⟨_, rfl⟩, rfl⟩

/-- zzCloneInt32s. -/
theorem clone1_any (w : World) (v : Value) (n : Nat) (c : Nat → Int) (hv : jrow w v n c) (hn : n ≤ 1048576) :
    Calls Try.prog 35 #[v] w fun e w' => ∃ r, e = .returned r ∧ (irow (new w w') w' r n c ∧ Keeps w w' noB) := by
  obtain ⟨a, cap, rfl, ha0, hcell⟩ := hv
  refine enter1 (args := [_]) (R := fun r w' => irow (new w w') w' r n c ∧ Keeps w w' noB) Try.func35 rfl Try.ntmps35 Try.results35 rfl rfl ?_
  refine Cw_seq (Cw_region (by kernel_rfl) ?_)
  refine s_assign (Fl_nil (th_n ?_))
  refine Cw_seq (Cw_seq (Cw_region (by kernel_rfl) ?_))
  refine s_move (s_eqlNilS rfl (by kernel_rfl) (Fl_nil (th_n ?_)))
  refine Cw_cond rfl rfl (fun hb => ?_) (fun hb => ?_)
  · refine Cw_seq (Cw_region (by kernel_rfl) ?_)
    refine s_assign (Fl_nil (th_n ?_))
    exact Cw_ret ⟨.inl ⟨rfl, (ha0 (by cases a <;> simp_all)).1⟩, Keeps.refl _ _⟩
  refine Cw_skip (th_n ?_)
  refine Cw_seq (Cw_region (by kernel_rfl) ?_)
  refine s_move (s_lenS rfl (by kernel_rfl) (s_make rfl rfl rfl rfl (Nat.le_refl _) slz35 rfl (by omega) (by omega) fun w1 ha1 hk1 hz1 => (s_assign (Fl_nil (th_n ?_)))))
  refine Cw_seq (Cw_seq (Cw_region (by kernel_rfl) ?_))
  refine s_assign (Fl_nil (th_n ?_))
  refine Cw_block ?_
  refine Cw_loop (fun m f w' => ∃ g j G, f = sets [(0, .slice a n cap), (3, .slice (some ⟨w.heap.size, 0, none⟩) n n), (4, .int .i64 ((j : Nat) : Int))] g ∧ j ≤ n ∧ arr w' w.heap.size 21 n G ∧ (∀ i, i < j → G i = .int .i32 (c i)) ∧ Keeps w w' noB ∧ m = n - j) (n - 0)
    ⟨_, 0, _, sets_known ⟨rfl, rfl, rfl, trivial⟩, by omega, ha1, fun i hi => by omega, hk1, rfl⟩ ?_
  clear ha1 hk1 hz1
  rintro m f w' ⟨g, j, G, rfl, hj, hG, hGi, hk, rfl⟩
  refine Cw_seq (Cw_seq (Cw_region (by kernel_rfl) ?_))
  refine s_move (s_move (s_lenS rfl (by kernel_rfl) (s_lss rfl rfl (Fl_nil (th_n ?_)))))
  refine Cw_cond rfl rfl (fun hb => ?_) (fun hb => ?_)
  · have hj' : j < n := by have := of_decide_eq_true hb; omega
    obtain ⟨b, o, rfl, hu⟩ := hcell j hj'
    refine Cw_skip (th_n ?_)
    refine Cw_seq (Cw_block (Cw_region (by kernel_rfl) ?_))
    refine s_move (s_move (s_move (s_move (s_indexO rfl rfl rfl hj' (by kernel_rfl) (s_load rfl (by kernel_rfl) (keep_cell hk (fun h => h) hu) (s_index rfl rfl rfl hj' (by kernel_rfl) (s_store (v := .int .i32 (c j)) rfl rfl (by kernel_rfl) rfl (hG.cell hj') (hG.frozen j) (Fl_nil (ib_n (th_n ?_))))))))))
    refine Cw_region (by kernel_rfl) ?_
    refine s_move (s_add rfl rfl (by omega) (s_assign (Fl_nil (th_n ?_))))
    refine ⟨n - (j + 1), by omega, _, j + 1, _, sets_known ⟨rfl, rfl, rfl, trivial⟩, by omega, hG.set j _, fun i hi => ?_, hk.trans (Keeps.setCell _ _ _) (fun _ _ h => h) (fun q hq h => by have h : q = w.heap.size := h; omega), rfl⟩
    by_cases hij : i = j
    · subst hij; rw [upd_same]
    · rw [upd_ne _ _ hij]; exact hGi i (by omega)
  · have hj' : j = n := by have := of_decide_eq_false hb; omega
    subst hj'
    refine Cw_exit (ex_th (ex_th (ex_in (th_n ?_))))
    refine Cw_seq (Cw_region (by kernel_rfl) ?_)
    refine s_move (s_assign (Fl_nil (th_n ?_)))
    refine Cw_ret ⟨.inr ⟨w.heap.size, 0, j, ⟨Nat.le_refl _, hG.lt⟩, rfl, fun i hi => ?_⟩, hk⟩
    rw [Nat.zero_add, hG.cell hi, hGi i hi]

/-- zzCloneRows. -/
theorem clone_any (w : World) (v : Value) (n : Nat) (len : Nat → Nat) (c : Nat → Nat → Int) (hv : jrows w v n len c) (hn : n ≤ 1048576) (hlen : ∀ i, i < n → len i ≤ 1048576) :
    Calls Try.prog 13 #[v] w fun e w' => ∃ r, e = .returned r ∧ (irows (new w w') w' r n len c ∧ Keeps w w' noB) := by
  have hv0 := hv
  obtain ⟨a, cap, rfl, ha0, hcell⟩ := hv
  refine enter1 (args := [_]) (R := fun r w' => irows (new w w') w' r n len c ∧ Keeps w w' noB) Try.func13 rfl Try.ntmps13 Try.results13 rfl rfl ?_
  refine Cw_seq (Cw_region (by kernel_rfl) ?_)
  refine s_assign (Fl_nil (th_n ?_))
  refine Cw_seq (Cw_seq (Cw_region (by kernel_rfl) ?_))
  refine s_move (s_eqlNilS rfl (by kernel_rfl) (Fl_nil (th_n ?_)))
  refine Cw_cond rfl rfl (fun hb => ?_) (fun hb => ?_)
  · refine Cw_seq (Cw_region (by kernel_rfl) ?_)
    refine s_assign (Fl_nil (th_n ?_))
    exact Cw_ret ⟨.inl ⟨rfl, (ha0 (by cases a <;> simp_all)).1⟩, Keeps.refl _ _⟩
  refine Cw_skip (th_n ?_)
  refine Cw_seq (Cw_region (by kernel_rfl) ?_)
  refine s_move (s_lenS rfl (by kernel_rfl) (s_make rfl rfl rfl rfl (Nat.le_refl _) slz22 rfl (by omega) (by omega) fun w1 ha1 hk1 hz1 => (s_assign (Fl_nil (th_n ?_)))))
  refine Cw_seq (Cw_seq (Cw_region (by kernel_rfl) ?_))
  refine s_assign (Fl_nil (th_n ?_))
  refine Cw_block ?_
  refine Cw_loop (fun m f w' => ∃ g j V, f = sets [(0, .slice a n cap), (3, .slice (some ⟨w.heap.size, 0, none⟩) n n), (4, .int .i64 ((j : Nat) : Int))] g ∧ j ≤ n ∧ arr w' w.heap.size 35 n V ∧
    (∀ i, i < j → irow (fun k => w.heap.size < k ∧ k < w'.heap.size) w' (V i) (len i) (c i)) ∧ Keeps w w' noB ∧ w.heap.size < w'.heap.size ∧ m = n - j) (n - 0)
    ⟨_, 0, _, sets_known ⟨rfl, rfl, rfl, trivial⟩, by omega, ha1, fun i hi => by omega, hk1, by omega, rfl⟩ ?_
  clear ha1 hk1 hz1
  rintro m f w' ⟨g, j, V, rfl, hj, hV, hrows, hk, hsz, rfl⟩
  refine Cw_seq (Cw_seq (Cw_region (by kernel_rfl) ?_))
  refine s_move (s_move (s_lenS rfl (by kernel_rfl) (s_lss rfl rfl (Fl_nil (th_n ?_)))))
  refine Cw_cond rfl rfl (fun hb => ?_) (fun hb => ?_)
  · have hj' : j < n := by have := of_decide_eq_true hb; omega
    obtain ⟨b, o, u, rfl, hu, hru⟩ := hcell j hj'
    refine Cw_skip (th_n ?_)
    refine Cw_seq (Cw_block (Cw_region (by kernel_rfl) ?_))
    refine s_move (s_move (s_move (s_move (s_indexO rfl rfl rfl hj' (by kernel_rfl) (s_load rfl (by kernel_rfl) (keep_cell hk (fun h => h) hu) ?_)))))
    refine s_c1 (by kernel_rfl) rfl (clone1_any w' u (len j) (c j) (hru.keep hk) (hlen j hj')) ?_
    rintro r2 w2 ⟨hr2, hk2⟩
    have hV2 := hV.keep hk2 (fun h => h)
    obtain ⟨a3, cap3, rfl⟩ := hr2.val
    refine s_index rfl rfl rfl hj' (by kernel_rfl) (s_store (v := .slice a3 (len j) cap3) rfl rfl (by kernel_rfl) rfl (hV2.cell hj') (hV2.frozen j) (Fl_nil (ib_n (th_n ?_))))
    refine Cw_region (by kernel_rfl) ?_
    refine s_move (s_add rfl rfl (by omega) (s_assign (Fl_nil (th_n ?_))))
    have hks := Keeps.setCell w2 ⟨w.heap.size, j, none⟩ (.slice a3 (len j) cap3)
    have hs1 := hk2.size
    have hs2 := hks.size
    refine ⟨n - (j + 1), by omega, _, j + 1, _, sets_known ⟨rfl, rfl, rfl, trivial⟩, by omega, hV2.set j _, fun i hi => ?_, (hk.trans hk2 (fun _ _ h => h) (fun _ _ h => h)).trans hks (fun _ _ h => h) (fun q hq h => by have h : q = w.heap.size := h; omega), by omega, rfl⟩
    by_cases hij : i = j
    · subst hij
      rw [upd_same]
      refine irow.mono (hr2.keep hks (fun q hq _ h => by have h : q = w.heap.size := h; have := hq.1; omega)) (fun q hq => ⟨by have := hq.1; omega, by have := hq.2; omega⟩)
    · rw [upd_ne _ _ hij]
      refine irow.mono (((hrows i (by omega)).keep hk2 (fun _ _ _ h => h)).keep hks (fun q hq _ h => by have h : q = w.heap.size := h; omega)) (fun q hq => ⟨hq.1, by omega⟩)
  · have hj' : j = n := by have := of_decide_eq_false hb; omega
    subst hj'
    refine Cw_exit (ex_th (ex_th (ex_in (th_n ?_))))
    refine Cw_seq (Cw_region (by kernel_rfl) ?_)
    refine s_move (s_assign (Fl_nil (th_n ?_)))
    refine Cw_ret ⟨.inr ⟨w.heap.size, 0, j, ⟨Nat.le_refl _, hsz⟩, rfl, fun i hi => ⟨V i, ?_, (hrows i hi).mono (fun q hq => ⟨by omega, hq.2⟩)⟩⟩, hk⟩
    rw [Nat.zero_add]
    exact hV.cell hi
end Go.Proofs.Qxb6000043a

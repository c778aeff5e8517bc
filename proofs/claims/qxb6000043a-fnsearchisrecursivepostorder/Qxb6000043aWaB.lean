/-
  WALKS, B: zzVertexRows. Own work.
-/
import Derived.Test.Qxb6000043aTab
namespace Go.Proofs.Qxb6000043a
open Go.Fw
set_option maxRecDepth 10000

/-- zzVertexRows: a copy of every row, in new blocks. -/
theorem vrows_any (R : Nat → Prop) (w : World) (v : Value) (n : Nat) (len : Nat → Nat) (c : Nat → Nat → Int) (hv : irows R w v n len c) (hn : n ≤ 1048576) (hlen : ∀ i, i < n → len i ≤ 4294967296) :
    Calls Try.prog 37 #[v] w fun e w' => ∃ r, e = .returned r ∧ (irows (new w w') w' r n len c ∧ Keeps w w' noB ∧ w.heap.size < w'.heap.size) := by
  obtain ⟨a0, cap0, rfl⟩ := hv.val
  refine enter1 (args := [_]) (R := fun r w' => irows (new w w') w' r n len c ∧ Keeps w w' noB ∧ w.heap.size < w'.heap.size) Try.func37 rfl Try.ntmps37 Try.results37 rfl rfl ?_
  refine Cw_seq (Cw_region (by kernel_rfl) ?_)
  refine s_assign (Fl_nil (th_n ?_))
  refine Cw_seq (Cw_region (by kernel_rfl) ?_)
  refine s_move (s_lenS rfl (by kernel_rfl) (s_make rfl rfl rfl rfl (Nat.le_refl _) slz55 rfl (by omega) (by omega) fun w1 ha1 hk1 hz1 => s_assign (Fl_nil (th_n ?_))))
  refine Cw_seq (Cw_seq (Cw_region (by kernel_rfl) ?_))
  refine s_assign (Fl_nil (th_n ?_))
  refine Cw_block ?_
  refine Cw_loop (fun m f w' => ∃ g j V, f = sets [(0, .slice a0 n cap0), (3, .slice (some ⟨w.heap.size, 0, none⟩) n n), (4, .int .i64 ((j : Nat) : Int))] g ∧ j ≤ n ∧ arr w' w.heap.size 57 n V ∧
    (∀ i, i < j → irow (fun k => w.heap.size < k ∧ k < w'.heap.size) w' (V i) (len i) (c i)) ∧ Keeps w w' noB ∧ w.heap.size < w'.heap.size ∧ m = n - j) (n - 0)
    ⟨_, 0, _, sets_known ⟨rfl, rfl, rfl, trivial⟩, by omega, ha1, fun i hi => by omega, hk1, by omega, rfl⟩ ?_
  rintro m f w' ⟨g, j, V, rfl, hj, hV, hrows, hk, hsz, rfl⟩
  have hsrc : irows R w' (.slice a0 n cap0) n len c := hv.keep hk (fun _ _ _ h => h)
  refine Cw_seq (Cw_seq (Cw_region (by kernel_rfl) ?_))
  refine s_move (s_move (s_lenS rfl (by kernel_rfl) (s_lss rfl rfl (Fl_nil (th_n ?_)))))
  refine Cw_cond rfl rfl (fun hb => ?_) (fun hb => ?_)
  · have hb' : j < n := by have := of_decide_eq_true hb; omega
    obtain ⟨b, o, cap, hRb, he, hcell⟩ := hsrc.form hb'
    simp only [Value.slice.injEq, true_and] at he
    obtain ⟨rfl, rfl⟩ := he
    obtain ⟨u, hu, hur⟩ := hcell j hb'
    obtain ⟨a2, cap2, rfl⟩ := hur.val
    have hlj := hlen j hb'
    refine Cw_skip (th_n ?_)
    refine Cw_seq (Cw_block ?_)
    refine Cw_seq (Cw_region (by kernel_rfl) ?_)
    refine s_move (s_move (s_indexO rfl rfl rfl hb' (by kernel_rfl) (s_load rfl (by kernel_rfl) hu (s_lenS rfl (by kernel_rfl) (s_make rfl rfl rfl rfl (Nat.le_refl _) slz57 rfl (by omega) (by omega) fun w2 ha2 hk2 hz2 => s_assign (Fl_nil (th_n ?_)))))))
    refine Cw_seq (Cw_seq (Cw_region (by kernel_rfl) ?_))
    refine s_assign (Fl_nil (th_n ?_))
    refine Cw_block ?_
    refine Cw_loop (fun m f w'' => ∃ g t G, f = sets [(0, .slice (some ⟨b, o, none⟩) n cap0), (3, .slice (some ⟨w.heap.size, 0, none⟩) n n), (4, .int .i64 ((j : Nat) : Int)), (5, .slice (some ⟨w'.heap.size, 0, none⟩) (len j) (len j)), (6, .int .i64 ((t : Nat) : Int))] g ∧
      t ≤ len j ∧ arr w'' w'.heap.size 54 (len j) G ∧ (∀ i, i < t → G i = .int .i32 (c j i)) ∧ Keeps w2 w'' (fun k => k = w'.heap.size) ∧ m = len j - t) (len j - 0)
      ⟨_, 0, _, sets_known ⟨rfl, rfl, rfl, rfl, rfl, trivial⟩, by omega, ha2, fun i hi => by omega, Keeps.refl _ _, rfl⟩ ?_
    rintro m f w'' ⟨g, t, G, rfl, ht, hG, hGi, hk3, rfl⟩
    have hk4 : Keeps w' w'' noB := hk2.trans hk3 (fun _ _ h => h) (fun k hk h => by omega)
    have hu' := keep_cell hk4 (fun h => h) hu
    have hur' := hur.keep hk4 (fun _ _ _ h => h)
    refine Cw_seq (Cw_seq (Cw_region (by kernel_rfl) ?_))
    refine s_move (s_move (s_move (s_indexO rfl rfl rfl hb' (by kernel_rfl) (s_load rfl (by kernel_rfl) hu' (s_lenS rfl (by kernel_rfl) (s_lss rfl rfl (Fl_nil (th_n ?_))))))))
    refine Cw_cond rfl rfl (fun hc => ?_) (fun hc => ?_)
    · have hc' : t < len j := by have := of_decide_eq_true hc; omega
      obtain ⟨b3, o3, cap3, hR3, he3, hcell3⟩ := hur'.form hc'
      simp only [Value.slice.injEq, true_and] at he3
      obtain ⟨rfl, rfl⟩ := he3
      refine Cw_skip (th_n ?_)
      refine Cw_seq (Cw_block ?_)
      refine Cw_region (by kernel_rfl) ?_
      refine s_move (s_move (s_move (s_move (s_indexO rfl rfl rfl hb' (by kernel_rfl) (s_load rfl (by kernel_rfl) hu' (s_move (s_indexO rfl rfl rfl hc' (by kernel_rfl) (s_load rfl (by kernel_rfl) (hcell3 t hc') (s_index rfl rfl rfl hc' (by kernel_rfl) (s_store rfl rfl (by kernel_rfl) rfl (hG.cell hc') (hG.frozen t) (Fl_nil (ib_n (th_n ?_)))))))))))))
      refine Cw_region (by kernel_rfl) ?_
      refine s_move (s_add rfl rfl (by omega) (s_assign (Fl_nil ?_)))
      refine ⟨len j - (t + 1), by omega, _, t + 1, _, sets_known ⟨rfl, rfl, rfl, rfl, rfl, trivial⟩, by omega, hG.set t _, fun i hi => ?_, hk3.trans (Keeps.setCell _ _ _) (fun _ _ h => h) (fun _ _ h => h), rfl⟩
      by_cases hit : i = t
      · subst hit; exact upd_same _ _ _
      · rw [upd_ne _ _ hit]; exact hGi i (by omega)
    · have hc' : t = len j := by have := of_decide_eq_false hc; omega
      refine Cw_exit (ex_th (ex_th (ex_in (th_n ?_))))
      refine Cw_region (by kernel_rfl) ?_
      have hV' : arr w'' w.heap.size 57 n V := hV.keep hk4 (fun h => h)
      refine s_move (s_move (s_move (s_index rfl rfl rfl hb' (by kernel_rfl) (s_store rfl rfl (by kernel_rfl) rfl (hV'.cell hb') (hV'.frozen j) (Fl_nil (ib_n (th_n ?_)))))))
      refine Cw_region (by kernel_rfl) ?_
      refine s_move (s_add rfl rfl (by omega) (s_assign (Fl_nil ?_)))
      have hsz3 : w'.heap.size < w''.heap.size := by have := hk3.size; omega
      have hks : Keeps w'' (w''.setCell ⟨w.heap.size, j, none⟩ (.slice (some ⟨w'.heap.size, 0, none⟩) (len j) (len j))) (fun k => k = w.heap.size) := Keeps.setCell _ _ _
      refine ⟨n - (j + 1), by omega, _, j + 1, _, sets_known ⟨rfl, rfl, rfl, trivial⟩, by omega, hV'.set j _, fun i hi => ?_, ?_, by rw [size_setCell]; omega, rfl⟩
      · by_cases hij : i = j
        · subst hij
          rw [upd_same]
          refine .inr ⟨w'.heap.size, 0, len i, ⟨hsz, by rw [size_setCell]; exact hsz3⟩, rfl, fun q hq => ?_⟩
          have := (hG.keep hks (show ¬ w'.heap.size = w.heap.size by omega)).cellv hq (hGi q (by omega))
          rw [Nat.zero_add]
          exact this
        · rw [upd_ne _ _ hij]
          refine (((hrows i (by omega)).keep hk4 (fun _ _ _ h => h)).keep hks (fun k hk _ h => by omega)).mono (fun k hk => ⟨hk.1, ?_⟩)
          rw [size_setCell]
          have := hk4.size
          omega
      · exact (hk.trans hk4 (fun _ _ h => h) (fun _ _ h => h)).trans hks (fun _ _ h => h) (fun k hk h => by omega)
  · have hb' : j = n := by have := of_decide_eq_false hb; omega
    subst hb'
    refine Cw_exit (ex_th (ex_th (ex_in (th_n ?_))))
    refine Cw_seq (Cw_region (by kernel_rfl) ?_)
    refine s_move (s_assign (Fl_nil (th_n ?_)))
    refine Cw_ret ?_
    refine ⟨.inr ⟨w.heap.size, 0, j, ⟨Nat.le_refl _, hsz⟩, rfl, fun i hi => ⟨V i, ?_, (hrows i hi).mono fun k hk => ⟨by omega, hk.2⟩⟩⟩, hk, hsz⟩
    rw [Nat.zero_add]
    exact hV.cell hi
end Go.Proofs.Qxb6000043a

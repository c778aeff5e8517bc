/-
  WALKS, R: zzPostorder, zzSameInt32s, zzPositions. Own work.
-/
import Derived.Test.Qxb6000043aWaQ
namespace Go.Proofs.Qxb6000043a
open Go.Fw Go.Proofs.Qxb6000043a.Pl Go.RowKit
set_option maxRecDepth 10000

theorem unseen_all (n : Nat) : unseen (fun _ => 0) n ≤ n := by
  have := sum_const (fun x => if (fun _ : Nat => (0 : Int)) x = 0 then 1 else 0) 1 n (fun i _ => by simp)
  unfold unseen
  omega
theorem postorder_any (G : Gr) (hG : G.Ok) (hn : G.n ≤ 4096) (hlen : ∀ i, i < G.n → G.len i ≤ 1048576) (bw : Bool) (r : Nat) (hr : r < G.n) (R : Nat → Prop) (w : World) (vE : Value) (hE : irows R w vE G.n G.len (fun x i => (G.e x i : Int))) (hR : ∀ k, R k → k < w.heap.size) :
    Calls Try.prog 24 #[vE, .int .i32 (r : Int), .bool bw] w fun e w' => ∃ v, e = .returned v ∧ (∃ k left' order', iter G bw k (init r) = ⟨left', order', []⟩ ∧ w'.ownsRow 0 21 1 v order'.length (i32s order') ∧ Keeps w w' noB) := by
  obtain ⟨a, cap, rfl⟩ := hE.val
  refine enter1 (args := [_, _, _]) (R := fun v w' => ∃ k left' order', iter G bw k (init r) = ⟨left', order', []⟩ ∧ w'.ownsRow 0 21 1 v order'.length (i32s order') ∧ Keeps w w' noB) Try.func24 rfl Try.ntmps24 Try.results24 rfl rfl ?_
  refine Cw_seq (Cw_region (by kernel_rfl) ?_)
  refine s_assign (Fl_nil (th_n ?_))
  refine Cw_seq (Cw_region (by kernel_rfl) ?_)
  refine s_move (s_lenS rfl (by kernel_rfl) (s_make rfl rfl rfl rfl (Nat.le_refl _) slz41 rfl (by omega) (by omega) fun w1 ha1 hk1 hz1 => (s_assign (Fl_nil (th_n ?_)))))
  refine Cw_seq (Cw_region (by kernel_rfl) ?_)
  refine s_move (s_move (s_move (s_move ?_)))
  have hV : Vis G R w1 (.slice a G.n cap) (.slice none 0 0) w.heap.size (fun _ => 0) [] := by
    refine ⟨hE.keep hk1 (fun _ _ _ h => h), ha1.congr (fun x _ => by simp [seenB]), World.ownsRow_nil _ _ _ _, (fun g hg => by cases hg), fun k hk => ?_, ?_⟩
    · have := hR k hk
      omega
    · have := unseen_all G.n
      simp only [List.length_nil]
      omega
  refine s_c5 (by kernel_rfl) rfl rfl rfl rfl rfl (visit_any G hG hn hlen bw R w.heap.size _ (fun _ => 0) [] [] r w1 _ (.slice none 0 0) hr rfl (Nat.le_refl _) hV) ?_
  rintro v2 w2 ⟨k, lf, od, hit, hV2, _, _, _, hk2, _⟩
  refine s_assign (Fl_nil (th_n ?_))
  refine Cw_ret ⟨k, lf, od, hit, hV2.od, hk1.trans hk2 (fun _ _ h => h) (fun q hq h => ?_)⟩
  rcases h with h | h
  · omega
  · cases h

/-- zzSameInt32s at two slices that hold the same. -/
theorem same_any (w : World) (bA : Nat) (vB : Value) (L : List Nat) (hA : arr w bA 21 L.length (fun i => .int .i32 ((L.getD i 0 : Nat) : Int))) (hB : w.ownsRow 0 21 1 vB L.length (i32s L)) (hn : L.length ≤ 1048576) :
    Calls Try.prog 25 #[whole bA L.length, vB] w fun e w' => ∃ v, e = .returned v ∧ (v = .bool true ∧ Keeps w w' noB) := by
  obtain ⟨aB, capB, rfl, _⟩ := own_val hB
  refine enter1 (args := [_, _]) (R := fun v w' => v = .bool true ∧ Keeps w w' noB) Try.func25 rfl Try.ntmps25 Try.results25 rfl rfl ?_
  refine Cw_seq (Cw_region (by kernel_rfl) ?_)
  refine s_assign (Fl_nil (th_n ?_))
  refine Cw_seq (Cw_seq (Cw_region (by kernel_rfl) ?_))
  refine s_move (s_lenS rfl (by kernel_rfl) (s_move (s_lenS rfl (by kernel_rfl) (s_neq rfl rfl (Fl_nil (th_n ?_))))))
  refine Cw_cond rfl rfl (fun hb => ?_) (fun hb => ?_)
  · exact ((of_decide_eq_true hb) rfl).elim
  refine Cw_skip (th_n ?_)
  refine Cw_seq (Cw_seq (Cw_region (by kernel_rfl) ?_))
  refine s_assign (Fl_nil (th_n ?_))
  refine Cw_block ?_
  refine Cw_loop (fun m f w' => ∃ g j, f = sets [(0, whole bA L.length), (1, .slice aB L.length capB), (5, .int .i64 ((j : Nat) : Int))] g ∧ j ≤ L.length ∧ Keeps w w' noB ∧ m = L.length - j) (L.length - 0)
    ⟨_, 0, sets_known ⟨rfl, rfl, rfl, trivial⟩, Nat.zero_le _, Keeps.refl _ _, rfl⟩ ?_
  rintro m f w' ⟨g, j, rfl, hj, hk, rfl⟩
  refine Cw_seq (Cw_seq (Cw_region (by kernel_rfl) ?_))
  refine s_move (s_move (s_lenS rfl (by kernel_rfl) (s_lss rfl rfl (Fl_nil (th_n ?_)))))
  refine Cw_cond rfl rfl (fun hb => ?_) (fun hb => ?_)
  · have hj' : j < L.length := by have := of_decide_eq_true hb; omega
    obtain ⟨gO, capO, he, _⟩ := own_some hB (by omega)
    simp only [Value.slice.injEq, true_and] at he
    obtain ⟨rfl, rfl⟩ := he
    have hc := own_cell (own_keep hB hk (fun _ _ h => h)) (j := j) (u := .int .i32 ((L.getD j 0 : Nat) : Int)) (by omega) (by simp [i32s, hj'])
    refine Cw_skip (th_n ?_)
    refine Cw_seq (Cw_block (Cw_seq ?_))
    refine Cw_drawn [(0, 0), (1, 0), (2, 0), (3, 1), (4, 0), (5, 0), (6, 0), (7, 1), (8, 0)] [0, 1, 2, 3, 4, 5, 6, 7, 8] (Ext w') (by kernel_rfl) (by kernel_rfl) (by kernel_rfl) (by kernel_rfl) ?_
    have hS : Ext w' w'.drew := fun _ _ => rfl
    refine o0 rfl rfl (fun _ => r_move) (o0 rfl rfl (fun _ => r_move) (o0 rfl rfl (fun _ => r_index1 rfl rfl rfl hj' (by kernel_rfl)) (o1 rfl hS rfl (fun _ hw => r_load rfl (by kernel_rfl) (hw.cell ((hA.keep hk (fun h => h)).cell hj'))) (o0 rfl rfl (fun _ => r_move) (o0 rfl rfl (fun _ => r_move) (o0 rfl rfl (fun _ => r_index1 rfl rfl rfl hj' (by kernel_rfl)) (o1 rfl hS rfl (fun _ hw => r_load rfl (by kernel_rfl) (hw.cell hc)) (o0 rfl rfl (fun _ => r_neq rfl rfl) (Fo_nil (th_n ?_))))))))))
    refine Cw_cond rfl rfl (fun hd => ?_) (fun hd => ?_)
    · exact ((of_decide_eq_true hd) rfl).elim
    refine Cw_skip (ib_n (th_n ?_))
    refine Cw_region (by kernel_rfl) ?_
    refine s_move (s_add rfl rfl (by omega) (s_assign (Fl_nil (th_n ?_))))
    exact ⟨L.length - (j + 1), by omega, _, j + 1, sets_known ⟨rfl, rfl, rfl, trivial⟩, by omega, hk.trans (Keeps.drew w' noB) (fun _ _ h => h) (fun _ _ h => h), rfl⟩
  · refine Cw_exit (ex_th (ex_th (ex_in (th_n ?_))))
    refine Cw_seq (Cw_region (by kernel_rfl) ?_)
    refine s_assign (Fl_nil (th_n ?_))
    exact Cw_ret ⟨rfl, hk⟩

/-- zzPositions. -/
theorem positions_any (w : World) (vB : Value) (L : List Nat) (n : Nat) (hB : w.ownsRow 0 21 1 vB L.length (i32s L)) (hL : L.length ≤ 1048576) (hn : n ≤ 1048576) (hlt : ∀ x, x ∈ L → x < n) (hnd : L.Nodup) :
    Calls Try.prog 26 #[vB, .int .i64 (n : Int)] w fun e w' => ∃ v, e = .returned v ∧ (∃ ps : Nat → Nat, v = whole w.heap.size n ∧ arr w' w.heap.size 3 n (fun x => .int .i64 (ps x : Int)) ∧ (∀ (i : Nat) x, L[i]? = some x → ps x = i + 1) ∧ (∀ x, x ∉ L → ps x = 0) ∧ Keeps w w' noB) := by
  obtain ⟨aB, capB, rfl, _⟩ := own_val hB
  refine enter1 (args := [_, _]) (R := fun v w' => ∃ ps : Nat → Nat, v = whole w.heap.size n ∧ arr w' w.heap.size 3 n (fun x => .int .i64 (ps x : Int)) ∧ (∀ (i : Nat) x, L[i]? = some x → ps x = i + 1) ∧ (∀ x, x ∉ L → ps x = 0) ∧ Keeps w w' noB) Try.func26 rfl Try.ntmps26 Try.results26 rfl rfl ?_
  refine Cw_seq (Cw_region (by kernel_rfl) ?_)
  refine s_assign (Fl_nil (th_n ?_))
  refine Cw_seq (Cw_region (by kernel_rfl) ?_)
  refine s_move (s_make rfl rfl rfl rfl (Nat.le_refl _) slz39 rfl (by omega) (by omega) fun w1 ha1 hk1 hz1 => (s_assign (Fl_nil (th_n ?_))))
  refine Cw_seq (Cw_seq (Cw_region (by kernel_rfl) ?_))
  refine s_assign (Fl_nil (th_n ?_))
  refine Cw_block ?_
  refine Cw_loop (fun m f w' => ∃ g j ps, f = sets [(0, .slice aB L.length capB), (5, whole w.heap.size n), (6, .int .i64 ((j : Nat) : Int))] g ∧ j ≤ L.length ∧ arr w' w.heap.size 3 n (fun x => .int .i64 ((ps x : Nat) : Int)) ∧ (∀ (i : Nat) x, i < j → L[i]? = some x → ps x = i + 1) ∧ (∀ x, x ∉ L → ps x = 0) ∧ Keeps w w' noB ∧ m = L.length - j) (L.length - 0)
    ⟨_, 0, fun _ => 0, sets_known ⟨rfl, rfl, rfl, trivial⟩, Nat.zero_le _, ha1, fun i x hi => by omega, fun _ _ => rfl, hk1, rfl⟩ ?_
  clear ha1 hk1 hz1
  rintro m f w' ⟨g, j, ps, rfl, hj, hps, hp1, hp2, hk, rfl⟩
  refine Cw_seq (Cw_seq (Cw_region (by kernel_rfl) ?_))
  refine s_move (s_move (s_lenS rfl (by kernel_rfl) (s_lss rfl rfl (Fl_nil (th_n ?_)))))
  refine Cw_cond rfl rfl (fun hb => ?_) (fun hb => ?_)
  · have hj' : j < L.length := by have := of_decide_eq_true hb; omega
    obtain ⟨gO, capO, he, _⟩ := own_some hB (by omega)
    simp only [Value.slice.injEq, true_and] at he
    obtain ⟨rfl, rfl⟩ := he
    have hxm : L[j] ∈ L := List.getElem_mem hj'
    have hxn := hlt _ hxm
    have hxe : L[j]? = some L[j] := List.getElem?_eq_getElem hj'
    have hc := own_cell (own_keep hB hk (fun _ _ h => h)) (j := j) (u := .int .i32 ((L[j] : Nat) : Int)) (by omega) (by simp [i32s, hj'])
    generalize L[j] = x at hxm hxn hxe hc
    refine Cw_skip (th_n ?_)
    refine Cw_seq (Cw_block (Cw_region (by kernel_rfl) ?_))
    refine s_move (s_move (s_move (s_index rfl rfl rfl hj' (by kernel_rfl) (s_load rfl (by kernel_rfl) hc (s_move (s_add rfl rfl (by omega) (s_index rfl rfl rfl hxn (by kernel_rfl) (s_store (v := .int .i64 ((j + 1 : Nat) : Int)) rfl rfl (by kernel_rfl) rfl (hps.cell hxn) (hps.frozen x) (Fl_nil (ib_n (th_n ?_)))))))))))
    refine Cw_region (by kernel_rfl) ?_
    refine s_move (s_add rfl rfl (by omega) (s_assign (Fl_nil (th_n ?_))))
    refine ⟨L.length - (j + 1), by omega, _, j + 1, _, sets_known ⟨rfl, rfl, rfl, trivial⟩, by omega, arr_setN hps x (j + 1), fun i y hi hy => ?_, fun y hy => ?_, hk.trans (Keeps.setCell _ _ _) (fun _ _ h => h) (fun q hq h => by have h : q = w.heap.size := h; omega), rfl⟩
    · by_cases hij : i = j
      · subst hij
        rw [hxe] at hy; cases hy
        simp [setN]
      · have hyx : y ≠ x := fun e => by
          subst e
          have h1 := (List.getElem?_eq_some_iff.1 hy)
          have h2 := (List.getElem?_eq_some_iff.1 hxe)
          obtain ⟨l1, e1⟩ := h1
          obtain ⟨l2, e2⟩ := h2
          exact hij ((List.getElem_inj hnd).1 (e1.trans e2.symm))
        simp only [setN, hyx, if_false]
        exact hp1 i y (by omega) hy
    · have hyx : y ≠ x := fun e => hy (e ▸ hxm)
      simp only [setN, hyx, if_false]
      exact hp2 y hy
  · have hj' : j = L.length := by have := of_decide_eq_false hb; omega
    refine Cw_exit (ex_th (ex_th (ex_in (th_n ?_))))
    refine Cw_seq (Cw_region (by kernel_rfl) ?_)
    refine s_move (s_assign (Fl_nil (th_n ?_)))
    exact Cw_ret ⟨ps, rfl, hps, fun i x hx => hp1 i x (by have := (List.getElem?_eq_some_iff.1 hx).1; omega) hx, hp2, hk⟩
end Go.Proofs.Qxb6000043a

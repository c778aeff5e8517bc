/-
  WALKS, F: (*stepBound).search. Own work.
-/
import Derived.Test.Qxb6000043aWaE
namespace Go.Fw
/-- Both ways through an 'if' meet again. -/
theorem Cw_join {P : Program} {N : Nat} {K : (Nat → Value) → World → Prop} {Q : Exit → (Nat → Value) → World → Prop} {f : Nat → Value} {w : World} {t : Nat} {x y : Code} {b : Bool} (ht : decide (t < N) = true) (hb : f t = .bool b) (L : List (Nat × Value))
    (h1 : b = true → Cw P N x (thn (fun f' w' => (∃ g, f' = sets L g) ∧ w' = w) (fun _ _ _ => False)) f w) (h2 : b = false → Cw P N y (thn (fun f' w' => (∃ g, f' = sets L g) ∧ w' = w) (fun _ _ _ => False)) f w)
    (h : ∀ g, K (sets L g) w) : Cw P N (.cond (.tmp t) x y) (thn K Q) f w := by
  have key : ∀ e f' w', thn (fun f' w' => (∃ g, f' = sets L g) ∧ w' = w) (fun _ _ _ => False) e f' w' → thn K Q e f' w' := by
    intro e f' w' hh
    cases e with
    | normal => obtain ⟨⟨g, rfl⟩, rfl⟩ := hh; exact h g
    | _ => exact hh.elim
  exact Cw_cond ht hb (fun hb' => Cw_mono (h1 hb') key) (fun hb' => Cw_mono (h2 hb') key)
theorem own_val {w : World} {e : TypeId} {s n : Nat} {v : Value} {xs : List Value} (h : w.ownsRow 0 e s v n xs) : ∃ a cap, v = .slice a n cap ∧ n ≤ cap := by
  rcases h.2 with ⟨rfl, rfl⟩ | ⟨g, cap, cur, rfl, _, _, h1, _⟩
  · exact ⟨_, _, rfl, Nat.le_refl _⟩
  · exact ⟨_, _, rfl, h1⟩
theorem own_some {w : World} {e : TypeId} {s n : Nat} {v : Value} {xs : List Value} (h : w.ownsRow 0 e s v n xs) (hn : 0 < n) : ∃ g cap, v = .slice (some ⟨g, 0, none⟩) n cap ∧ n ≤ cap := by
  rcases h.2 with ⟨_, rfl⟩ | ⟨g, cap, cur, rfl, _, _, h1, _⟩
  · omega
  · exact ⟨_, _, rfl, h1⟩
end Go.Fw
namespace Go.Proofs.Qxb6000043a
open Go.Fw Go.Proofs.Qxb6000043a.Pl Go.RowKit
set_option maxRecDepth 10000

theorem le_sumTo (g : Nat → Nat) (v : Nat) : ∀ n, v < n → g v ≤ sumTo g n
  | 0, h => by omega
  | n + 1, h => by
    simp only [sumTo]
    by_cases hv : v = n
    · subst hv; exact Nat.le_add_left _ _
    · exact Nat.le_trans (le_sumTo g v n (by omega)) (Nat.le_add_right _ _)
theorem n_le_sumTo (g : Nat → Nat) : ∀ n, n ≤ sumTo (fun v => g v + 1) n
  | 0 => Nat.le_refl _
  | n + 1 => by have := n_le_sumTo g n; simp only [sumTo]; omega

set_option maxHeartbeats 4000000 in
theorem search_any (G : Gr) (hG : G.Ok) (bw : Bool) (r : Nat) (hr : r < G.n) (hT : sumTo (fun v => G.len v + 1) G.n ≤ 1073741824) (RE : Nat → Prop) (w : World) (B BL : Nat) (x : Fix) (wk : Int)
    (hst : arr w B 60 14 (x.F BL G.n wk (.slice none 0 0) (.slice none 0 0))) (hle : arr w BL 21 G.n z32) (hE : irows RE w x.vE G.n G.len (fun v i => (G.e v i : Int))) (hne : B ≠ BL) (hRE : ∀ k, RE k → k ≠ B ∧ k ≠ BL ∧ k < w.heap.size) :
    Calls Try.prog 39 #[.pointer (some ⟨B, 0, none⟩), .int .i32 (r : Int), .bool bw] w fun ee w' => ∃ v, ee = .returned v ∧ (∃ k vO vPa wk', Rep w' w.heap.size B BL G.n x vO vPa wk' (iter G bw k (init r)) ∧ (iter G bw k (init r)).path = [] ∧ Keeps w w' (fun q => q = B ∨ q = BL)) := by
  have hB := hst.lt
  have hBL := hle.lt
  have hlen : ∀ v, v < G.n → G.len v + 1 ≤ 1073741824 := fun v hv => Nat.le_trans (le_sumTo (fun v => G.len v + 1) v G.n hv) hT
  have hn : G.n ≤ 1073741824 := Nat.le_trans (n_le_sumTo G.len G.n) hT
  obtain ⟨aE, cE, hvE⟩ := hE.val
  refine enter0 (args := [_, _, _]) (R := fun w' => ∃ k vO vPa wk', Rep w' w.heap.size B BL G.n x vO vPa wk' (iter G bw k (init r)) ∧ (iter G bw k (init r)).path = [] ∧ Keeps w w' (fun q => q = B ∨ q = BL)) Try.func39 rfl Try.ntmps39 Try.results39 rfl ?_
  refine Cw_seq (Cw_seq (Cw_region (by kernel_rfl) ?_))
  refine s_move (s_nilP rfl (s_field rfl (by kernel_rfl) (s_load rfl (by kernel_rfl) (hst.cell (i := 6) (by omega)) (s_lenS rfl (by kernel_rfl) (s_move (Fl_nil (th_n ?_)))))))
  refine Cw_block ?_
  -- nothing lies in the order yet
  refine Cw_loop (fun m f w' => ∃ g, f = sets [(0, .pointer (some ⟨B, 0, none⟩)), (1, .int .i32 (r : Int)), (2, .bool bw), (16, .int .i64 ((0 : Nat) : Int)), (17, .int .i64 ((0 : Nat) : Int))] g ∧ w = w') 0 ⟨_, sets_known ⟨rfl, rfl, rfl, rfl, rfl, trivial⟩, rfl⟩ ?_
  rintro m f w' ⟨g, rfl, rfl⟩
  refine Cw_seq (Cw_region (by kernel_rfl) ?_)
  refine s_lss rfl rfl (Fl_nil (th_n ?_))
  refine Cw_seq (Cw_false rfl rfl (by simp) ?_)
  refine Cw_exit (ex_th (ex_th (ex_in (th_n ?_))))
  refine Cw_seq (Cw_region (by kernel_rfl) ?_)
  refine s_move (s_move (s_nilP rfl (s_field rfl (by kernel_rfl) (s_load rfl (by kernel_rfl) (hst.cell (i := 6) (by omega)) (s_sliceTo (i := 0) rfl rfl rfl (Nat.le_refl _) (by kernel_rfl) (s_nilP rfl (s_field rfl (by kernel_rfl) (s_store (v := .slice none 0 0) rfl rfl (by kernel_rfl) rfl (hst.cell (i := 6) (by omega)) (hst.frozen 6) (Fl_nil (th_n ?_))))))))))
  have hst1 := hst.set 6 (.slice none 0 0)
  have hle1 := hle.other (a := ⟨B, 6, none⟩) (fun e => hne e.symm) (.slice none 0 0)
  have hk1 := Keeps.setCell w ⟨B, 6, none⟩ (.slice none 0 0)
  generalize hw1 : w.setCell ⟨B, 6, none⟩ (.slice none 0 0) = w1 at hst1 hle1 hk1 ⊢
  have hst1' : arr w1 B 60 14 (x.F BL G.n wk (.slice none 0 0) (.slice none 0 0)) := hst1.congr (fun i hi => by
    match i, hi with
    | 0, _ | 1, _ | 2, _ | 3, _ | 4, _ | 5, _ | 6, _ | 7, _ | 8, _ | 9, _ | 10, _ | 11, _ | 12, _ | 13, _ => rfl)
  clear hst1
  refine Cw_seq (Cw_region (by kernel_rfl) ?_)
  refine s_move (s_nilP rfl (s_field rfl (by kernel_rfl) (s_load rfl (by kernel_rfl) (hst1'.cell (i := 5) (by omega)) (s_move (s_index rfl rfl rfl hr (by kernel_rfl) (s_store (v := .int .i32 (-1)) rfl rfl (by kernel_rfl) rfl (hle1.cell hr) (hle1.frozen r) (Fl_nil (th_n ?_))))))))
  have hk2 := Keeps.setCell w1 ⟨BL, r, none⟩ (.int .i32 (-1))
  have hle2 := hle1.set r (.int .i32 (-1))
  have hst2 := hst1'.other (a := ⟨BL, r, none⟩) hne (.int .i32 (-1))
  generalize hw2 : w1.setCell ⟨BL, r, none⟩ (.int .i32 (-1)) = w2 at hst2 hle2 hk2 ⊢
  have hR0 : Rep w2 w.heap.size B BL G.n x (.slice none 0 0) (.slice none 0 0) wk ⟨(init r).left, [], []⟩ := by
    refine ⟨hst2, hle2.congr (fun i _ => ?_), World.ownsRow_nil _ _ _ _, World.ownsRow_nil _ _ _ _, fun g hg => by simp [Value.ownBlock] at hg, fun g hg => by simp [Value.ownBlock] at hg, fun g hg => by simp [Value.ownBlock] at hg, hB, hBL, hne⟩
    by_cases hi : i = r
    · subst hi; rw [upd_same]; simp [init, setI]
    · rw [upd_ne _ _ hi]; simp [init, setI, hi, z32]
  have hks2 : Keeps w w2 (fun q => q = B ∨ q = BL) := hk1.trans hk2 (fun _ _ e => .inl e) (fun _ _ e => .inr e)
  have hH2 := hks2.size
  clear hst2 hle2 hle1 hst1' hk1 hk2
  refine Cw_seq (Cw_region (by kernel_rfl) ?_)
  refine s_move (s_move (s_nilP rfl (s_field rfl (by kernel_rfl) (s_load rfl (by kernel_rfl) (hR0.st.cell (i := 7) (by omega)) (s_sliceTo (i := 0) rfl rfl rfl (Nat.le_refl _) (by kernel_rfl) (s_move (s_build (v := .agg #[.int .i32 (r : Int), .int .i64 0]) (by kernel_rfl) (s_lit2 rfl slz58 ?_))))))))
  refine s_append (v := .slice none 0 0) (n := 0) (xs := []) (news := [.int .i32 (r : Int), .int .i64 0]) rfl rfl slz58 (by decide) rfl (World.ownsRow_nil _ _ _ _) rfl (World.news_of_block (heap_alloc_new w2 _)) (by intro u hu; simp at hu; rcases hu with rfl | rfl <;> rfl) (by decide) (by omega) (by omega) fun g3 cap3 w3 ho3 hk3 hg3 hl3 => ?_
  obtain ⟨hR1, hk4⟩ := hR0.push (y := r) ho3 hk3 hg3 hH2
  have hkw3 : Keeps w2 w3 noB := (Keeps.alloc w2 _ noB).trans hk3 (fun _ _ h => h) (fun _ _ h => by simp [Value.ownBlock] at h)
  have hst3 := hR0.st.keep hkw3 (fun h => h)
  refine s_nilP rfl (s_field rfl (by kernel_rfl) (s_store (v := .slice (some ⟨g3, 0, none⟩) (0 + 1) cap3) rfl rfl (by kernel_rfl) rfl (hst3.cell (i := 7) (by omega)) (hst3.frozen 7) (Fl_nil (th_n ?_))))
  have hks3 := hks2.trans hk4 (fun _ _ h => h) (fun k hk h => by rcases h with h | h; exact .inl h; omega)
  have hH3 := hks3.size
  clear hst3 hkw3 hk4 hR0 hH2 hks2
  refine Cw_block ?_
  refine Cw_loop (fun m f w' => ∃ g k vO vPa wk', f = sets [(0, .pointer (some ⟨B, 0, none⟩)), (1, .int .i32 (r : Int)), (2, .bool bw)] g ∧ Rep w' w.heap.size B BL G.n x vO vPa wk' (iter G bw k (init r)) ∧ Keeps w w' (fun q => q = B ∨ q = BL) ∧ w.heap.size ≤ w'.heap.size ∧
    m = mu G (iter G bw k (init r)) ∧ k + mu G (iter G bw k (init r)) = mu G (init r) ∧ (iter G bw k (init r)).path.length + (iter G bw k (init r)).order.length ≤ k + 1) (mu G (init r))
    ⟨_, 0, _, _, _, sets_known ⟨rfl, rfl, rfl, trivial⟩, hR1, hks3, hH3, rfl, Nat.zero_add _, by simp [iter, init]⟩ ?_
  clear hR1 hks3 hH3
  rintro m f w' ⟨g, k, vO, vPa, wk', rfl, hR, hks, hH, rfl, hmu, hcnt⟩
  have hwf := wf_iter G hG bw r hr k
  have hmi := mu_init_le G r hr
  have hstep : iter G bw (k + 1) (init r) = Pl.step G bw (iter G bw k (init r)) := rfl
  generalize hs : iter G bw k (init r) = s at hR hmu hcnt hwf hstep ⊢
  obtain ⟨left, order, path⟩ := s
  cases path with
  | nil =>
    obtain ⟨aP, cP, hvP, hcP⟩ := own_val hR.pa
    subst hvP
    refine Cw_seq (Cw_seq (Cw_region (by kernel_rfl) ?_))
    refine s_move (s_nilP rfl (s_field rfl (by kernel_rfl) (s_load rfl (by kernel_rfl) (hR.st.cell (i := 7) (by omega)) (s_lenS rfl (by kernel_rfl) (s_gtr rfl rfl (Fl_nil (th_n ?_)))))))
    refine Cw_false rfl rfl (by simp) ?_
    refine Cw_exit (ex_th (ex_th (ex_in ?_)))
    exact ⟨k, vO, _, wk', hs ▸ hR, by rw [hs], hks⟩
  | cons p rest =>
    obtain ⟨v, t⟩ := p
    obtain ⟨hv, htl, hlv⟩ := hwf.path (v, t) (by simp)
    obtain ⟨hmu1, hlen1⟩ := mu_step G hG bw _ hwf (by simp)
    simp only at hv htl hlv
    simp only [List.length_cons] at hcnt hlen1
    obtain ⟨gP, cP, hvP, hcP⟩ := own_some hR.pa (by simp)
    simp only [List.length_cons] at hvP hcP
    subst hvP
    have hlv1 := hlen v hv
    refine Cw_seq (Cw_seq (Cw_region (by kernel_rfl) ?_))
    refine s_move (s_nilP rfl (s_field rfl (by kernel_rfl) (s_load rfl (by kernel_rfl) (hR.st.cell (i := 7) (by omega)) (s_lenS rfl (by kernel_rfl) (s_gtr rfl rfl (Fl_nil (th_n ?_)))))))
    refine Cw_true rfl rfl (by simp) ?_
    refine Cw_skip (th_n ?_)
    refine Cw_block ?_
    -- top
    refine Cw_seq ?_
    refine Cw_drawn [(0, 0), (1, 0), (2, 0), (3, 1), (4, 0), (5, 0), (6, 0), (7, 1), (8, 0), (9, 0), (10, 0), (11, 0)] [0, 1, 2, 3, 4, 5, 6, 7, 8, 9, 10] (Ext w') (by kernel_rfl) (by kernel_rfl) (by kernel_rfl) (by kernel_rfl) ?_
    have hS : Ext w' w'.drew := fun _ _ => rfl
    refine o0 rfl rfl (fun _ => r_move) (o0 rfl rfl (fun _ => r_nilP rfl) (o0 rfl rfl (fun _ => r_field0 rfl (by kernel_rfl)) (o1 rfl hS rfl (fun _ hw => r_load rfl (by kernel_rfl) (hw.cell (hR.st.cell (i := 7) (by omega)))) (o0 rfl rfl (fun _ => r_move) (o0 rfl rfl (fun _ => r_nilP rfl) (o0 rfl rfl (fun _ => r_field0 rfl (by kernel_rfl)) (o1 rfl hS rfl (fun _ hw => r_load rfl (by kernel_rfl) (hw.cell (hR.st.cell (i := 7) (by omega)))) (o0 rfl rfl (fun _ => r_lenS rfl (by kernel_rfl)) (o0 rfl rfl (fun _ => r_sub rfl rfl (by omega)) (o0 rfl rfl (fun _ => r_index (s := 2) (i := rest.length) rfl rfl (by omega) (by omega) (by kernel_rfl)) (o0 rfl rfl (fun _ => r_assign) (Fo_nil (th_n ?_)))))))))))))
    have hR1 := hR.drew
    have hks1 : Keeps w w'.drew (fun q => q = B ∨ q = BL) := hks.trans (Keeps.drew w' noB) (fun _ _ h => h) (fun _ _ h => h.elim)
    have hH1 := hks1.size
    generalize w'.drew = w1 at hR1 hks1 hH1 ⊢
    clear hS hR hks hH
    -- next
    have hv0 : w1.cell? ⟨gP, rest.length * 2, none⟩ = some (.int .i32 (v : Int)) := own_cell hR1.pa (by omega) (by
      simp only [List.reverse_cons, curs_append]
      rw [List.getElem?_append_right (by rw [curs_len]; simp), curs_len]
      simp [curs])
    have ht0 : w1.cell? ⟨gP, rest.length * 2 + 1, none⟩ = some (.int .i64 (t : Int)) := own_cell hR1.pa (by omega) (by
      simp only [List.reverse_cons, curs_append]
      rw [List.getElem?_append_right (by rw [curs_len]; simp), curs_len]
      simp [curs])
    have hsrc1 : irows RE w1 (.slice aE G.n cE) G.n G.len (fun v i => (G.e v i : Int)) := hvE ▸ hE.keep hks1 (fun k hk _ h => by have := hRE k hk; rcases h with h | h <;> omega)
    obtain ⟨b, o, cap, hRb, he, hcell⟩ := hsrc1.form hv
    simp only [Value.slice.injEq, true_and] at he
    obtain ⟨rfl, rfl⟩ := he
    obtain ⟨u, hu, hur⟩ := hcell v hv
    obtain ⟨a2, cap2, rfl⟩ := hur.val
    refine Cw_seq ?_
    refine Cw_drawn [(0, 0), (1, 0), (2, 0), (3, 1), (4, 0), (5, 0), (6, 0), (7, 1), (8, 0), (9, 1), (10, 0)] [0, 1, 2, 3, 4, 5, 6, 7, 8, 9] (Ext w1) (by kernel_rfl) (by kernel_rfl) (by kernel_rfl) (by kernel_rfl) ?_
    have hS : Ext w1 w1.drew := fun _ _ => rfl
    refine o0 rfl rfl (fun _ => r_move) (o0 rfl rfl (fun _ => r_nilP rfl) (o0 rfl rfl (fun _ => r_field0 rfl (by kernel_rfl)) (o1 rfl hS rfl (fun _ hw => r_load rfl (by kernel_rfl) (hw.cell (hR1.st.cellv (i := 0) (by omega) hvE))) (o0 rfl rfl (fun _ => r_move) (o0 rfl rfl (fun _ => r_nilP rfl) (o0 rfl rfl (fun _ => r_field (off := 0) rfl (by kernel_rfl)) (o1 rfl hS rfl (fun _ hw => r_load rfl (by kernel_rfl) (hw.cell hv0)) (o0 rfl rfl (fun _ => r_indexO rfl rfl rfl hv (by kernel_rfl)) (o1 rfl hS rfl (fun _ hw => r_load rfl (by kernel_rfl) (hw.cell hu)) (o0 rfl rfl (fun _ => r_assign) (Fo_nil (th_n ?_))))))))))))
    have hR2 := hR1.drew
    have hks2 : Keeps w w1.drew (fun q => q = B ∨ q = BL) := hks1.trans (Keeps.drew w1 noB) (fun _ _ h => h) (fun _ _ h => h.elim)
    have hu2 : w1.drew.cell? ⟨b, o + v, none⟩ = some (.slice a2 (G.len v) cap2) := hu
    have hur2 : irow RE w1.drew (.slice a2 (G.len v) cap2) (G.len v) (fun i => (G.e v i : Int)) := hur
    have hv2 : w1.drew.cell? ⟨gP, rest.length * 2, none⟩ = some (.int .i32 (v : Int)) := hv0
    have ht2 : w1.drew.cell? ⟨gP, rest.length * 2 + 1, none⟩ = some (.int .i64 (t : Int)) := ht0
    have hH2 := hks2.size
    generalize w1.drew = w2 at hR2 hks2 hu2 hur2 hv2 ht2 hH2 ⊢
    clear hS hR1 hks1 hH1 hsrc1 hcell hu hur hv0 ht0
    refine Cw_seq (Cw_seq (Cw_region (by kernel_rfl) ?_))
    refine s_move (s_nilP rfl (s_fieldO rfl (by kernel_rfl) (s_load rfl (by kernel_rfl) ht2 (s_move (s_lenS rfl (by kernel_rfl) (s_lss rfl rfl (Fl_nil (th_n ?_))))))))
    refine Cw_cond rfl rfl (fun hb => ?_) (fun hb => ?_)
    · have ht : t < G.len v := by have := of_decide_eq_true hb; omega
      obtain ⟨b3, o3, cap3', hR3, he3, hcell3⟩ := hur2.form ht
      simp only [Value.slice.injEq, true_and] at he3
      obtain ⟨rfl, rfl⟩ := he3
      refine Cw_seq (Cw_region (by kernel_rfl) ?_)
      refine s_move (s_nilP rfl (s_fieldO rfl (by kernel_rfl) (s_load rfl (by kernel_rfl) ht2 (s_assign (Fl_nil (th_n ?_))))))
      refine Cw_seq (Cw_seq (Cw_region (by kernel_rfl) ?_))
      refine s_move (Fl_nil (th_n ?_))
      obtain ⟨i0, hi0, hi0l, hi0e⟩ : ∃ i0 : Nat, i0 = (if bw then G.len v - 1 - t else t) ∧ i0 < G.len v ∧ G.nx bw v t = G.e v i0 := by
        refine ⟨_, rfl, ?_, ?_⟩
        · split <;> omega
        · unfold Gr.nx; split <;> rfl
      refine Cw_join rfl rfl [(0, .pointer (some ⟨B, 0, none⟩)), (1, .int .i32 (r : Int)), (2, .bool bw), (8, .pointer (some ⟨gP, rest.length * 2, none⟩)), (9, .slice (some ⟨b3, o3, none⟩) (G.len v) cap2), (10, .int .i64 (i0 : Int))] (fun hbw => ?_) (fun hbw => ?_) (fun g' => ?_)
      · subst hbw
        rw [if_pos rfl] at hi0
        refine Cw_region (by kernel_rfl) ?_
        refine s_move (s_lenS rfl (by kernel_rfl) (s_sub rfl rfl (by omega) (s_move (s_sub rfl rfl (by omega) (s_assign (Fl_nil (th_n ?_)))))))
        have e : ((G.len v : Int) - 1 - (t : Int)) = (i0 : Int) := by omega
        exact ⟨sets_ex _ ⟨rfl, rfl, rfl, rfl, rfl, congrArg (Value.int .i64) e, trivial⟩, rfl⟩
      · subst hbw
        rw [if_neg (by simp)] at hi0
        subst hi0
        exact Cw_skip (th_n ⟨sets_ex _ ⟨rfl, rfl, rfl, rfl, rfl, rfl, trivial⟩, rfl⟩)
      -- top.taken++
      refine Cw_seq (Cw_region (by kernel_rfl) ?_)
      refine s_move (s_nilP rfl (s_fieldO rfl (by kernel_rfl) (s_load rfl (by kernel_rfl) ht2 (s_add rfl rfl (by omega) (s_nilP rfl (s_fieldO rfl (by kernel_rfl) (s_store (v := .int .i64 ((t + 1 : Nat) : Int)) rfl rfl (by kernel_rfl) rfl ht2 (hR2.pa.frozenAt _) (Fl_nil (th_n ?_)))))))))
      have hR3' := hR2.taken
      have hks3 : Keeps w (w2.setCell ⟨gP, rest.length * 2 + 1, none⟩ (.int .i64 ((t + 1 : Nat) : Int))) (fun q => q = B ∨ q = BL) := hks2.trans (Keeps.setCell _ _ _) (fun _ _ h => h) (fun q hq h => by have := hR2.ph gP rfl; have h : q = gP := h; omega)
      have hcell4 : ∀ j, j < G.len v → (w2.setCell ⟨gP, rest.length * 2 + 1, none⟩ (.int .i64 ((t + 1 : Nat) : Int))).cell? ⟨b3, o3 + j, none⟩ = some (.int .i32 (G.e v j : Int)) := fun j hj =>
        keep_cell (Keeps.setCell _ _ _) (fun h => by
          have h : b3 = gP := h
          have h1 := (hRE b3 hR3).2.2
          have h2 := hR2.ph gP rfl
          omega) (hcell3 j hj)
      have hH3 := hks3.size
      generalize w2.setCell ⟨gP, rest.length * 2 + 1, none⟩ (.int .i64 ((t + 1 : Nat) : Int)) = w3 at hR3' hks3 hcell4 hH3 ⊢
      clear hR2 hks2 hu2 hur2 hv2 ht2 hH2 hcell3
      have hx := hG v i0 hv hi0l
      refine Cw_seq (Cw_seq (Cw_region (by kernel_rfl) ?_))
      refine s_move (s_move (s_indexO rfl rfl rfl hi0l (by kernel_rfl) (s_load rfl (by kernel_rfl) (hcell4 i0 hi0l) (s_assign (Fl_nil (th_n ?_))))))
      refine Cw_seq (Cw_region (by kernel_rfl) ?_)
      refine s_move (s_nilP rfl (s_field rfl (by kernel_rfl) (s_load rfl (by kernel_rfl) (hR3'.st.cell (i := 5) (by omega)) (s_move (s_index rfl rfl rfl hx (by kernel_rfl) (s_load rfl (by kernel_rfl) (hR3'.le.cell hx) (s_eql rfl rfl (Fl_nil (th_n ?_)))))))))
      refine Cw_cond rfl rfl (fun hc => ?_) (fun hc => ?_)
      · have hl0 : left (G.e v i0) = 0 := of_decide_eq_true hc
        have e : Pl.step G bw ⟨left, order, (v, t) :: rest⟩ = ⟨setI left (G.e v i0) (-1), order, (G.e v i0, 0) :: (v, t + 1) :: rest⟩ := by simp only [Pl.step]; rw [if_pos ht, hi0e, if_pos hl0]
        refine Cw_seq (Cw_region (by kernel_rfl) ?_)
        refine s_move (s_nilP rfl (s_field rfl (by kernel_rfl) (s_load rfl (by kernel_rfl) (hR3'.st.cell (i := 5) (by omega)) (s_move (s_index rfl rfl rfl hx (by kernel_rfl) (s_store (v := .int .i32 (-1)) rfl rfl (by kernel_rfl) rfl (hR3'.le.cell hx) (hR3'.le.frozen _) (Fl_nil (th_n ?_))))))))
        have hR4 := hR3'.left (G.e v i0) (-1)
        have hks4 : Keeps w (w3.setCell ⟨BL, G.e v i0, none⟩ (.int .i32 (-1))) (fun q => q = B ∨ q = BL) := hks3.trans (Keeps.setCell _ _ _) (fun _ _ h => h) (fun q _ h => .inr h)
        have hH4 := hks4.size
        generalize w3.setCell ⟨BL, G.e v i0, none⟩ (.int .i32 (-1)) = w4 at hR4 hks4 hH4 ⊢
        clear hR3' hks3 hcell4 hH3
        refine Cw_region (by kernel_rfl) ?_
        refine s_move (s_move (s_nilP rfl (s_field rfl (by kernel_rfl) (s_load rfl (by kernel_rfl) (hR4.st.cell (i := 7) (by omega)) (s_move (s_build (v := .agg #[.int .i32 (G.e v i0 : Int), .int .i64 0]) (by kernel_rfl) (s_lit2 rfl slz58 ?_)))))))
        refine s_append (v := .slice (some ⟨gP, 0, none⟩) (rest.length + 1) cP) (news := [.int .i32 (G.e v i0 : Int), .int .i64 0]) rfl rfl slz58 (by decide) rfl (own_keep hR4.pa (Keeps.alloc w4 _ noB) (fun _ _ h => h)) rfl (World.news_of_block (heap_alloc_new w4 _)) (by intro u hu; simp at hu; rcases hu with rfl | rfl <;> rfl) (by decide) (by simp only [List.length_cons]; omega) (by simp only [List.length_cons]; omega) fun g5 cap5 w5 ho5 hk5 hg5 hl5 => ?_
        obtain ⟨hR5, hk6⟩ := hR4.push (y := G.e v i0) ho5 hk5 hg5 hH4
        have hst5 := (hR4.st.keep (Keeps.alloc w4 _ noB) (fun h => h)).keep hk5 (fun h => by simp [Value.ownBlock] at h; have := hR4.ph gP rfl; omega)
        refine s_nilP rfl (s_field rfl (by kernel_rfl) (s_store (v := .slice (some ⟨g5, 0, none⟩) (rest.length + 1 + 1) cap5) rfl rfl (by kernel_rfl) rfl (hst5.cell (i := 7) (by omega)) (hst5.frozen 7) (Fl_nil (th_n ?_))))
        refine Cw_exit (ex_th (ex_in (th_n ?_)))
        have hks5 : Keeps w _ (fun q => q = B ∨ q = BL) := hks4.trans hk6 (fun _ _ h => h) (fun q hq h => by rcases h with h | h; exact .inl h; omega)
        refine ⟨mu G (iter G bw (k + 1) (init r)), by rw [hstep]; omega, _, k + 1, _, _, _, sets_known ⟨rfl, rfl, rfl, trivial⟩, by rw [hstep, e]; exact hR5, hks5, hks5.size, rfl, by rw [hstep]; omega, by rw [hstep]; omega⟩
      · have hl0 : ¬ left (G.e v i0) = 0 := of_decide_eq_false hc
        have e : Pl.step G bw ⟨left, order, (v, t) :: rest⟩ = ⟨left, order, (v, t + 1) :: rest⟩ := by simp only [Pl.step]; rw [if_pos ht, hi0e, if_neg hl0]
        refine Cw_skip (th_n ?_)
        refine Cw_exit (ex_th (ex_in (th_n ?_)))
        refine ⟨mu G (iter G bw (k + 1) (init r)), by rw [hstep]; omega, _, k + 1, _, _, _, sets_known ⟨rfl, rfl, rfl, trivial⟩, by rw [hstep, e]; exact hR3', hks3, hks3.size, rfl, by rw [hstep]; omega, by rw [hstep]; omega⟩
    · have ht : ¬ t < G.len v := by have := of_decide_eq_false hb; omega
      have e : Pl.step G bw ⟨left, order, (v, t) :: rest⟩ = ⟨setI left v ((order.length : Int) + 1), order ++ [v], rest⟩ := by simp only [Pl.step]; rw [if_neg ht]
      refine Cw_skip (th_n ?_)
      -- work
      refine Cw_seq (Cw_region (by kernel_rfl) ?_)
      refine s_move (s_nilP rfl (s_field rfl (by kernel_rfl) (s_load rfl (by kernel_rfl) (hR2.st.cell (i := 4) (by omega)) (s_move (s_lenS rfl (by kernel_rfl) (s_add rfl rfl (by omega) (s_addw rfl rfl (s_nilP rfl (s_field rfl (by kernel_rfl) (s_store (v := .int .i64 (IntKind.i64.wrap (wk' + (1 + (G.len v : Int))))) rfl rfl (by kernel_rfl) rfl (hR2.st.cell (i := 4) (by omega)) (hR2.st.frozen 4) (Fl_nil (th_n ?_))))))))))))
      have hR3 := hR2.work (IntKind.i64.wrap (wk' + (1 + (G.len v : Int))))
      have hks3 : Keeps w (w2.setCell ⟨B, 4, none⟩ (.int .i64 (IntKind.i64.wrap (wk' + (1 + (G.len v : Int)))))) (fun q => q = B ∨ q = BL) := hks2.trans (Keeps.setCell _ _ _) (fun _ _ h => h) (fun q _ h => .inl h)
      have hH3 := hks3.size
      have hv3 : (w2.setCell ⟨B, 4, none⟩ (.int .i64 (IntKind.i64.wrap (wk' + (1 + (G.len v : Int)))))).cell? ⟨gP, rest.length * 2, none⟩ = some (.int .i32 (v : Int)) := keep_cell (Keeps.setCell _ _ _) (fun h => by have h : gP = B := h; have := hR2.ph gP rfl; omega) hv2
      generalize w2.setCell ⟨B, 4, none⟩ (.int .i64 (IntKind.i64.wrap (wk' + (1 + (G.len v : Int))))) = w3 at hR3 hks3 hH3 hv3 ⊢
      clear hR2 hks2 hu2 hur2 hv2 ht2 hH2
      -- order = append(order, top.v)
      have hR3d := hR3.drew
      have hks3d : Keeps w w3.drew (fun q => q = B ∨ q = BL) := hks3.trans (Keeps.drew w3 noB) (fun _ _ h => h) (fun _ _ h => h.elim)
      have hS : w3.drew.cell? ⟨B, 6, none⟩ = some vO ∧ w3.drew.cell? ⟨gP, rest.length * 2, none⟩ = some (.int .i32 (v : Int)) := ⟨hR3.st.cell (i := 6) (by omega), hv3⟩
      refine Cw_seq ?_
      refine Cw_drawn [(0, 0), (1, 0), (2, 0), (3, 0), (4, 1), (5, 0), (6, 0), (7, 0), (8, 1), (9, 2), (10, 2), (11, 0), (12, 0), (13, 2)] [0, 1, 2, 3, 4, 5, 6, 7, 8, 9, 10] (fun q => q.cell? ⟨B, 6, none⟩ = some vO ∧ q.cell? ⟨gP, rest.length * 2, none⟩ = some (.int .i32 (v : Int))) (by kernel_rfl) (by kernel_rfl) (by kernel_rfl) (by kernel_rfl) ?_
      generalize w3.drew = w4 at hR3d hks3d hS ⊢
      clear hR3 hks3 hH3 hv3
      have hH4 := hks3d.size
      refine o0 rfl rfl (fun _ => r_move) (o0 rfl rfl (fun _ => r_move) (o0 rfl rfl (fun _ => r_nilP rfl) (o0 rfl rfl (fun _ => r_field0 rfl (by kernel_rfl)) (o1 rfl hS rfl (fun _ hw => r_load rfl (by kernel_rfl) hw.1) (o0 rfl rfl (fun _ => r_move) (o0 rfl rfl (fun _ => r_nilP rfl) (o0 rfl rfl (fun _ => r_field (off := 0) rfl (by kernel_rfl)) (o1 rfl hS rfl (fun _ hw => r_load rfl (by kernel_rfl) hw.2) (o2 rfl rfl (r_lit1 (v := .int .i32 (v : Int)) rfl slz57 rfl rfl) (fun _ hw => ⟨keep_cell (Keeps.alloc w4 _ noB) (fun h => h) hw.1, keep_cell (Keeps.alloc w4 _ noB) (fun h => h) hw.2⟩) ?_)))))))))
      refine o_append (v := vO) (news := [.int .i32 (v : Int)]) rfl rfl rfl slz57 (by decide) rfl (own_keep hR3d.od (Keeps.alloc w4 _ noB) (fun _ _ h => h)) rfl (World.news_of_block (heap_alloc_new w4 _)) (by intro u hu; simp at hu; subst hu; rfl) (by decide) (by simp only; omega) (by simp only; omega) fun g5 cap5 w5 ho5 hk5 hg5 hl5 => ⟨fun _ hw => ⟨keep_cell hk5 (fun h => by have := hR3d.oh B h.symm; omega) hw.1, keep_cell hk5 (fun h => hR3d.ap gP h.symm rfl) hw.2⟩, ?_⟩
      obtain ⟨hR5, hk6⟩ := hR3d.leave (y := v) ho5 hk5 hg5 hH4
      have hst5 := (hR3d.st.keep (Keeps.alloc w4 _ noB) (fun h => h)).keep hk5 (fun h => by have := hR3d.oh B h.symm; omega)
      refine o0 rfl rfl (fun _ => r_nilP rfl) (o0 rfl rfl (fun _ => r_field0 rfl (by kernel_rfl)) (o2s rfl rfl (r_store (v := .slice (some ⟨g5, 0, none⟩) (order.length + 1) cap5) rfl rfl (by kernel_rfl) rfl (hst5.cell (i := 6) (by omega)) (hst5.frozen 6)) (fun h => by cases h) (Fo_nil (th_n ?_))))
      have hks5 := hks3d.trans hk6 (fun _ _ h => h) (fun q hq h => by rcases h with h | h; exact .inl h; omega)
      have hH5 := hks5.size
      generalize w5.setCell ⟨B, 6, none⟩ (.slice (some ⟨g5, 0, none⟩) (order.length + 1) cap5) = w6 at hR5 hks5 hH5 ⊢
      clear hst5 hk6 ho5 hk5 hg5 hl5 hR3d hks3d hS hH4
      -- left[top.v] = int32(len(order))
      have hv6 : w6.cell? ⟨gP, rest.length * 2, none⟩ = some (.int .i32 (v : Int)) := own_cell hR5.pa (by omega) (by
        simp only [List.reverse_cons, curs_append]
        rw [List.getElem?_append_right (by rw [curs_len]; simp), curs_len]
        simp [curs])
      have hS : Ext w6 w6.drew := fun _ _ => rfl
      refine Cw_seq ?_
      refine Cw_drawn [(0, 0), (1, 0), (2, 0), (3, 1), (4, 0), (5, 0), (6, 0), (7, 1), (8, 0), (9, 0), (10, 0), (11, 1), (12, 0), (13, 0), (14, 0), (15, 2)] [0, 1, 2, 3, 4, 5, 6, 7, 8, 9, 10, 11, 12, 13] (Ext w6) (by kernel_rfl) (by kernel_rfl) (by kernel_rfl) (by kernel_rfl) ?_
      refine o0 rfl rfl (fun _ => r_move) (o0 rfl rfl (fun _ => r_nilP rfl) (o0 rfl rfl (fun _ => r_field0 rfl (by kernel_rfl)) (o1 rfl hS rfl (fun _ hw => r_load rfl (by kernel_rfl) (hw.cell (hR5.st.cell (i := 5) (by omega)))) (o0 rfl rfl (fun _ => r_move) (o0 rfl rfl (fun _ => r_nilP rfl) (o0 rfl rfl (fun _ => r_field (off := 0) rfl (by kernel_rfl)) (o1 rfl hS rfl (fun _ hw => r_load rfl (by kernel_rfl) (hw.cell hv6)) (o0 rfl rfl (fun _ => r_move) (o0 rfl rfl (fun _ => r_nilP rfl) (o0 rfl rfl (fun _ => r_field0 rfl (by kernel_rfl)) (o1 rfl hS rfl (fun _ hw => r_load rfl (by kernel_rfl) (hw.cell (hR5.st.cell (i := 6) (by omega)))) (o0 rfl rfl (fun _ => r_lenS rfl (by kernel_rfl)) (o0 rfl rfl (fun _ => r_conv32 rfl (by kernel_rfl) (by kernel_rfl) (by show -2147483648 ≤ ((order.length + 1 : Nat) : Int) ∧ ((order.length + 1 : Nat) : Int) ≤ 2147483647; omega)) (o0 rfl rfl (fun _ => r_index1 rfl rfl rfl hv (by kernel_rfl)) (o2s rfl rfl (r_store (v := .int .i32 ((order.length : Int) + 1)) rfl rfl (by kernel_rfl) rfl (hR5.drew.le.cell hv) (hR5.drew.le.frozen v)) (fun h => by cases h) (Fo_nil (th_n ?_)))))))))))))))))
      have hR7 := hR5.drew.left v ((order.length : Int) + 1)
      have hks7 : Keeps w (w6.drew.setCell ⟨BL, v, none⟩ (.int .i32 ((order.length : Int) + 1))) (fun q => q = B ∨ q = BL) := (hks5.trans (Keeps.drew w6 noB) (fun _ _ h => h) (fun _ _ h => h.elim)).trans (Keeps.setCell _ _ _) (fun _ _ h => h) (fun q _ h => .inr h)
      have hH7 := hks7.size
      generalize w6.drew.setCell ⟨BL, v, none⟩ (.int .i32 ((order.length : Int) + 1)) = w7 at hR7 hks7 hH7 ⊢
      clear hR5 hks5 hH5 hv6 hS
      -- path = path[:len(path)-1]
      have hS : Ext w7 w7.drew := fun _ _ => rfl
      refine Cw_drawn [(0, 0), (1, 0), (2, 0), (3, 0), (4, 1), (5, 0), (6, 0), (7, 0), (8, 1), (9, 0), (10, 0), (11, 0), (12, 0), (13, 0), (14, 2)] [0, 1, 2, 3, 4, 5, 6, 7, 8, 9, 10, 11] (Ext w7) (by kernel_rfl) (by kernel_rfl) (by kernel_rfl) (by kernel_rfl) ?_
      refine o0 rfl rfl (fun _ => r_move) (o0 rfl rfl (fun _ => r_move) (o0 rfl rfl (fun _ => r_nilP rfl) (o0 rfl rfl (fun _ => r_field0 rfl (by kernel_rfl)) (o1 rfl hS rfl (fun _ hw => r_load rfl (by kernel_rfl) (hw.cell (hR7.st.cell (i := 7) (by omega)))) (o0 rfl rfl (fun _ => r_move) (o0 rfl rfl (fun _ => r_nilP rfl) (o0 rfl rfl (fun _ => r_field0 rfl (by kernel_rfl)) (o1 rfl hS rfl (fun _ hw => r_load rfl (by kernel_rfl) (hw.cell (hR7.st.cell (i := 7) (by omega)))) (o0 rfl rfl (fun _ => r_lenS rfl (by kernel_rfl)) (o0 rfl rfl (fun _ => r_sub rfl rfl (by omega)) (o0 rfl rfl (fun _ => r_sliceTo (i := rest.length) rfl rfl (by omega) (by omega) (by kernel_rfl)) (o0 rfl rfl (fun _ => r_nilP rfl) (o0 rfl rfl (fun _ => r_field0 rfl (by kernel_rfl)) (o2s rfl rfl (r_store (v := .slice (some ⟨gP, 0, none⟩) rest.length cP) rfl rfl (by kernel_rfl) rfl (hR7.drew.st.cell (i := 7) (by omega)) (hR7.drew.st.frozen 7)) (fun h => by cases h) (Fo_nil ?_)))))))))))))))
      have hR8 := hR7.drew.pop
      have hks8 : Keeps w (w7.drew.setCell ⟨B, 7, none⟩ (.slice (some ⟨gP, 0, none⟩) rest.length cP)) (fun q => q = B ∨ q = BL) := (hks7.trans (Keeps.drew w7 noB) (fun _ _ h => h) (fun _ _ h => h.elim)).trans (Keeps.setCell _ _ _) (fun _ _ h => h) (fun q _ h => .inl h)
      refine ib_n (th_n ?_)
      refine ⟨mu G (iter G bw (k + 1) (init r)), by rw [hstep]; omega, _, k + 1, _, _, _, sets_known ⟨rfl, rfl, rfl, trivial⟩, by rw [hstep, e]; exact hR8, hks8, hks8.size, rfl, by rw [hstep]; omega, by rw [hstep]; omega⟩
end Go.Proofs.Qxb6000043a

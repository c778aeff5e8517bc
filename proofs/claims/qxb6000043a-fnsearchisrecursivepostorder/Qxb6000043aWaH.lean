/-
  WALKS, H: (*stepBound).cycleSteps on a complete graph: the walk. Own work.
-/
import Derived.Test.Qxb6000043aWaG
namespace Go.Proofs.Qxb6000043a
open Go.Fw Go.Proofs.Qxb6000043a.Pl Go.RowKit
set_option maxRecDepth 10000

set_option maxHeartbeats 2000000 in
theorem cycle_any (G : Gr) (hC : Cmp G) (bw : Bool) (r : Nat) (hr : r < G.n) (hn : G.n ≤ 4096) (lim : Nat) (hl : lim < 9223372036854775807) (RE : Nat → Prop) (w : World) (B BL BP BN : Nat) (x : Fix) (wk : Int)
    (hst : arr w B 60 14 (x.F BL G.n wk (.slice none 0 0) (.slice none 0 0))) (hxl : x.lim = .int .i64 (lim : Int)) (hxp : x.vPs = whole BP G.n) (hxn : x.vLn = whole BN G.n)
    (hle : arr w BL 21 G.n z32) (hpa : arr w BP 3 G.n z64) (hln : arr w BN 3 G.n z64) (hE : irows RE w x.vE G.n G.len (fun v i => (G.e v i : Int)))
    (hne : B ≠ BL) (hD : CyD w.heap.size B BL BP BN) (hRE : ∀ k, RE k → k ≠ B ∧ k ≠ BL ∧ k ≠ BP ∧ k ≠ BN ∧ k < w.heap.size) :
    Calls Try.prog 41 #[.pointer (some ⟨B, 0, none⟩), .int .i32 (r : Int), .bool bw] w fun ee w' => ∃ v, ee = .returned v ∧ (v = .int .i64 ((min (lim + 1) (cyc G.n) : Nat) : Int) ∧ Keeps w w' (fun q => q = B ∨ q = BL ∨ q = BP ∨ q = BN)) := by
  have hlen : ∀ v, v < G.n → G.len v + 1 ≤ 4096 := fun v hv => by have := hC.len v hv; omega
  have hT : sumTo (fun v => G.len v + 1) G.n ≤ 1073741824 := Nat.le_trans (sum_const _ 4096 G.n hlen) (by omega)
  obtain ⟨aE, cE, hvE⟩ := hE.val
  refine enter1 (args := [_, _, _]) (R := fun v w' => v = .int .i64 ((min (lim + 1) (cyc G.n) : Nat) : Int) ∧ Keeps w w' (fun q => q = B ∨ q = BL ∨ q = BP ∨ q = BN)) Try.func41 rfl Try.ntmps41 Try.results41 rfl rfl ?_
  refine Cw_seq (Cw_region (by kernel_rfl) ?_)
  refine s_assign (Fl_nil (th_n ?_))
  refine Cw_seq (Cw_region (by kernel_rfl) ?_)
  refine s_move (s_move (s_move ?_))
  refine s_c3 (by kernel_rfl) rfl rfl rfl (search_any G hC.ok bw r hr hT RE w B BL x wk hst hle hE hne (fun k hk => ⟨(hRE k hk).1, (hRE k hk).2.1, (hRE k hk).2.2.2.2⟩)) ?_
  rintro v1 w1 ⟨k0, vO, vPa, wk1, hR, hpath, hk1⟩
  refine Fl_nil (th_n ?_)
  have hF := found G hC.ok bw r hr k0 hpath
  generalize iter G bw k0 (init r) = s at hR hpath hF
  have hCh := chain G hC r hr s hF
  have hpa1 := hpa.keep hk1 (fun e => by have := hD.p; omega)
  have hln1 := hln.keep hk1 (fun e => by have := hD.n; omega)
  clear hpath hst hle hpa hln
  obtain ⟨gO, cO, hvO, hcO⟩ := own_some hR.od (by have := hCh.len; omega)
  rw [hCh.len] at hvO
  subst hvO
  refine Cw_seq (Cw_region (by kernel_rfl) ?_)
  refine s_assign (Fl_nil (th_n ?_))
  -- paths[r] = 1
  refine Cw_seq (Cw_region (by kernel_rfl) ?_)
  refine s_move (s_nilP rfl (s_field rfl (by kernel_rfl) (s_load rfl (by kernel_rfl) (hR.st.cellv (i := 8) (by omega) hxp) (s_move (s_index rfl rfl rfl hr (by kernel_rfl) (s_store (v := .int .i64 ((1 : Nat) : Int)) rfl rfl (by kernel_rfl) rfl (hpa1.cell hr) (hpa1.frozen r) (Fl_nil (th_n ?_))))))))
  have hcy1 : Cy w1 w.heap.size B BL BP BN G.n x (.slice (some ⟨gO, 0, none⟩) G.n cO) vPa wk1 s (fun _ => 0) (fun _ => 0) := ⟨hR, hpa1, hln1⟩
  have hcy2 := hcy1.setP hD r 1
  have hk2 : Keeps w (w1.setCell ⟨BP, r, none⟩ (.int .i64 ((1 : Nat) : Int))) (fun q => q = B ∨ q = BL ∨ q = BP ∨ q = BN) := hk1.trans (Keeps.setCell _ _ _) (fun q _ h => by rcases h with h | h; exact .inl h; exact .inr (.inl h)) (fun q _ h => .inr (.inr (.inl h)))
  generalize w1.setCell ⟨BP, r, none⟩ (.int .i64 ((1 : Nat) : Int)) = w2 at hcy2 hk2 ⊢
  clear hR hcy1 hk1 hpa1 hln1
  have hrep2 := hcy2.rep
  refine Cw_seq (Cw_seq (Cw_region (by kernel_rfl) ?_))
  refine s_move (s_nilP rfl (s_field rfl (by kernel_rfl) (s_load rfl (by kernel_rfl) (hrep2.st.cell (i := 6) (by omega)) (s_lenS rfl (by kernel_rfl) (s_sub rfl rfl (by omega) (s_assign (Fl_nil (th_n ?_))))))))
  refine Cw_block ?_
  refine Cw_loop (fun m f w' => ∃ g c wk ps ls, f = sets [(0, .pointer (some ⟨B, 0, none⟩)), (1, .int .i32 (r : Int)), (7, .int .i64 ((oS (lim + 1) c : Nat) : Int)), (8, .int .i64 ((G.n : Int) - 1 - ((c : Nat) : Int)))] g ∧ c ≤ G.n ∧
    Cy w' w.heap.size B BL BP BN G.n x (.slice (some ⟨gO, 0, none⟩) G.n cO) vPa wk s ps ls ∧ (∀ u, u < G.n → s.left u ≤ (G.n : Int) - c → ps u = (if s.left u = (G.n : Int) - c then cP (lim + 1) c else oP (lim + 1) c) ∧ ls u = oL (lim + 1) c) ∧
    Keeps w w' (fun q => q = B ∨ q = BL ∨ q = BP ∨ q = BN) ∧ m = G.n - c) G.n
    ⟨_, 0, wk1, _, _, sets_known ⟨rfl, rfl, rfl, congrArg (Value.int .i64) (show (G.n : Int) - 1 = (G.n : Int) - 1 - ((0 : Nat) : Int) by omega), trivial⟩, Nat.zero_le _, hcy2, ?_, hk2, rfl⟩ ?_
  · intro u hu hlu
    have hroot := hCh.root
    by_cases hur : u = r
    · subst hur
      rw [if_pos (by simp [hroot])]
      simp [setN, cP, oL]
    · have : s.left u ≠ (G.n : Int) := fun h => hur (hCh.inj u r hu hr (by rw [h, hroot]))
      rw [if_neg (by simpa using this)]
      simp [setN, hur, oP, oL]
  clear hcy2 hk2 hrep2
  rintro m f w' ⟨g, c, wk2, ps, ls, rfl, hc, hcy, hval, hks, rfl⟩
  have hbd := o_le (lim + 1) c (by omega)
  refine Cw_seq (Cw_seq (Cw_region (by kernel_rfl) ?_))
  refine s_move (s_geq rfl rfl (Fl_nil (th_n ?_)))
  refine Cw_cond rfl rfl (fun hb => ?_) (fun hb => ?_)
  · have hc' : c < G.n := by have := of_decide_eq_true hb; omega
    obtain ⟨v, hov, hvn, hlv⟩ := hCh.at' (G.n - 1 - c) (by omega)
    have hlv' : s.left v = (G.n : Int) - c := by omega
    have hPv : ps v = cP (lim + 1) c ∧ ls v = oL (lim + 1) c := by
      have := hval v hvn (by omega)
      rw [if_pos hlv'] at this
      exact this
    refine Cw_skip (th_n ?_)
    refine Cw_seq (Cw_block ?_)
    refine Cw_seq (Cw_region (by kernel_rfl) ?_)
    have hocell : w'.cell? ⟨gO, G.n - 1 - c, none⟩ = some (.int .i32 (v : Int)) := by
      have ho := hcy.rep.od
      rw [hCh.len] at ho
      exact own_cell ho (by omega) (by simp [i32s, hov])
    refine s_move (s_nilP rfl (s_field rfl (by kernel_rfl) (s_load rfl (by kernel_rfl) (hcy.rep.st.cell (i := 6) (by omega)) (s_move (s_index (i := G.n - 1 - c) rfl rfl (by omega) (by omega) (by kernel_rfl) (s_load rfl (by kernel_rfl) hocell (s_assign (Fl_nil (th_n ?_)))))))))
    -- paths, length
    refine Cw_seq ?_
    refine Cw_drawn [(0, 0), (1, 0), (2, 0), (3, 1), (4, 0), (5, 0), (6, 1), (7, 0), (8, 0), (9, 0), (10, 1), (11, 0), (12, 0), (13, 1), (14, 0), (15, 0)] [0, 1, 2, 3, 4, 5, 6, 7, 8, 9, 10, 11, 12, 13, 14] (Ext w') (by kernel_rfl) (by kernel_rfl) (by kernel_rfl) (by kernel_rfl) ?_
    have hS : Ext w' w'.drew := fun _ _ => rfl
    have hpv := hcy.pa.cellv (v := .int .i64 ((cP (lim + 1) c : Nat) : Int)) hvn (by rw [hPv.1])
    have hlvv := hcy.ln.cellv (v := .int .i64 ((oL (lim + 1) c : Nat) : Int)) hvn (by rw [hPv.2])
    refine o0 rfl rfl (fun _ => r_move) (o0 rfl rfl (fun _ => r_nilP rfl) (o0 rfl rfl (fun _ => r_field0 rfl (by kernel_rfl)) (o1 rfl hS rfl (fun _ hw => r_load rfl (by kernel_rfl) (hw.cell (hcy.rep.st.cellv (i := 8) (by omega) hxp))) (o0 rfl rfl (fun _ => r_move) (o0 rfl rfl (fun _ => r_index1 rfl rfl rfl hvn (by kernel_rfl)) (o1 rfl hS rfl (fun _ hw => r_load rfl (by kernel_rfl) (hw.cell hpv)) (o0 rfl rfl (fun _ => r_move) (o0 rfl rfl (fun _ => r_nilP rfl) (o0 rfl rfl (fun _ => r_field0 rfl (by kernel_rfl)) (o1 rfl hS rfl (fun _ hw => r_load rfl (by kernel_rfl) (hw.cell (hcy.rep.st.cellv (i := 9) (by omega) hxn))) (o0 rfl rfl (fun _ => r_move) (o0 rfl rfl (fun _ => r_index1 rfl rfl rfl hvn (by kernel_rfl)) (o1 rfl hS rfl (fun _ hw => r_load rfl (by kernel_rfl) (hw.cell hlvv)) (o0 rfl rfl (fun _ => r_assign) (o0 rfl rfl (fun _ => r_assign) (Fo_nil (th_n ?_)))))))))))))))))
    have hcy1 := hcy.drew
    have hk1 : Keeps w w'.drew (fun q => q = B ∨ q = BL ∨ q = BP ∨ q = BN) := hks.trans (Keeps.drew w' noB) (fun _ _ h => h) (fun _ _ h => h.elim)
    generalize w'.drew = w1 at hcy1 hk1 ⊢
    clear hS hcy hks hpv hlvv hocell
    -- work
    have hsrc1 : irows RE w1 (.slice aE G.n cE) G.n G.len (fun v i => (G.e v i : Int)) := hvE ▸ hE.keep hk1 (fun k hk _ h => by have := hRE k hk; omega)
    obtain ⟨b, o, cap, hRb, he, hcell⟩ := hsrc1.form hvn
    simp only [Value.slice.injEq, true_and] at he
    obtain ⟨rfl, rfl⟩ := he
    obtain ⟨u0, hu, hur⟩ := hcell v hvn
    obtain ⟨a2, cap2, rfl⟩ := hur.val
    have hlv1 := hlen v hvn
    refine Cw_seq ?_
    refine Cw_drawn [(0, 0), (1, 0), (2, 0), (3, 1), (4, 0), (5, 0), (6, 0), (7, 1), (8, 0), (9, 0), (10, 1), (11, 0), (12, 0), (13, 0), (14, 0), (15, 0), (16, 2)] [0, 1, 2, 3, 4, 5, 6, 7, 8, 9, 10, 11, 12, 13] (Ext w1) (by kernel_rfl) (by kernel_rfl) (by kernel_rfl) (by kernel_rfl) ?_
    have hS : Ext w1 w1.drew := fun _ _ => rfl
    refine o0 rfl rfl (fun _ => r_move) (o0 rfl rfl (fun _ => r_nilP rfl) (o0 rfl rfl (fun _ => r_field0 rfl (by kernel_rfl)) (o1 rfl hS rfl (fun _ hw => r_load rfl (by kernel_rfl) (hw.cell (hcy1.rep.st.cell (i := 4) (by omega)))) (o0 rfl rfl (fun _ => r_move) (o0 rfl rfl (fun _ => r_nilP rfl) (o0 rfl rfl (fun _ => r_field0 rfl (by kernel_rfl)) (o1 rfl hS rfl (fun _ hw => r_load rfl (by kernel_rfl) (hw.cell (hcy1.rep.st.cellv (i := 0) (by omega) hvE))) (o0 rfl rfl (fun _ => r_move) (o0 rfl rfl (fun _ => r_indexO rfl rfl rfl hvn (by kernel_rfl)) (o1 rfl hS rfl (fun _ hw => r_load rfl (by kernel_rfl) (hw.cell hu)) (o0 rfl rfl (fun _ => r_lenS rfl (by kernel_rfl)) (o0 rfl rfl (fun _ => r_add rfl rfl (by omega)) (o0 rfl rfl (fun _ => r_addw rfl rfl) (o0 rfl rfl (fun _ => r_nilP rfl) (o0 rfl rfl (fun _ => r_field0 rfl (by kernel_rfl)) (o2s rfl rfl (r_store (v := .int .i64 (IntKind.i64.wrap (wk2 + (1 + (G.len v : Int))))) rfl rfl (by kernel_rfl) rfl (hcy1.drew.rep.st.cell (i := 4) (by omega)) (hcy1.drew.rep.st.frozen 4)) (fun h => by cases h) (Fo_nil (th_n ?_))))))))))))))))))
    have hcy2 := hcy1.drew.work hD (IntKind.i64.wrap (wk2 + (1 + (G.len v : Int))))
    have hk2 : Keeps w (w1.drew.setCell ⟨B, 4, none⟩ (.int .i64 (IntKind.i64.wrap (wk2 + (1 + (G.len v : Int)))))) (fun q => q = B ∨ q = BL ∨ q = BP ∨ q = BN) := (hk1.trans (Keeps.drew w1 noB) (fun _ _ h => h) (fun _ _ h => h.elim)).trans (Keeps.setCell _ _ _) (fun _ _ h => h) (fun q _ h => .inl h)
    generalize w1.drew.setCell ⟨B, 4, none⟩ (.int .i64 (IntKind.i64.wrap (wk2 + (1 + (G.len v : Int))))) = w2 at hcy2 hk2 ⊢
    generalize IntKind.i64.wrap (wk2 + (1 + (G.len v : Int))) = wk3 at hcy2
    clear hS hcy1 hk1 hsrc1 hcell hu hur hRb
    -- the row
    have hsrc2 : irows RE w2 (.slice (some ⟨b, o, none⟩) G.n cE) G.n G.len (fun v i => (G.e v i : Int)) := hvE ▸ hE.keep hk2 (fun k hk _ h => by have := hRE k hk; omega)
    obtain ⟨b', o', cap', hRb, he, hcell⟩ := hsrc2.form hvn
    simp only [Value.slice.injEq, true_and, Option.some.injEq, Addr.mk.injEq, and_true] at he
    obtain ⟨⟨rfl, rfl⟩, rfl⟩ := he
    obtain ⟨u0, hu, hur⟩ := hcell v hvn
    obtain ⟨a3, cap3, rfl⟩ := hur.val
    refine Cw_seq (Cw_region (by kernel_rfl) ?_)
    refine s_move (s_nilP rfl (s_field rfl (by kernel_rfl) (s_load rfl (by kernel_rfl) (hcy2.rep.st.cellv (i := 0) (by omega) hvE) (s_move (s_indexO rfl rfl rfl hvn (by kernel_rfl) (s_load rfl (by kernel_rfl) hu (s_lenS rfl (by kernel_rfl) (s_move (Fl_nil (th_n ?_))))))))))
    refine Cw_block ?_
    have him0 : Im G s lim r v c 0 (oS (lim + 1) c) ps ls := by
      refine ⟨fun u _ _ ⟨t', h, _⟩ => by omega, fun u hun hlu _ => ?_, fun ⟨t', h, _⟩ => by omega, fun _ => rfl⟩
      have := hval u hun (by omega)
      rw [if_neg (by omega)] at this
      exact this
    refine Cw_loop (fun m f w' => ∃ g t wk st ps ls, f = sets [(0, .pointer (some ⟨B, 0, none⟩)), (1, .int .i32 (r : Int)), (7, .int .i64 ((st : Nat) : Int)), (8, .int .i64 ((G.n : Int) - 1 - ((c : Nat) : Int))), (9, .int .i32 (v : Int)), (10, .int .i64 ((cP (lim + 1) c : Nat) : Int)), (11, .int .i64 ((oL (lim + 1) c : Nat) : Int)), (77, .slice a3 (G.len v) cap3), (78, .int .i64 ((G.len v : Nat) : Int)), (79, .int .i64 ((t : Nat) : Int))] g ∧ t ≤ G.len v ∧
      Cy w' w.heap.size B BL BP BN G.n x (.slice (some ⟨gO, 0, none⟩) G.n cO) vPa wk s ps ls ∧ Im G s lim r v c t st ps ls ∧
      Keeps w w' (fun q => q = B ∨ q = BL ∨ q = BP ∨ q = BN) ∧ m = G.len v - t) (G.len v)
      ⟨_, 0, wk3, _, ps, ls, sets_known ⟨rfl, rfl, rfl, rfl, rfl, rfl, rfl, rfl, rfl, rfl, trivial⟩, Nat.zero_le _, hcy2, him0, hk2, rfl⟩ ?_
    have hrow : irow RE w (.slice a3 (G.len v) cap3) (G.len v) (fun i => (G.e v i : Int)) := by
      rw [hvE] at hE
      obtain ⟨b5, o5, cap5, hR5, he5, hc5⟩ := hE.form hvn
      simp only [Value.slice.injEq, true_and, Option.some.injEq, Addr.mk.injEq, and_true] at he5
      obtain ⟨⟨rfl, rfl⟩, rfl⟩ := he5
      obtain ⟨u5, hu5, hr5⟩ := hc5 v hvn
      have h := keep_cell hk2 (show ¬ (b = B ∨ b = BL ∨ b = BP ∨ b = BN) from fun h => by have := hRE b hR5; omega) hu5
      rw [hu] at h
      cases h
      exact hr5
    clear him0 hk2 hcy2 hval hPv hsrc2 hcell hu hur
    rintro m f w3 ⟨g, t, wk4, st, ps, ls, rfl, ht, hcy, him, hks, rfl⟩
    refine Cw_seq (Cw_region (by kernel_rfl) ?_)
    refine s_lss rfl rfl (Fl_nil (th_n ?_))
    refine Cw_seq (Cw_cond rfl rfl (fun hb => ?_) (fun hb => ?_))
    · have ht' : t < G.len v := by have := of_decide_eq_true hb; omega
      refine Cw_skip (th_n ?_)
      have hen : G.e v t < G.n := hC.ok v t hvn ht'
      obtain ⟨b4, o4, cap4, hRb4, he4, hc4⟩ := (hrow.keep hks (fun k hk _ h => by have := hRE k hk; omega)).form ht'
      simp only [Value.slice.injEq, true_and] at he4
      obtain ⟨rfl, rfl⟩ := he4
      have hold : ¬ ∃ t', t' < t ∧ G.e v t' = G.e v t := fun ⟨t', h1, h2⟩ => by have := hC.inj v t' t hvn (by omega) ht' h2; omega
      refine Cw_seq (Cw_block (Cw_seq (Cw_region (by kernel_rfl) ?_)))
      refine s_indexO rfl rfl rfl ht' (by kernel_rfl) (s_load rfl (by kernel_rfl) (hc4 t ht') (s_assign (Fl_nil (th_n ?_))))
      refine Cw_block (Cw_seq (Cw_region (by kernel_rfl) ?_))
      refine s_move (s_move (s_eql rfl rfl (s_assign (Fl_nil (th_n ?_)))))
      -- the three ways meet
      refine Cw_mono (Q := thn (fun f' w' => ∃ g wk st ps ls, f' = sets [(0, .pointer (some ⟨B, 0, none⟩)), (1, .int .i32 (r : Int)), (7, .int .i64 ((st : Nat) : Int)), (8, .int .i64 ((G.n : Int) - 1 - ((c : Nat) : Int))), (9, .int .i32 (v : Int)), (10, .int .i64 ((cP (lim + 1) c : Nat) : Int)), (11, .int .i64 ((oL (lim + 1) c : Nat) : Int)), (77, .slice (some ⟨b4, o4, none⟩) (G.len v) cap3), (78, .int .i64 ((G.len v : Nat) : Int)), (79, .int .i64 ((t : Nat) : Int))] g ∧
        Cy w' w.heap.size B BL BP BN G.n x (.slice (some ⟨gO, 0, none⟩) G.n cO) vPa wk s ps ls ∧ Im G s lim r v c (t + 1) st ps ls ∧ Keeps w w' (fun q => q = B ∨ q = BL ∨ q = BP ∨ q = BN)) (fun _ _ _ => False)) ?_ ?_
      · refine Cw_cond rfl rfl (fun hb => ?_) (fun hb => ?_)
        · have her : G.e v t = r := by have := of_decide_eq_true hb; omega
          have hc1 : 1 ≤ c := by
            refine Nat.pos_of_ne_zero (fun h0 => ?_)
            subst h0
            have hvr := hCh.inj v r hvn hr (by rw [hlv', hCh.root]; omega)
            subst hvr
            exact hC.irr v t hvn ht' her
          have hst := him.sto (fun h => hold (by rw [her]; exact h))
          have h2 := hcy.rep.st.cellv (i := 2) (by omega) hxl
          refine Cw_region (by kernel_rfl) ?_
          refine s_move (s_move (s_move (s_move (s_move (s_move ?_)))))
          refine s_c3 (by kernel_rfl) rfl rfl rfl (add_any B (oL (lim + 1) c) (cP (lim + 1) c) lim w3 h2 hl hbd.2.1 hbd.2.2.2) ?_
          rintro v1 w1 ⟨rfl, rfl⟩
          refine s_move ?_
          refine s_c3 (by kernel_rfl) rfl rfl rfl (add_any B (min (lim + 1) (oL (lim + 1) c + cP (lim + 1) c)) (cP (lim + 1) c) lim w1 h2 hl (by omega) hbd.2.2.2) ?_
          rintro v1 w2 ⟨rfl, rfl⟩
          refine s_c3 (by kernel_rfl) rfl rfl rfl (add_any B st (min (lim + 1) (min (lim + 1) (oL (lim + 1) c + cP (lim + 1) c) + cP (lim + 1) c)) lim w2 h2 hl (by omega) (by omega)) ?_
          rintro v1 w3 ⟨rfl, rfl⟩
          refine s_assign (Fl_nil (th_n ?_))
          rw [hst, nS (lim + 1) c hc1]
          exact ⟨_, wk4, _, ps, ls, sets_known ⟨rfl, rfl, rfl, rfl, rfl, rfl, rfl, rfl, rfl, rfl, trivial⟩, hcy, him.root her hCh.root, hks⟩
        · have her : G.e v t ≠ r := fun h => by have := of_decide_eq_false hb; omega
          refine Cw_seq ?_
          refine Cw_drawn [(0, 0), (1, 0), (2, 0), (3, 1), (4, 0), (5, 0), (6, 1), (7, 0), (8, 0), (9, 0), (10, 1), (11, 0), (12, 0), (13, 1), (14, 0), (15, 0)] [0, 1, 2, 3, 4, 5, 6, 7, 8, 9, 10, 11, 12, 13, 14, 15] (Ext w3) (by kernel_rfl) (by kernel_rfl) (by kernel_rfl) (by kernel_rfl) ?_
          have hS : Ext w3 w3.drew := fun _ _ => rfl
          have hl5 := hcy.rep.st.cellv (v := whole BL G.n) (i := 5) (by omega) rfl
          have hw1 := hcy.rep.le.cellv (v := .int .i32 (s.left (G.e v t))) hen rfl
          have hw2 := hcy.rep.le.cellv (v := .int .i32 (s.left v)) hvn rfl
          refine o0 rfl rfl (fun _ => r_move) (o0 rfl rfl (fun _ => r_nilP rfl) (o0 rfl rfl (fun _ => r_field0 rfl (by kernel_rfl)) (o1 rfl hS rfl (fun _ hw => r_load rfl (by kernel_rfl) (hw.cell hl5)) (o0 rfl rfl (fun _ => r_move) (o0 rfl rfl (fun _ => r_index1 rfl rfl rfl hen (by kernel_rfl)) (o1 rfl hS rfl (fun _ hw => r_load rfl (by kernel_rfl) (hw.cell hw1)) (o0 rfl rfl (fun _ => r_move) (o0 rfl rfl (fun _ => r_nilP rfl) (o0 rfl rfl (fun _ => r_field0 rfl (by kernel_rfl)) (o1 rfl hS rfl (fun _ hw => r_load rfl (by kernel_rfl) (hw.cell hl5)) (o0 rfl rfl (fun _ => r_move) (o0 rfl rfl (fun _ => r_index1 rfl rfl rfl hvn (by kernel_rfl)) (o1 rfl hS rfl (fun _ hw => r_load rfl (by kernel_rfl) (hw.cell hw2)) (o0 rfl rfl (fun _ => r_lss rfl rfl) (o0 rfl rfl (fun _ => r_assign) (Fo_nil (th_n ?_)))))))))))))))))
          have hcy1 := hcy.drew
          have hk1 : Keeps w w3.drew (fun q => q = B ∨ q = BL ∨ q = BP ∨ q = BN) := hks.trans (Keeps.drew w3 noB) (fun _ _ h => h) (fun _ _ h => h.elim)
          generalize w3.drew = w4 at hcy1 hk1 ⊢
          clear hS hcy hks hl5 hw1 hw2 hc4
          refine Cw_cond rfl rfl (fun hb => ?_) (fun hb => ?_)
          · have hlt : s.left (G.e v t) < (G.n : Int) - c := by have := of_decide_eq_true hb; omega
            have hov := him.old _ hen hlt hold
            refine Cw_fr [(0, .pointer (some ⟨B, 0, none⟩)), (1, .int .i32 (r : Int)), (7, .int .i64 ((st : Nat) : Int)), (8, .int .i64 ((G.n : Int) - 1 - ((c : Nat) : Int))), (9, .int .i32 (v : Int)), (10, .int .i64 ((cP (lim + 1) c : Nat) : Int)), (11, .int .i64 ((oL (lim + 1) c : Nat) : Int)), (77, .slice (some ⟨b4, o4, none⟩) (G.len v) cap3), (78, .int .i64 ((G.len v : Nat) : Int)), (79, .int .i64 ((t : Nat) : Int)), (13, .int .i32 ((G.e v t : Nat) : Int))] ⟨rfl, rfl, rfl, rfl, rfl, rfl, rfl, rfl, rfl, rfl, rfl, trivial⟩ (fun g => ?_)
            refine Cw_seq ?_
            refine Cw_drawn [(0, 0), (1, 0), (2, 0), (3, 1), (4, 0), (5, 0), (6, 0), (7, 0), (8, 0), (9, 1), (10, 0), (11, 0), (12, 1), (13, 0), (14, 1), (15, 0), (16, 2)] [0, 1, 2, 3, 4, 5, 6, 7, 8, 9, 10, 11, 12, 13, 14] (Ext w4) (by kernel_rfl) (by kernel_rfl) (by kernel_rfl) (by kernel_rfl) ?_
            have hS : Ext w4 w4.drew := fun _ _ => rfl
            have h2 := hcy1.rep.st.cellv (i := 2) (by omega) hxl
            have h8 := hcy1.rep.st.cellv (i := 8) (by omega) hxp
            have hpv := hcy1.pa.cellv (v := .int .i64 ((oP (lim + 1) c : Nat) : Int)) hen (by rw [hov.1])
            refine o0 rfl rfl (fun _ => r_move) (o0 rfl rfl (fun _ => r_nilP rfl) (o0 rfl rfl (fun _ => r_field0 rfl (by kernel_rfl)) (o1 rfl hS rfl (fun _ hw => r_load rfl (by kernel_rfl) (hw.cell h8)) (o0 rfl rfl (fun _ => r_move) (o0 rfl rfl (fun _ => r_move) (o0 rfl rfl (fun _ => r_move) (o0 rfl rfl (fun _ => r_nilP rfl) (o0 rfl rfl (fun _ => r_field0 rfl (by kernel_rfl)) (o1 rfl hS rfl (fun _ hw => r_load rfl (by kernel_rfl) (hw.cell h8)) (o0 rfl rfl (fun _ => r_move) (o0 rfl rfl (fun _ => r_index1 rfl rfl rfl hen (by kernel_rfl)) (o1 rfl hS rfl (fun _ hw => r_load rfl (by kernel_rfl) (hw.cell hpv)) (o0 rfl rfl (fun _ => r_move) ?_)))))))))))))
            refine o1c rfl hS rfl (fun _ => r_c3 (by kernel_rfl) rfl rfl rfl) (fun w' hw => add_q B (oP (lim + 1) c) (cP (lim + 1) c) lim w' (hw.cell h2) hl hbd.1 hbd.2.2.2 _ rfl) ?_
            rw [nP]
            refine o0 rfl rfl (fun _ => r_index1 rfl rfl rfl hen (by kernel_rfl)) (o2s rfl rfl (r_store (v := .int .i64 ((min (lim + 1) (dep c).sp : Nat) : Int)) rfl rfl (by kernel_rfl) rfl (hcy1.drew.pa.cell hen) (hcy1.drew.pa.frozen _)) (fun h => by cases h) (Fo_nil (th_n ?_)))
            have hcy2 := hcy1.drew.setP hD (G.e v t) (min (lim + 1) (dep c).sp)
            have hk2 : Keeps w (w4.drew.setCell ⟨BP, G.e v t, none⟩ (.int .i64 ((min (lim + 1) (dep c).sp : Nat) : Int))) (fun q => q = B ∨ q = BL ∨ q = BP ∨ q = BN) := (hk1.trans (Keeps.drew w4 noB) (fun _ _ h => h) (fun _ _ h => h.elim)).trans (Keeps.setCell _ _ _) (fun _ _ h => h) (fun q _ h => .inr (.inr (.inl h)))
            generalize w4.drew.setCell ⟨BP, G.e v t, none⟩ (.int .i64 ((min (lim + 1) (dep c).sp : Nat) : Int)) = w5 at hcy2 hk2 ⊢
            clear hS hcy1 hk1 h2 h8 hpv
            refine Cw_fr [(0, .pointer (some ⟨B, 0, none⟩)), (1, .int .i32 (r : Int)), (7, .int .i64 ((st : Nat) : Int)), (8, .int .i64 ((G.n : Int) - 1 - ((c : Nat) : Int))), (9, .int .i32 (v : Int)), (10, .int .i64 ((cP (lim + 1) c : Nat) : Int)), (11, .int .i64 ((oL (lim + 1) c : Nat) : Int)), (77, .slice (some ⟨b4, o4, none⟩) (G.len v) cap3), (78, .int .i64 ((G.len v : Nat) : Int)), (79, .int .i64 ((t : Nat) : Int)), (13, .int .i32 ((G.e v t : Nat) : Int))] ⟨rfl, rfl, rfl, rfl, rfl, rfl, rfl, rfl, rfl, rfl, rfl, trivial⟩ (fun g => ?_)
            refine Cw_drawn [(0, 0), (1, 0), (2, 0), (3, 1), (4, 0), (5, 0), (6, 0), (7, 0), (8, 0), (9, 1), (10, 0), (11, 0), (12, 1), (13, 0), (14, 0), (15, 0), (16, 1), (17, 1), (18, 0), (19, 2)] [0, 1, 2, 3, 4, 5, 6, 7, 8, 9, 10, 11, 12, 13, 14, 15, 16, 17] (Ext w5) (by kernel_rfl) (by kernel_rfl) (by kernel_rfl) (by kernel_rfl) ?_
            have hS : Ext w5 w5.drew := fun _ _ => rfl
            have h2 := hcy2.rep.st.cellv (i := 2) (by omega) hxl
            have h9 := hcy2.rep.st.cellv (i := 9) (by omega) hxn
            have hnv := hcy2.ln.cellv (v := .int .i64 ((oL (lim + 1) c : Nat) : Int)) hen (by rw [hov.2])
            refine o0 rfl rfl (fun _ => r_move) (o0 rfl rfl (fun _ => r_nilP rfl) (o0 rfl rfl (fun _ => r_field0 rfl (by kernel_rfl)) (o1 rfl hS rfl (fun _ hw => r_load rfl (by kernel_rfl) (hw.cell h9)) (o0 rfl rfl (fun _ => r_move) (o0 rfl rfl (fun _ => r_move) (o0 rfl rfl (fun _ => r_move) (o0 rfl rfl (fun _ => r_nilP rfl) (o0 rfl rfl (fun _ => r_field0 rfl (by kernel_rfl)) (o1 rfl hS rfl (fun _ hw => r_load rfl (by kernel_rfl) (hw.cell h9)) (o0 rfl rfl (fun _ => r_move) (o0 rfl rfl (fun _ => r_index1 rfl rfl rfl hen (by kernel_rfl)) (o1 rfl hS rfl (fun _ hw => r_load rfl (by kernel_rfl) (hw.cell hnv)) (o0 rfl rfl (fun _ => r_move) (o0 rfl rfl (fun _ => r_move) (o0 rfl rfl (fun _ => r_move) ?_)))))))))))))))
            refine o1c rfl hS rfl (fun _ => r_c3 (by kernel_rfl) rfl rfl rfl) (fun w' hw => add_q B (oL (lim + 1) c) (cP (lim + 1) c) lim w' (hw.cell h2) hl hbd.2.1 hbd.2.2.2 _ rfl) ?_
            refine o1c rfl hS rfl (fun _ => r_c3 (by kernel_rfl) rfl rfl rfl) (fun w' hw => add_q B (oL (lim + 1) c) (min (lim + 1) (oL (lim + 1) c + cP (lim + 1) c)) lim w' (hw.cell h2) hl hbd.2.1 (by omega) _ rfl) ?_
            rw [nL]
            refine o0 rfl rfl (fun _ => r_index1 rfl rfl rfl hen (by kernel_rfl)) (o2s rfl rfl (r_store (v := .int .i64 ((min (lim + 1) (dep c).sl : Nat) : Int)) rfl rfl (by kernel_rfl) rfl (hcy2.drew.ln.cell hen) (hcy2.drew.ln.frozen _)) (fun h => by cases h) (Fo_nil (th_n ?_)))
            have hcy3 := hcy2.drew.setL hD (G.e v t) (min (lim + 1) (dep c).sl)
            have hk3 : Keeps w (w5.drew.setCell ⟨BN, G.e v t, none⟩ (.int .i64 ((min (lim + 1) (dep c).sl : Nat) : Int))) (fun q => q = B ∨ q = BL ∨ q = BP ∨ q = BN) := (hk2.trans (Keeps.drew w5 noB) (fun _ _ h => h) (fun _ _ h => h.elim)).trans (Keeps.setCell _ _ _) (fun _ _ h => h) (fun q _ h => .inr (.inr (.inr h)))
            exact ⟨_, wk4, st, _, _, sets_known ⟨rfl, rfl, rfl, rfl, rfl, rfl, rfl, rfl, rfl, rfl, trivial⟩, hcy3, him.ext her, hk3⟩
          · have hlt : ¬ s.left (G.e v t) < (G.n : Int) - c := by have := of_decide_eq_false hb; omega
            exact Cw_skip (th_n ⟨_, wk4, st, ps, ls, sets_known ⟨rfl, rfl, rfl, rfl, rfl, rfl, rfl, rfl, rfl, rfl, trivial⟩, hcy1, him.skip her hlt, hk1⟩)
      · intro e f' w' h
        cases e with
        | normal =>
          obtain ⟨g, wk, st, ps, ls, rfl, hcy, him, hks⟩ := h
          refine ib_n (ib_n (th_n ?_))
          refine Cw_region (by kernel_rfl) ?_
          refine s_add rfl rfl (by omega) (s_move (Fl_nil (th_n ?_)))
          exact ⟨_, (by omega), _, t + 1, wk, st, ps, ls, sets_known ⟨rfl, rfl, rfl, rfl, rfl, rfl, rfl, rfl, rfl, rfl, trivial⟩, ht', hcy, him, hks, rfl⟩
        | _ => exact h.elim
    · have ht' : t = G.len v := by have := of_decide_eq_false hb; omega
      refine Cw_exit (ex_th (ex_th (ex_in ?_)))
      have hd := him.done hC hCh hr hvn hlv' ht'
      refine ib_n (th_n ?_)
      refine Cw_region (by kernel_rfl) ?_
      refine s_move (s_sub rfl rfl (by omega) (s_assign (Fl_nil (th_n ?_))))
      have e : ((G.n : Int) - 1 - ((c : Nat) : Int) - 1) = (G.n : Int) - 1 - ((c + 1 : Nat) : Int) := by omega
      exact ⟨_, (by omega), _, c + 1, wk4, ps, ls, sets_known ⟨rfl, rfl, congrArg (fun z : Nat => Value.int .i64 (z : Int)) hd.2, congrArg (Value.int .i64) e, trivial⟩, hc', hcy, hd.1, hks, rfl⟩
  · have hc' : c = G.n := by have := of_decide_eq_false hb; omega
    subst hc'
    refine Cw_exit (ex_th (ex_th (ex_in (th_n ?_))))
    refine Cw_seq (Cw_region (by kernel_rfl) ?_)
    refine s_move (s_assign (Fl_nil (th_n ?_)))
    refine Cw_ret ?_
    have e : ((oS (lim + 1) G.n : Nat) : Int) = ((min (lim + 1) (cyc G.n) : Nat) : Int) := by
      unfold oS cyc; rw [if_neg (by omega)]
    exact ⟨congrArg (Value.int .i64) e, hks⟩
end Go.Proofs.Qxb6000043a

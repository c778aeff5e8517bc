/-
  WALKS, K: (*stepBound).cliqueSteps on a complete graph. Own work.
-/
import Derived.Test.Qxb6000043aWaJ
namespace Go.Proofs.Qxb6000043a
open Go.Fw Go.Proofs.Qxb6000043a.Pl
set_option maxRecDepth 10000

theorem ex_ne {Q : Exit → (Nat → Value) → World → Prop} {f : Nat → Value} {w : World} {id j : Nat} (hj : Nat.beq j id = false) (h : Q (.exit j) f w) : inB id Q (.exit j) f w := by
  simp only [inB, hj]
  exact h
section
variable {P : Program} {f : Nat → Value} {w : World} {dst : Option Tmp} {ty : TypeId} {pos : String} {af : Array Edge} {gu : Option (Nat × Bool)}
theorem r_eqlT {x y : Operand} {t t' : TypeId} {k : IntKind} {a b : Int} (hx : ev f x = .int k a) (hy : ev f y = .int k b) (h : a = b) : (execOp (ev f) ⟨dst, .binOp .eql t x y t', ty, pos, af, gu⟩).run P w = .ok (.value (.bool true)) w := by
  rw [r_eql hx hy, decide_eq_true h]
theorem r_eqlF {x y : Operand} {t t' : TypeId} {k : IntKind} {a b : Int} (hx : ev f x = .int k a) (hy : ev f y = .int k b) (h : a ≠ b) : (execOp (ev f) ⟨dst, .binOp .eql t x y t', ty, pos, af, gu⟩).run P w = .ok (.value (.bool false)) w := by
  rw [r_eql hx hy, decide_eq_false h]
end
def cEx (B BA BW q : Nat) : Prop := q = B ∨ q = BA ∨ q = BW
theorem cEx_keep {w w1 w2 : World} {B BA BW : Nat} {ex : Nat → Prop} (h1 : Keeps w w1 (cEx B BA BW)) (h2 : Keeps w1 w2 ex) (h : ∀ q, q < w.heap.size → ex q → cEx B BA BW q) : Keeps w w2 (cEx B BA BW) := h1.trans h2 (fun _ _ h => h) h
/-- Both ways meet, the world may change. -/
theorem Cw_meet {P : Program} {N : Nat} {c : Code} {K : (Nat → Value) → World → Prop} {Q : Exit → (Nat → Value) → World → Prop} {f : Nat → Value} {w : World} (M : (Nat → Value) → World → Prop) (h : Cw P N c (thn M (fun _ _ _ => False)) f w) (hk : ∀ f w, M f w → K f w) : Cw P N c (thn K Q) f w := by
  refine Cw_mono h ?_
  intro e f' w' hh
  cases e with
  | normal => exact hk _ _ hh
  | _ => exact hh.elim
theorem Cw_meetN {P : Program} {N : Nat} {c : Code} {Q : Exit → (Nat → Value) → World → Prop} {f : Nat → Value} {w : World} (M : (Nat → Value) → World → Prop) (h : Cw P N c (thn M (fun _ _ _ => False)) f w) (hk : ∀ f w, M f w → Q .normal f w) : Cw P N c Q f w := by
  refine Cw_mono h ?_
  intro e f' w' hh
  cases e with
  | normal => exact hk _ _ hh
  | _ => exact hh.elim

set_option maxHeartbeats 4000000 in
theorem clique_any (G : Gr) (hC : Cmp G) (r : Nat) (hr : r < G.n) (hn : G.n ≤ 500) (lim : Nat) (hl : lim < 9223372036854775807) (RE RW : Nat → Prop) (w : World) (B BA BW : Nat) (x : CF) (wk : Int) (lw : Nat → Nat) (ew : Nat → Nat → Nat)
    (hcl : Cl w B BA BW G.n lim x wk (.slice none 0 0) 0 (fun _ => 0) (fun _ => 0))
    (hE : irows RE w x.vE G.n G.len (fun v i => (G.e v i : Int))) (hW : irows RW w x.vW G.n lw (fun v i => (ew v i : Int)))
    (hlw : ∀ v, v < G.n → lw v ≤ 4294967296) (hew : ∀ v t, v < G.n → t < lw v → ew v t < G.n) (hws : ∀ v u, v < G.n → u < G.n → u ≠ v → ∃ t, t < lw v ∧ ew v t = u)
    (hRE : ∀ k, RE k → k ≠ B ∧ k ≠ BA ∧ k ≠ BW ∧ k < w.heap.size) (hRW : ∀ k, RW k → k ≠ B ∧ k ≠ BA ∧ k ≠ BW ∧ k < w.heap.size) :
    Calls Try.prog 36 #[.pointer (some ⟨B, 0, none⟩), .int .i32 (r : Int)] w fun ee w' => ∃ v, ee = .returned v ∧ (v = .int .i64 ((min (lim + 1) (bs G.n G.n) : Nat) : Int) ∧ Keeps w w' (cEx B BA BW)) := by
  have hlen : ∀ v, v < G.n → G.len v + 1 = G.n := fun v hv => by have := hC.len v hv; omega
  have hnE : ∀ k, RE k → k < w.heap.size → ¬ cEx B BA BW k := fun k hk _ h => by have := hRE k hk; rcases h with h | h | h <;> omega
  have hnW : ∀ k, RW k → k < w.heap.size → ¬ cEx B BA BW k := fun k hk _ h => by have := hRW k hk; rcases h with h | h | h <;> omega
  obtain ⟨bE, oE, cE, hRbE, hvE, hcE⟩ := hE.form hr
  obtain ⟨bW, oW, cW, hRbW, hvW, hcW⟩ := hW.form hr
  have hbE : ¬ cEx B BA BW bE := hnE bE hRbE (hRE bE hRbE).2.2.2
  have hbW : ¬ cEx B BA BW bW := hnW bW hRbW (hRW bW hRbW).2.2.2
  have hBH : B < w.heap.size ∧ BA < w.heap.size ∧ BW < w.heap.size := ⟨hcl.st.lt, hcl.ba.lt, hcl.bw.lt⟩
  refine enter1 (args := [_, _]) (R := fun v w' => v = .int .i64 ((min (lim + 1) (bs G.n G.n) : Nat) : Int) ∧ Keeps w w' (cEx B BA BW)) Try.func36 rfl Try.ntmps36 Try.results36 rfl rfl ?_
  refine Cw_seq (Cw_region (by kernel_rfl) ?_)
  refine s_assign (Fl_nil (th_n ?_))
  -- b.candidates = append(b.candidates[:0], b.edges[r]...)
  refine Cw_seq ?_
  obtain ⟨ur, hur, hrr⟩ := hcE r hr
  obtain ⟨ar, capr, rfl⟩ := hrr.val
  refine Cw_meet (fun f' w' => ∃ g vC, f' = sets [(0, .pointer (some ⟨B, 0, none⟩)), (1, .int .i32 (r : Int))] g ∧ Cl w' B BA BW G.n lim x wk vC 0 (fun _ => 0) (fun _ => 0) ∧ Cand w' w.heap.size vC ((List.range (G.len r)).map (G.e r)) ∧ Keeps w w' (cEx B BA BW)) ?_ ?_
  · refine Cw_drawn [(0, 0), (1, 0), (2, 0), (3, 0), (4, 1), (5, 0), (6, 0), (7, 0), (8, 0), (9, 1), (10, 0), (11, 0), (12, 1), (13, 2), (14, 0), (15, 0), (16, 2)] [0, 1, 2, 3, 4, 5, 6, 7, 8, 9, 10, 11, 12, 13] (Ext w) (by kernel_rfl) (by kernel_rfl) (by kernel_rfl) (by kernel_rfl) ?_
    have hS : Ext w w.drew := fun _ _ => rfl
    refine o0 rfl rfl (fun _ => r_move) (o0 rfl rfl (fun _ => r_move) (o0 rfl rfl (fun _ => r_nilP rfl) (o0 rfl rfl (fun _ => r_field0 rfl (by kernel_rfl)) (o1 rfl hS rfl (fun _ hw => r_load rfl (by kernel_rfl) (hw.cell (hcl.st.cellv (i := 10) (by omega) rfl))) (o0 rfl rfl (fun _ => r_sliceTo (i := 0) rfl rfl rfl (Nat.le_refl _) (by kernel_rfl)) (o0 rfl rfl (fun _ => r_move) (o0 rfl rfl (fun _ => r_nilP rfl) (o0 rfl rfl (fun _ => r_field0 rfl (by kernel_rfl)) (o1 rfl hS rfl (fun _ hw => r_load rfl (by kernel_rfl) (hw.cell (hcl.st.cellv (i := 0) (by omega) hvE))) (o0 rfl rfl (fun _ => r_move) (o0 rfl rfl (fun _ => r_indexO rfl rfl rfl hr (by kernel_rfl)) (o1 rfl hS rfl (fun _ hw => r_load rfl (by kernel_rfl) (hw.cell hur)) ?_))))))))))))
    by_cases h0 : G.len r = 0
    · rw [h0]
      refine o2 rfl rfl (r_append_nil rfl rfl slz57) (fun _ hw => hw) ?_
      refine o0 rfl rfl (fun _ => r_nilP rfl) (o0 rfl rfl (fun _ => r_field0 rfl (by kernel_rfl)) (o2s rfl rfl (r_store (v := .slice none 0 0) rfl rfl (by kernel_rfl) rfl (hcl.drew.st.cell (i := 10) (by omega)) (hcl.drew.st.frozen 10)) (fun h => by cases h) (Fo_nil (th_n ?_))))
      exact ⟨_, _, sets_known ⟨rfl, rfl, trivial⟩, hcl.drew.cand _, .inl ⟨rfl, rfl⟩, ((Keeps.drew w noB).trans (Keeps.setCell _ _ _) (fun _ _ h => h.elim) (fun q _ h => .inl h))⟩
    · obtain ⟨b2, o2', cap2, _, he2, hc2⟩ := hrr.form (i := 0) (by omega)
      simp only [Value.slice.injEq, true_and] at he2
      obtain ⟨rfl, rfl⟩ := he2
      have hl1 := hlen r hr
      refine o_append (v := .slice none 0 0) (n := 0) (xs := []) (news := (List.range (G.len r)).map (fun i => .int .i32 (G.e r i : Int))) rfl rfl rfl slz57 (by decide) rfl (World.ownsRow_nil _ _ _ _) (by simp) (fun j u hu => ?_) (fun u hu => ?_) (by omega) (by omega) (by omega) fun g5 cap5 w5 ho5 hk5 hg5 hl5 => ⟨fun _ hw => ?_, ?_⟩
      · have hj : j < G.len r := by have := (List.getElem?_eq_some_iff.1 hu).1; simpa using this
        simp [hj] at hu
        subst hu
        rw [Addr.add_lit]
        exact hc2 j hj
      · simp at hu
        obtain ⟨i, _, rfl⟩ := hu
        rfl
      · exact fun k hk => (hk5.block k hk (fun h => by cases h)).trans (hw k hk)
      · have hk6 : Keeps w w5 (cEx B BA BW) := (Keeps.drew w noB).trans hk5 (fun _ _ h => h.elim) (fun q _ h => by cases h)
        have hcl5 : Cl w5 B BA BW G.n lim x wk (.slice none 0 0) 0 (fun _ => 0) (fun _ => 0) := hcl.drew.keep hk5 (fun h => by cases h) (fun h => by cases h) (fun h => by cases h)
        refine o0 rfl rfl (fun _ => r_nilP rfl) (o0 rfl rfl (fun _ => r_field0 rfl (by kernel_rfl)) (o2s rfl rfl (r_store (v := .slice (some ⟨g5, 0, none⟩) (0 + G.len r) cap5) rfl rfl (by kernel_rfl) rfl (hcl5.st.cell (i := 10) (by omega)) (hcl5.st.frozen 10)) (fun h => by cases h) (Fo_nil (th_n ?_))))
        obtain ⟨F, hF1, hF2, hF3⟩ := own_arr ho5
        have hgH : w.heap.size ≤ g5 := by
          rcases hg5 with h | h
          · cases h
          · have : w.drew.heap.size = w.heap.size := rfl
            omega
        refine ⟨_, _, sets_known ⟨rfl, rfl, trivial⟩, hcl5.cand _, .inr ⟨g5, cap5, F, by simp, by simpa using hF2, hgH, hF1.other (a := ⟨B, 10, none⟩) (by show g5 ≠ B; omega) _, fun p u hu => ?_⟩, hk6.trans (Keeps.setCell _ _ _) (fun _ _ h => h) (fun q _ h => .inl h)⟩
        refine hF3 p _ ?_
        have hp : p < G.len r := by have := (List.getElem?_eq_some_iff.1 hu).1; simpa using this
        simp [hp] at hu ⊢
        rw [hu]
  rintro f1 w1 ⟨g, vC, rfl, hcl1, hcand1, hk1⟩
  clear hcl hur hrr
  refine Cw_seq (Cw_region (by kernel_rfl) ?_)
  refine s_assign (Fl_nil (th_n ?_))
  refine Cw_seq (Cw_seq (Cw_region (by kernel_rfl) ?_))
  refine s_move (s_assign (Fl_nil (th_n ?_)))
  refine Cw_block ?_
  -- the clique grows
  have hC0 : (List.range (G.len r)).map (G.e r) |>.Nodup := by
    unfold List.Nodup
    rw [List.pairwise_iff_getElem]
    intro i j hi hj hij he
    simp at hi hj he
    have := hC.inj r i j hr hi hj he
    omega
  have hC1 : kp r ((List.range (G.len r)).map (G.e r)) = (List.range (G.len r)).map (G.e r) := kp_not _ _ (fun h => by
    simp at h
    obtain ⟨t, ht, he⟩ := h
    exact hC.irr r t hr ht he)
  refine Cw_loop (fun m f w' => ∃ g K v C wk vC mk ba wa, f = sets [(0, .pointer (some ⟨B, 0, none⟩)), (5, .int .i64 ((K : Nat) : Int)), (6, .int .i32 ((v : Nat) : Int))] g ∧ v < G.n ∧ 1 ≤ K ∧ K ≤ G.n ∧ (kp v C).length = G.n - K ∧ C.Nodup ∧ (∀ c, c ∈ C → c < G.n) ∧ C.length ≤ G.n ∧
    Cl w' B BA BW G.n lim x wk vC mk ba wa ∧ (∀ u, ba u ≤ mk) ∧ mk < K ∧ Cand w' w.heap.size vC C ∧ Keeps w w' (cEx B BA BW) ∧ m = G.n - K) (G.n - 1)
    ⟨_, 1, r, _, wk, vC, 0, _, _, sets_known ⟨rfl, rfl, rfl, trivial⟩, hr, by omega, by omega, by have := hlen r hr; rw [hC1]; simp; omega, hC0, fun c hc => by
      simp at hc
      obtain ⟨t, ht, rfl⟩ := hc
      exact hC.ok r t hr ht, by have := hlen r hr; simp; omega, hcl1, fun _ => Nat.le_refl _, by omega, hcand1, hk1, rfl⟩ ?_
  clear hcl1 hcand1 hk1 hC0 hC1
  rintro m f w2 ⟨g, K, v, C, wk2, vC, mk, ba, wa, rfl, hv, hK1, hKn, hkl, hnd, hlt, hCl, hcl, hba, hmk, hcand, hk, rfl⟩
  obtain ⟨uE, huE, hrE⟩ := hcE v hv
  obtain ⟨aE, capE, rfl⟩ := hrE.val
  obtain ⟨uW, huW, hrW⟩ := hcW v hv
  obtain ⟨aW, capW, rfl⟩ := hrW.val
  have hlv := hlen v hv
  have hlwv := hlw v hv
  refine Cw_seq (Cw_block ?_)
  -- mark++
  refine Cw_seq (Cw_region (by kernel_rfl) ?_)
  refine s_move (s_nilP rfl (s_field rfl (by kernel_rfl) (s_load rfl (by kernel_rfl) (hcl.st.cellv (i := 13) (v := .int .i64 ((mk : Nat) : Int)) (by omega) rfl) (s_add rfl rfl (by omega) (s_nilP rfl (s_field rfl (by kernel_rfl) (s_store (v := .int .i64 ((mk + 1 : Nat) : Int)) rfl rfl (by kernel_rfl) rfl (hcl.st.cell (i := 13) (by omega)) (hcl.st.frozen 13) (Fl_nil (th_n ?_)))))))))
  have hcl3 := hcl.mark (mk + 1)
  have hk3 := cEx_keep hk (Keeps.setCell w2 ⟨B, 13, none⟩ (.int .i64 ((mk + 1 : Nat) : Int))) (fun q _ h => .inl h)
  have hcand3 := hcand.keep (Keeps.setCell w2 ⟨B, 13, none⟩ (.int .i64 ((mk + 1 : Nat) : Int))) (fun q hq h => by have h : q = B := h; omega)
  generalize w2.setCell ⟨B, 13, none⟩ (.int .i64 ((mk + 1 : Nat) : Int)) = w3 at hcl3 hk3 hcand3 ⊢
  clear hcl hk hcand
  -- blockedAt
  refine Cw_seq (Cw_seq (Cw_region (by kernel_rfl) ?_))
  refine s_move (s_nilP rfl (s_field rfl (by kernel_rfl) (s_load rfl (by kernel_rfl) (hcl3.st.cellv (i := 0) (by omega) hvE) (s_move (s_indexO rfl rfl rfl hv (by kernel_rfl) (s_load rfl (by kernel_rfl) (keep_cell hk3 hbE huE) (s_lenS rfl (by kernel_rfl) (s_move (Fl_nil (th_n ?_))))))))))
  refine Cw_block ?_
  refine Cw_loop (fun m f w' => ∃ g t ba, f = sets [(0, .pointer (some ⟨B, 0, none⟩)), (5, .int .i64 ((K : Nat) : Int)), (6, .int .i32 ((v : Nat) : Int)), (49, .slice aE (G.len v) capE), (50, .int .i64 ((G.len v : Nat) : Int)), (51, .int .i64 ((t : Nat) : Int))] g ∧ t ≤ G.len v ∧
    Cl w' B BA BW G.n lim x wk2 vC (mk + 1) ba wa ∧ Mk (G.e v) v (mk + 1) t ba ∧ Cand w' w.heap.size vC C ∧ Keeps w w' (cEx B BA BW) ∧ m = G.len v - t) (G.len v)
    ⟨_, 0, ba, sets_known ⟨rfl, rfl, rfl, rfl, rfl, rfl, trivial⟩, Nat.zero_le _, hcl3, ⟨fun u => Nat.le_succ_of_le (hba u), Nat.lt_succ_of_le (hba v), fun t' h => by omega⟩, hcand3, hk3, rfl⟩ ?_
  clear hcl3 hk3 hcand3
  rintro m f w3 ⟨g, t, ba, rfl, ht, hcl, hM, hcand, hk, rfl⟩
  refine Cw_seq (Cw_region (by kernel_rfl) ?_)
  refine s_lss rfl rfl (Fl_nil (th_n ?_))
  refine Cw_seq (Cw_cond rfl rfl (fun hb => ?_) (fun hb => ?_))
  · have ht' : t < G.len v := by have := of_decide_eq_true hb; omega
    have hen := hC.ok v t hv ht'
    refine Cw_skip (th_n ?_)
    obtain ⟨b4, o4, cap4, hRb4, he4, hc4⟩ := (hrE.keep hk hnE).form ht'
    simp only [Value.slice.injEq, true_and] at he4
    obtain ⟨rfl, rfl⟩ := he4
    refine Cw_seq (Cw_block (Cw_seq (Cw_region (by kernel_rfl) ?_)))
    refine s_indexO rfl rfl rfl ht' (by kernel_rfl) (s_load rfl (by kernel_rfl) (hc4 t ht') (s_assign (Fl_nil (th_n ?_))))
    refine Cw_drawn [(0, 0), (1, 0), (2, 0), (3, 1), (4, 0), (5, 0), (6, 0), (7, 0), (8, 1), (9, 0), (10, 2)] [0, 1, 2, 3, 4, 5, 6, 7, 8] (Ext w3) (by kernel_rfl) (by kernel_rfl) (by kernel_rfl) (by kernel_rfl) ?_
    have hS : Ext w3 w3.drew := fun _ _ => rfl
    refine o0 rfl rfl (fun _ => r_move) (o0 rfl rfl (fun _ => r_nilP rfl) (o0 rfl rfl (fun _ => r_field0 rfl (by kernel_rfl)) (o1 rfl hS rfl (fun _ hw => r_load rfl (by kernel_rfl) (hw.cell (hcl.st.cellv (i := 11) (v := whole BA G.n) (by omega) rfl))) (o0 rfl rfl (fun _ => r_move) (o0 rfl rfl (fun _ => r_move) (o0 rfl rfl (fun _ => r_nilP rfl) (o0 rfl rfl (fun _ => r_field0 rfl (by kernel_rfl)) (o1 rfl hS rfl (fun _ hw => r_load rfl (by kernel_rfl) (hw.cell (hcl.st.cellv (i := 13) (v := .int .i64 ((mk + 1 : Nat) : Int)) (by omega) rfl))) (o0 rfl rfl (fun _ => r_index1 rfl rfl rfl hen (by kernel_rfl)) (o2s rfl rfl (r_store (v := .int .i64 ((mk + 1 : Nat) : Int)) rfl rfl (by kernel_rfl) rfl (hcl.drew.ba.cell hen) (hcl.drew.ba.frozen _)) (fun h => by cases h) (Fo_nil (ib_n (th_n ?_)))))))))))))
    refine Cw_region (by kernel_rfl) ?_
    refine s_add rfl rfl (by omega) (s_move (Fl_nil (th_n ?_)))
    have hkd := cEx_keep hk (Keeps.drew w3 noB) (fun q _ h => h.elim)
    refine ⟨_, (by omega), _, t + 1, _, sets_known ⟨rfl, rfl, rfl, rfl, rfl, rfl, trivial⟩, ht', hcl.drew.setA (G.e v t) (mk + 1), hM.go (hC.irr v t hv ht'), (hcand.keep (Keeps.drew w3 noB) (fun _ _ h => h.elim)).keep (Keeps.setCell _ _ _) (fun q hq h => by have h : q = BA := h; omega), cEx_keep hkd (Keeps.setCell _ _ _) (fun q _ h => .inr (.inl h)), rfl⟩
  · have ht' : t = G.len v := by have := of_decide_eq_false hb; omega
    subst ht'
    refine Cw_exit (ex_th (ex_th (ex_in (th_n ?_))))
    clear hba
    generalize hfr : w3 = w4 at hcl hcand hk ⊢
    clear hfr
    -- waitingAt
    refine Cw_seq (Cw_seq (Cw_region (by kernel_rfl) ?_))
    refine s_move (s_nilP rfl (s_field rfl (by kernel_rfl) (s_load rfl (by kernel_rfl) (hcl.st.cellv (i := 1) (by omega) hvW) (s_move (s_indexO rfl rfl rfl hv (by kernel_rfl) (s_load rfl (by kernel_rfl) (keep_cell hk hbW huW) (s_lenS rfl (by kernel_rfl) (s_move (Fl_nil (th_n ?_))))))))))
    refine Cw_block ?_
    refine Cw_loop (fun m f w' => ∃ g t wa, f = sets [(0, .pointer (some ⟨B, 0, none⟩)), (5, .int .i64 ((K : Nat) : Int)), (6, .int .i32 ((v : Nat) : Int)), (72, .slice aW (lw v) capW), (73, .int .i64 ((lw v : Nat) : Int)), (74, .int .i64 ((t : Nat) : Int))] g ∧ t ≤ lw v ∧
      Cl w' B BA BW G.n lim x wk2 vC (mk + 1) ba wa ∧ (∀ t', t' < t → wa (ew v t') = mk + 1) ∧ Cand w' w.heap.size vC C ∧ Keeps w w' (cEx B BA BW) ∧ m = lw v - t) (lw v)
      ⟨_, 0, wa, sets_known ⟨rfl, rfl, rfl, rfl, rfl, rfl, trivial⟩, Nat.zero_le _, hcl, fun t' h => by omega, hcand, hk, rfl⟩ ?_
    clear hcl hk hcand
    rintro m f w3 ⟨g, t, wa, rfl, ht, hcl, hdn, hcand, hk, rfl⟩
    refine Cw_seq (Cw_region (by kernel_rfl) ?_)
    refine s_lss rfl rfl (Fl_nil (th_n ?_))
    refine Cw_seq (Cw_cond rfl rfl (fun hb => ?_) (fun hb => ?_))
    · have ht' : t < lw v := by have := of_decide_eq_true hb; omega
      have hen := hew v t hv ht'
      refine Cw_skip (th_n ?_)
      obtain ⟨b4, o4, cap4, hRb4, he4, hc4⟩ := (hrW.keep hk hnW).form ht'
      simp only [Value.slice.injEq, true_and] at he4
      obtain ⟨rfl, rfl⟩ := he4
      refine Cw_seq (Cw_block (Cw_seq (Cw_region (by kernel_rfl) ?_)))
      refine s_indexO rfl rfl rfl ht' (by kernel_rfl) (s_load rfl (by kernel_rfl) (hc4 t ht') (s_assign (Fl_nil (th_n ?_))))
      refine Cw_drawn [(0, 0), (1, 0), (2, 0), (3, 1), (4, 0), (5, 0), (6, 0), (7, 0), (8, 1), (9, 0), (10, 2)] [0, 1, 2, 3, 4, 5, 6, 7, 8] (Ext w3) (by kernel_rfl) (by kernel_rfl) (by kernel_rfl) (by kernel_rfl) ?_
      have hS : Ext w3 w3.drew := fun _ _ => rfl
      refine o0 rfl rfl (fun _ => r_move) (o0 rfl rfl (fun _ => r_nilP rfl) (o0 rfl rfl (fun _ => r_field0 rfl (by kernel_rfl)) (o1 rfl hS rfl (fun _ hw => r_load rfl (by kernel_rfl) (hw.cell (hcl.st.cellv (i := 12) (v := whole BW G.n) (by omega) rfl))) (o0 rfl rfl (fun _ => r_move) (o0 rfl rfl (fun _ => r_move) (o0 rfl rfl (fun _ => r_nilP rfl) (o0 rfl rfl (fun _ => r_field0 rfl (by kernel_rfl)) (o1 rfl hS rfl (fun _ hw => r_load rfl (by kernel_rfl) (hw.cell (hcl.st.cellv (i := 13) (v := .int .i64 ((mk + 1 : Nat) : Int)) (by omega) rfl))) (o0 rfl rfl (fun _ => r_index1 rfl rfl rfl hen (by kernel_rfl)) (o2s rfl rfl (r_store (v := .int .i64 ((mk + 1 : Nat) : Int)) rfl rfl (by kernel_rfl) rfl (hcl.drew.bw.cell hen) (hcl.drew.bw.frozen _)) (fun h => by cases h) (Fo_nil (ib_n (th_n ?_)))))))))))))
      refine Cw_region (by kernel_rfl) ?_
      refine s_add rfl rfl (by omega) (s_move (Fl_nil (th_n ?_)))
      have hkd := cEx_keep hk (Keeps.drew w3 noB) (fun q _ h => h.elim)
      refine ⟨_, (by omega), _, t + 1, _, sets_known ⟨rfl, rfl, rfl, rfl, rfl, rfl, trivial⟩, ht', hcl.drew.setW (ew v t) (mk + 1), dn_go hdn, (hcand.keep (Keeps.drew w3 noB) (fun _ _ h => h.elim)).keep (Keeps.setCell _ _ _) (fun q hq h => by have h : q = BW := h; omega), cEx_keep hkd (Keeps.setCell _ _ _) (fun q _ h => .inr (.inr h)), rfl⟩
    · have ht' : t = lw v := by have := of_decide_eq_false hb; omega
      subst ht'
      refine Cw_exit (ex_th (ex_th (ex_in (th_n ?_))))
      generalize hfr : w3 = w4 at hcl hcand hk ⊢
      clear hfr
      -- the marks tell x from the others
      have hbam := hM.le
      have hmine : ba v ≠ mk + 1 := by have := hM.own; omega
      have hothers : ∀ c, c < G.n → c ≠ v → ba c = mk + 1 ∧ wa c = mk + 1 := by
        intro c hc hcv
        obtain ⟨t1, ht1, he1⟩ := hC.sur v c hv hc hcv
        obtain ⟨t2, ht2, he2⟩ := hws v c hv hc hcv
        exact ⟨he1 ▸ hM.dn t1 ht1, he2 ▸ hdn t2 ht2⟩
      obtain ⟨aC, capC, hvC⟩ := hcand.val
      subst hvC
      -- work
      refine Cw_seq ?_
      refine Cw_drawn [(0, 0), (1, 0), (2, 0), (3, 1), (4, 0), (5, 0), (6, 0), (7, 1), (8, 0), (9, 0), (10, 1), (11, 0), (12, 0), (13, 0), (14, 0), (15, 0), (16, 1), (17, 0), (18, 0), (19, 1), (20, 0), (21, 0), (22, 0), (23, 0), (24, 0), (25, 1), (26, 0), (27, 0), (28, 0), (29, 0), (30, 0), (31, 2)] [0, 1, 2, 3, 4, 5, 6, 7, 8, 9, 10, 11, 12, 13, 14, 15, 16, 17, 18, 19, 20, 21, 22, 23, 24, 25, 26, 27, 28] (Ext w4) (by kernel_rfl) (by kernel_rfl) (by kernel_rfl) (by kernel_rfl) ?_
      have hS : Ext w4 w4.drew := fun _ _ => rfl
      refine o0 rfl rfl (fun _ => r_move) (o0 rfl rfl (fun _ => r_nilP rfl) (o0 rfl rfl (fun _ => r_field0 rfl (by kernel_rfl)) (o1 rfl hS rfl (fun _ hw => r_load rfl (by kernel_rfl) (hw.cell (hcl.st.cellv (i := 4) (v := .int .i64 wk2) (by omega) rfl))) (o0 rfl rfl (fun _ => r_move) (o0 rfl rfl (fun _ => r_nilP rfl) (o0 rfl rfl (fun _ => r_field0 rfl (by kernel_rfl)) (o1 rfl hS rfl (fun _ hw => r_load rfl (by kernel_rfl) (hw.cell (hcl.st.cellv (i := 0) (by omega) hvE))) (o0 rfl rfl (fun _ => r_move) (o0 rfl rfl (fun _ => r_indexO rfl rfl rfl hv (by kernel_rfl)) (o1 rfl hS rfl (fun _ hw => r_load rfl (by kernel_rfl) (hw.cell (keep_cell hk hbE huE))) ?_))))))))))
      refine o0 rfl rfl (fun _ => r_lenS rfl (by kernel_rfl)) (o0 rfl rfl (fun _ => r_add rfl rfl (by omega)) (o0 rfl rfl (fun _ => r_move) (o0 rfl rfl (fun _ => r_nilP rfl) (o0 rfl rfl (fun _ => r_field0 rfl (by kernel_rfl)) (o1 rfl hS rfl (fun _ hw => r_load rfl (by kernel_rfl) (hw.cell (hcl.st.cellv (i := 1) (by omega) hvW))) (o0 rfl rfl (fun _ => r_move) (o0 rfl rfl (fun _ => r_indexO rfl rfl rfl hv (by kernel_rfl)) (o1 rfl hS rfl (fun _ hw => r_load rfl (by kernel_rfl) (hw.cell (keep_cell hk hbW huW))) ?_))))))))
      refine o0 rfl rfl (fun _ => r_lenS rfl (by kernel_rfl)) (o0 rfl rfl (fun _ => r_add rfl rfl (by omega)) (o0 rfl rfl (fun _ => r_move) (o0 rfl rfl (fun _ => r_nilP rfl) (o0 rfl rfl (fun _ => r_field0 rfl (by kernel_rfl)) (o1 rfl hS rfl (fun _ hw => r_load rfl (by kernel_rfl) (hw.cell (hcl.st.cellv (i := 10) (v := .slice aC C.length capC) (by omega) rfl))) (o0 rfl rfl (fun _ => r_lenS rfl (by kernel_rfl)) (o0 rfl rfl (fun _ => r_add rfl rfl (by omega)) (o0 rfl rfl (fun _ => r_addw rfl rfl) (o0 rfl rfl (fun _ => r_nilP rfl) (o0 rfl rfl (fun _ => r_field0 rfl (by kernel_rfl)) (o2s rfl rfl (r_store (v := .int .i64 (IntKind.i64.wrap (wk2 + (1 + (G.len v : Int) + (lw v : Int) + (C.length : Int))))) rfl rfl (by kernel_rfl) rfl (hcl.drew.st.cell (i := 4) (by omega)) (hcl.drew.st.frozen 4)) (fun h => by cases h) (Fo_nil (th_n ?_)))))))))))))
      generalize IntKind.i64.wrap (wk2 + (1 + (G.len v : Int) + (lw v : Int) + (C.length : Int))) = wk3
      have hcl5 := hcl.drew.work wk3
      have hk5 := cEx_keep (cEx_keep hk (Keeps.drew w4 noB) (fun q _ h => h.elim)) (Keeps.setCell w4.drew ⟨B, 4, none⟩ (.int .i64 wk3)) (fun q _ h => .inl h)
      have hcand5 := (hcand.keep (Keeps.drew w4 noB) (fun _ _ h => h.elim)).keep (Keeps.setCell w4.drew ⟨B, 4, none⟩ (.int .i64 wk3)) (fun q hq h => by have h : q = B := h; omega)
      generalize w4.drew.setCell ⟨B, 4, none⟩ (.int .i64 wk3) = w5 at hcl5 hk5 hcand5 ⊢
      clear hcl hk hcand hS hdn hM
      refine Cw_fr [(0, .pointer (some ⟨B, 0, none⟩)), (5, .int .i64 ((K : Nat) : Int))] ⟨rfl, rfl, trivial⟩ (fun g => ?_)
      -- kept
      refine Cw_seq (Cw_region (by kernel_rfl) ?_)
      refine s_move (s_nilP rfl (s_field rfl (by kernel_rfl) (s_load rfl (by kernel_rfl) (hcl5.st.cellv (i := 10) (v := .slice aC C.length capC) (by omega) rfl) (s_sliceTo (i := 0) rfl rfl rfl (Nat.zero_le _) (by kernel_rfl) (s_assign (Fl_nil (th_n ?_)))))))
      refine Cw_seq (Cw_seq (Cw_region (by kernel_rfl) ?_))
      refine s_move (s_nilP rfl (s_field rfl (by kernel_rfl) (s_load rfl (by kernel_rfl) (hcl5.st.cellv (i := 10) (v := .slice aC C.length capC) (by omega) rfl) (s_lenS rfl (by kernel_rfl) (s_move (Fl_nil (th_n ?_)))))))
      refine Cw_block ?_
      refine Cw_loop (fun m f w' => ∃ g t vK, f = sets [(0, .pointer (some ⟨B, 0, none⟩)), (5, .int .i64 ((K : Nat) : Int)), (11, vK), (128, .slice aC C.length capC), (129, .int .i64 ((C.length : Nat) : Int)), (130, .int .i64 ((t : Nat) : Int))] g ∧ t ≤ C.length ∧
        Cl w' B BA BW G.n lim x wk3 (.slice aC C.length capC) (mk + 1) ba wa ∧ Filt w' w.heap.size (.slice aC C.length capC) vK C v t ∧ Keeps w w' (cEx B BA BW) ∧ m = C.length - t) C.length
        ⟨_, 0, _, sets_known ⟨rfl, rfl, rfl, rfl, rfl, rfl, trivial⟩, Nat.zero_le _, hcl5, hcand5.filt rfl, hk5, rfl⟩ ?_
      clear hcl5 hk5 hcand5
      rintro m f w5 ⟨g, t, vK, rfl, ht, hcl, hF, hk, rfl⟩
      refine Cw_seq (Cw_region (by kernel_rfl) ?_)
      refine s_lss rfl rfl (Fl_nil (th_n ?_))
      refine Cw_seq (Cw_cond rfl rfl (fun hb => ?_) (fun hb => ?_))
      · have ht' : t < C.length := by have := of_decide_eq_true hb; omega
        refine Cw_skip (th_n ?_)
        obtain ⟨gC, capK, F, h1, h2, h3, h4, h5, h6, h7⟩ := hF.form ht'
        simp only [Value.slice.injEq, true_and] at h1
        obtain ⟨rfl, rfl⟩ := h1
        subst h2
        have hcn : C[t] < G.n := hlt _ (List.getElem_mem ht')
        have hcc := h5.cellv (i := t) (v := .int .i32 ((C[t] : Nat) : Int)) (by omega) (h7 t _ (Nat.le_refl _) (List.getElem?_eq_getElem ht'))
        refine Cw_seq (Cw_block (Cw_seq (Cw_region (by kernel_rfl) ?_)))
        refine s_index rfl rfl rfl ht' (by kernel_rfl) (s_load rfl (by kernel_rfl) hcc (s_assign (Fl_nil (th_n ?_))))
        refine Cw_meetN (fun f' w' => ∃ g vK, f' = sets [(0, .pointer (some ⟨B, 0, none⟩)), (5, .int .i64 ((K : Nat) : Int)), (11, vK), (128, .slice (some ⟨gC, 0, none⟩) C.length capC), (129, .int .i64 ((C.length : Nat) : Int)), (130, .int .i64 ((t : Nat) : Int))] g ∧
          Cl w' B BA BW G.n lim x wk3 (.slice (some ⟨gC, 0, none⟩) C.length capC) (mk + 1) ba wa ∧ Filt w' w.heap.size (.slice (some ⟨gC, 0, none⟩) C.length capC) vK C v (t + 1) ∧ Keeps w w' (cEx B BA BW)) ?_ ?_
        · refine Cw_seq ?_
          refine Cw_drawn [(0, 0), (1, 0), (2, 0), (3, 1), (4, 0), (5, 0), (6, 1), (7, 0), (8, 0), (9, 0), (10, 1), (11, 0), (12, 0), (13, 0), (14, 0), (15, 0), (16, 1), (17, 0), (18, 0), (19, 1), (20, 0), (21, 0), (22, 0), (23, 1), (24, 0), (25, 0)] [0, 1, 2, 3, 4, 5, 6, 7, 8, 9, 10, 11, 12, 13, 14, 15, 16, 17, 18, 19, 20, 21, 22, 23, 24, 25] (Ext w5) (by kernel_rfl) (by kernel_rfl) (by kernel_rfl) (by kernel_rfl) ?_
          have hS : Ext w5 w5.drew := fun _ _ => rfl
          have hkd := cEx_keep hk (Keeps.drew w5 noB) (fun q _ h => h.elim)
          have hFd := hF.keep (Keeps.drew w5 noB) (fun _ _ h => h.elim)
          have h13 := hcl.st.cellv (i := 13) (v := .int .i64 ((mk + 1 : Nat) : Int)) (by omega) rfl
          have h11 := hcl.st.cellv (i := 11) (v := whole BA G.n) (by omega) rfl
          have h12 := hcl.st.cellv (i := 12) (v := whole BW G.n) (by omega) rfl
          have hb1 := hcl.ba.cell hcn
          have hb2 := hcl.bw.cell hcn
          refine o0 rfl rfl (fun _ => r_move) (o0 rfl rfl (fun _ => r_nilP rfl) (o0 rfl rfl (fun _ => r_field0 rfl (by kernel_rfl)) (o1 rfl hS rfl (fun _ hw => r_load rfl (by kernel_rfl) (hw.cell h11)) (o0 rfl rfl (fun _ => r_move) (o0 rfl rfl (fun _ => r_index1 rfl rfl rfl hcn (by kernel_rfl)) (o1 rfl hS rfl (fun _ hw => r_load rfl (by kernel_rfl) (hw.cell hb1)) (o0 rfl rfl (fun _ => r_move) (o0 rfl rfl (fun _ => r_nilP rfl) (o0 rfl rfl (fun _ => r_field0 rfl (by kernel_rfl)) (o1 rfl hS rfl (fun _ hw => r_load rfl (by kernel_rfl) (hw.cell h13)) ?_))))))))))
          by_cases hcv : C[t] = v
          · refine o0 rfl rfl (fun _ => r_eqlF rfl rfl (by rw [hcv]; omega)) (o0 rfl rfl (fun _ => r_move) (o0g rfl rfl (o0g rfl rfl (o0g rfl rfl (o1g rfl hS rfl (o0g rfl rfl (o0g rfl rfl (o1g rfl hS rfl (o0g rfl rfl (o0g rfl rfl (o0g rfl rfl (o1g rfl hS rfl (o0g rfl rfl (o0 rfl rfl (fun _ => r_pick rfl) (Fo_nil (th_n ?_))))))))))))))))
            refine Cw_false rfl rfl rfl (Cw_skip (th_n ?_))
            exact ⟨_, _, sets_known ⟨rfl, rfl, rfl, rfl, rfl, rfl, trivial⟩, hcl.drew, hFd.pass ht' hcv, hkd⟩
          · have hm := hothers _ hcn hcv
            refine o0 rfl rfl (fun _ => r_eqlT rfl rfl (by rw [hm.1])) (o0 rfl rfl (fun _ => r_move) (o0 rfl rfl (fun _ => r_move) (o0 rfl rfl (fun _ => r_nilP rfl) (o0 rfl rfl (fun _ => r_field0 rfl (by kernel_rfl)) (o1 rfl hS rfl (fun _ hw => r_load rfl (by kernel_rfl) (hw.cell h12)) (o0 rfl rfl (fun _ => r_move) (o0 rfl rfl (fun _ => r_index1 rfl rfl rfl hcn (by kernel_rfl)) (o1 rfl hS rfl (fun _ hw => r_load rfl (by kernel_rfl) (hw.cell hb2)) (o0 rfl rfl (fun _ => r_move) (o0 rfl rfl (fun _ => r_nilP rfl) (o0 rfl rfl (fun _ => r_field0 rfl (by kernel_rfl)) (o1 rfl hS rfl (fun _ hw => r_load rfl (by kernel_rfl) (hw.cell h13)) (o0 rfl rfl (fun _ => r_eqlT rfl rfl (by rw [hm.2])) (o0 rfl rfl (fun _ => r_pick rfl) (Fo_nil (th_n ?_))))))))))))))))
            refine Cw_true rfl rfl rfl (Cw_region (by kernel_rfl) ?_)
            have hr5 := kp_room v t C ht'
            have ha5 := (h5.drew).alloc (.cells #[.int .i32 ((C[t] : Nat) : Int)] 54)
            refine s_move (s_move (s_lit1 (v := .int .i32 ((C[t] : Nat) : Int)) rfl slz57 rfl rfl (s_append_in (u := .int .i32 ((C[t] : Nat) : Int)) (ad := ⟨w5.drew.heap.size, 0, none⟩) rfl rfl slz57 (World.news_of_block (heap_alloc_new w5.drew _) 0 _ rfl) rfl (by omega) (by rw [ha5.cell (by omega)]; rfl) (ha5.frozen _) (s_assign (Fl_nil (th_n ?_))))))
            have hcl6 := ((hcl.drew.keep (Keeps.alloc w5.drew (.cells #[.int .i32 ((C[t] : Nat) : Int)] 54) noB) (fun h => h) (fun h => h) (fun h => h))).keep (Keeps.setCell (w5.drew.alloc (.cells #[.int .i32 ((C[t] : Nat) : Int)] 54)) ⟨gC, (kp v (C.take t)).length, none⟩ (.int .i32 ((C[t] : Nat) : Int))) (fun h => by have h : B = gC := h; omega) (fun h => by have h : BA = gC := h; omega) (fun h => by have h : BW = gC := h; omega)
            exact ⟨_, _, sets_known ⟨rfl, rfl, rfl, rfl, rfl, rfl, trivial⟩, hcl6, Filt.put ht' hcv h3 h4 ha5 h6 h7, cEx_keep (cEx_keep hkd (Keeps.alloc _ _ noB) (fun q _ h => h.elim)) (Keeps.setCell _ _ _) (fun q hq h => by have h : q = gC := h; omega)⟩
        · rintro f w6 ⟨g, vK, rfl, hcl, hF, hk⟩
          refine ib_n (th_n ?_)
          refine Cw_region (by kernel_rfl) ?_
          refine s_add rfl rfl (by omega) (s_move (Fl_nil (th_n ?_)))
          exact ⟨_, (by omega), _, t + 1, vK, sets_known ⟨rfl, rfl, rfl, rfl, rfl, rfl, trivial⟩, ht', hcl, hF, hk, rfl⟩
      · have ht' : t = C.length := by have := of_decide_eq_false hb; omega
        refine Cw_exit (ex_th (ex_th (ex_in (th_n ?_))))
        have hcK := hF.done ht'
        obtain ⟨aK, capK, hvK⟩ := hcK.val
        subst hvK
        clear hF ht ht' hb hothers hmine
        refine Cw_seq (Cw_region (by kernel_rfl) ?_)
        refine s_move (s_move (s_nilP rfl (s_field rfl (by kernel_rfl) (s_store (v := .slice aK (kp v C).length capK) rfl rfl (by kernel_rfl) rfl (hcl.st.cell (i := 10) (by omega)) (hcl.st.frozen 10) (Fl_nil (th_n ?_))))))
        have hcl6 := hcl.cand (.slice aK (kp v C).length capK)
        have hk6 := cEx_keep hk (Keeps.setCell w5 ⟨B, 10, none⟩ (.slice aK (kp v C).length capK)) (fun q _ h => .inl h)
        have hcK6 := hcK.keep (Keeps.setCell w5 ⟨B, 10, none⟩ (.slice aK (kp v C).length capK)) (fun q hq h => by have h : q = B := h; omega)
        generalize w5.setCell ⟨B, 10, none⟩ (.slice aK (kp v C).length capK) = w6 at hcl6 hk6 hcK6 ⊢
        clear hcl hk hcK
        refine Cw_seq (Cw_seq (Cw_region (by kernel_rfl) ?_))
        refine s_move (s_lenS rfl (by kernel_rfl) (s_eql rfl rfl (Fl_nil (th_n ?_))))
        refine Cw_cond rfl rfl (fun hb => ?_) (fun hb => ?_)
        · have hz : (kp v C).length = 0 := by have := of_decide_eq_true hb; omega
          have hKn' : K = G.n := by omega
          subst hKn'
          refine Cw_exit (ex_th (ex_ne rfl (ex_th (ex_th (ex_in (th_n ?_))))))
          have h2 : w6.cell? ⟨B, 2, none⟩ = some (.int .i64 (lim : Int)) := hcl6.st.cellv (i := 2) (by omega) rfl
          clear hcl6 hcK6 hkl hnd hlt hCl
          refine Cw_seq (Cw_region (by kernel_rfl) ?_)
          refine s_move (s_assign (s_assign (Fl_nil (th_n ?_))))
          refine Cw_seq (Cw_seq (Cw_region (by kernel_rfl) ?_))
          refine s_assign (Fl_nil (th_n ?_))
          refine Cw_block ?_
          have ef1 : G.n = ff G.n 1 := by simp [ff]
          refine Cw_loop (fun m f w' => ∃ g j, f = sets [(0, .pointer (some ⟨B, 0, none⟩)), (5, .int .i64 ((G.n : Nat) : Int)), (14, .int .i64 ((min (lim + 1) (bs G.n (j - 1)) : Nat) : Int)), (15, .int .i64 ((ff G.n (j - 1) : Nat) : Int)), (16, .int .i64 ((j : Nat) : Int))] g ∧ 2 ≤ j ∧ j ≤ G.n + 1 ∧ w6 = w' ∧ m = G.n + 1 - j) (G.n + 1 - 2)
            ⟨_, 2, sets_known ⟨rfl, rfl, by simp [bs]; rfl, congrArg (fun z : Nat => Value.int .i64 (z : Int)) ef1, rfl, trivial⟩, by omega, by omega, rfl, rfl⟩ ?_
          rintro m f w' ⟨g, j, rfl, hj2, hjn, rfl, rfl⟩
          refine Cw_seq (Cw_seq (Cw_region (by kernel_rfl) ?_))
          refine s_move (s_move (s_leq rfl rfl (Fl_nil (th_n ?_))))
          refine Cw_cond rfl rfl (fun hb => ?_) (fun hb => ?_)
          · have hj' : j ≤ G.n := by have := of_decide_eq_true hb; omega
            refine Cw_skip (th_n ?_)
            refine Cw_seq (Cw_block ?_)
            refine Cw_seq (Cw_region (by kernel_rfl) ?_)
            have ey : ((G.n : Int) - (j : Int) + 1) = ((G.n - (j - 1) : Nat) : Int) := by omega
            have eff : ff G.n (j - 1) * (G.n - (j - 1)) = ff G.n j := by
              obtain ⟨i, rfl⟩ : ∃ i, j = i + 1 := ⟨j - 1, by omega⟩
              rfl
            refine s_move (s_move (s_move (s_move (s_sub rfl rfl (by omega) (s_add rfl rfl (by omega) ?_)))))
            refine s_c3 (by kernel_rfl) rfl rfl (congrArg (Value.int .i64) ey) (mul_any B (ff G.n (j - 1)) (G.n - (j - 1)) lim w6 h2 hl (by omega)) ?_
            rintro v1 w1 ⟨rfl, rfl⟩
            rw [eff]
            refine s_assign (Fl_nil (th_n ?_))
            refine Cw_seq (Cw_seq (Cw_region (by kernel_rfl) ?_))
            refine s_move (s_move (s_nilP rfl (s_field rfl (by kernel_rfl) (s_load rfl (by kernel_rfl) h2 (s_gtr rfl rfl (Fl_nil (th_n ?_)))))))
            refine Cw_cond rfl rfl (fun hd => ?_) (fun hd => ?_)
            · have hd' := of_decide_eq_true hd
              have hp : lim + 1 ≤ bs G.n G.n := past_ff G.n j j (lim + 1) hj2 hj' (Nat.le_refl _) (by omega)
              refine Cw_seq (Cw_region (by kernel_rfl) ?_)
              refine s_move (s_assign (Fl_nil (th_n ?_)))
              refine Cw_ret ?_
              have e : ((min (lim + 1) (ff G.n j) : Nat) : Int) = ((min (lim + 1) (bs G.n G.n) : Nat) : Int) := by omega
              exact ⟨congrArg (Value.int .i64) e, hk6⟩
            · have hd' := of_decide_eq_false hd
              have hfl : ff G.n j ≤ lim := by omega
              refine Cw_skip (th_n ?_)
              rw [Nat.min_eq_right (show ff G.n j ≤ lim + 1 by omega)]
              have eq : ((ff G.n j : Nat) : Int) / (j : Int) = ((ff G.n j / j : Nat) : Int) := (Int.natCast_ediv _ _).symm
              refine Cw_region (by kernel_rfl) ?_
              refine s_move (s_move (s_move (s_move (s_move (s_quo rfl rfl (by omega) (by omega) (by omega) (s_move (s_add rfl rfl (by omega) ?_)))))))
              refine s_c3 (by kernel_rfl) rfl (congrArg (Value.int .i64) eq) (congrArg (Value.int .i64) (show ((j : Int) + 1) = ((j + 1 : Nat) : Int) by omega)) (mul_any B (ff G.n j / j) (j + 1) lim w1 h2 hl (by omega)) ?_
              rintro v1 w2 ⟨rfl, rfl⟩
              refine s_c3 (by kernel_rfl) rfl rfl rfl (add_any B (min (lim + 1) (bs G.n (j - 1))) (min (lim + 1) (ff G.n j / j * (j + 1))) lim w2 h2 hl (by omega) (by omega)) ?_
              rintro v1 w3 ⟨rfl, rfl⟩
              have es : min (lim + 1) (min (lim + 1) (bs G.n (j - 1)) + min (lim + 1) (ff G.n j / j * (j + 1))) = min (lim + 1) (bs G.n (j + 1 - 1)) := by
                rw [Nat.add_sub_cancel, bs_step G.n j hj2]
                unfold term
                omega
              rw [es]
              refine s_assign (Fl_nil (ib_n (th_n ?_)))
              refine Cw_region (by kernel_rfl) ?_
              refine s_move (s_add rfl rfl (by omega) (s_assign (Fl_nil (th_n ?_))))
              exact ⟨G.n + 1 - (j + 1), (by omega), _, j + 1, sets_known ⟨rfl, rfl, rfl, rfl, rfl, trivial⟩, by omega, by omega, rfl, rfl⟩
          · have hj' : j = G.n + 1 := by have := of_decide_eq_false hb; omega
            subst hj'
            refine Cw_exit (ex_th (ex_th (ex_in (th_n ?_))))
            refine Cw_seq (Cw_region (by kernel_rfl) ?_)
            refine s_move (s_assign (Fl_nil (th_n ?_)))
            exact Cw_ret ⟨rfl, hk6⟩
        · have hz : 0 < (kp v C).length := by have := of_decide_eq_false hb; omega
          refine Cw_skip (th_n ?_)
          rcases hcK6 with ⟨h1, h2⟩ | ⟨g7, cap7, F7, h1, h2, h3, h4, h5⟩
          · rw [h2] at hz; simp at hz
          cases h1
          refine Cw_region (by kernel_rfl) ?_
          have hc0 := h4.cellv (i := 0) (v := .int .i32 (((kp v C)[0] : Nat) : Int)) (by omega) (h5 0 _ (List.getElem?_eq_getElem hz))
          refine s_move (s_index (i := 0) rfl rfl rfl hz (by kernel_rfl) (s_load rfl (by kernel_rfl) hc0 (s_assign (Fl_nil (ib_n (th_n ?_))))))
          refine Cw_region (by kernel_rfl) ?_
          refine s_move (s_add rfl rfl (by omega) (s_assign (Fl_nil (th_n ?_))))
          have hnd' : (kp v C).Nodup := List.Pairwise.filter _ hnd
          have hm0 : (kp v C)[0] ∈ kp v C := List.getElem_mem hz
          have hd := kp_drop _ _ hnd' hm0
          have hkl2 := kp_len v C
          exact ⟨G.n - (K + 1), by omega, _, K + 1, (kp v C)[0], kp v C, wk3, _, mk + 1, ba, wa, sets_known ⟨rfl, rfl, rfl, trivial⟩, hlt _ ((kp_mem _ _ _).1 hm0).1, by omega, by omega, by omega, hnd', fun c hc => hlt c ((kp_mem _ _ _).1 hc).1, by omega, hcl6, hbam, by omega, .inr ⟨g7, _, F7, rfl, h2, h3, h4, h5⟩, hk6, rfl⟩
end Go.Proofs.Qxb6000043a

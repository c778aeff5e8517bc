/-
  WALKS, Q: zzVisit (recursive), zzPostorder: each call of zzVisit is a run of the search's own steps. Own work.
-/
import Derived.Test.Qxb6000043aWaP
namespace Go.Fw
section
variable {P : Program} {ops : Array Oper} {K : (Nat → Value) → World → Prop} {rest : List Oper} {f : Nat → Value} {w : World} {d : Nat} {ty : TypeId} {pos : String} {af : Array Edge}
theorem s_c5 {g : Nat} {x1 x2 x3 x4 x5 : Operand} {a1 a2 a3 a4 a5 : Value} {ats : Array TypeId} {R : Value → World → Prop} (hok : cOk P g = true) (h1 : ev f x1 = a1) (h2 : ev f x2 = a2) (h3 : ev f x3 = a3) (h4 : ev f x4 = a4) (h5 : ev f x5 = a5)
    (hc : Calls P g #[a1, a2, a3, a4, a5] w fun e w' => ∃ v, e = .returned v ∧ R v w') (h : ∀ v w', R v w' → Fl P ops K rest (upd f d v) w') :
    Fl P ops K (⟨some d, .call ⟨.value (.func g), #[x1, x2, x3, x4, x5], ats⟩, ty, pos, af, none⟩ :: rest) f w := by
  refine s_call1 hok ?_ h
  have : Array.map (ev f) #[x1, x2, x3, x4, x5] = #[a1, a2, a3, a4, a5] := by simp [h1, h2, h3, h4, h5]
  rw [this]; exact hc
end
end Go.Fw
namespace Go.Proofs.Qxb6000043a
open Go.Fw Go.Proofs.Qxb6000043a.Pl Go.RowKit
set_option maxRecDepth 10000

theorem iter_add (G : Gr) (bw : Bool) (a : Nat) : ∀ b s, iter G bw (a + b) s = iter G bw b (iter G bw a s)
  | 0, s => rfl
  | b + 1, s => by
    show Pl.step G bw (iter G bw (a + b) s) = Pl.step G bw (iter G bw b (iter G bw a s))
    rw [iter_add G bw a b s]
theorem iter_end (G : Gr) (bw : Bool) (s : St) (h : s.path = []) : ∀ k, iter G bw k s = s
  | 0 => rfl
  | k + 1 => by
    show Pl.step G bw (iter G bw k s) = s
    rw [iter_end G bw s h k]
    unfold Pl.step
    rw [h]
theorem iter_same (G : Gr) (bw : Bool) (s : St) (a b : Nat) (ha : (iter G bw a s).path = []) (hb : (iter G bw b s).path = []) : iter G bw a s = iter G bw b s := by
  by_cases h : a ≤ b
  · have := iter_add G bw a (b - a) s
    rw [show a + (b - a) = b by omega, iter_end G bw _ ha] at this
    exact this.symm
  · have := iter_add G bw b (a - b) s
    rw [show b + (a - b) = a by omega, iter_end G bw _ hb] at this
    exact this
/-- How many are not yet seen. -/
def unseen (left : Nat → Int) (n : Nat) : Nat := sumTo (fun x => if left x = 0 then 1 else 0) n
theorem unseen_set (left : Nat → Int) (n v : Nat) (z : Int) (hv : v < n) (h0 : left v = 0) (hz : z ≠ 0) : unseen (setI left v z) n + 1 = unseen left n := by
  have := sumTo_drop (g := fun x => if setI left v z x = 0 then 1 else 0) (h := fun x => if left x = 0 then 1 else 0) v (fun i hi => by simp [setI, hi]) n hv
  simp only [setI, if_true, h0, hz, if_false] at this
  unfold unseen
  simp only [setI]
  omega
theorem unseen_same (left : Nat → Int) (n v : Nat) (z : Int) (h0 : left v ≠ 0) (hz : z ≠ 0) : unseen (setI left v z) n = unseen left n := by
  unfold unseen
  refine sumTo_congr n (fun i _ => ?_)
  by_cases hi : i = v
  · subst hi; simp [setI, h0, hz]
  · simp [setI, hi]
theorem unseen_pos (left : Nat → Int) (n v : Nat) (hv : v < n) (h0 : left v = 0) : 1 ≤ unseen left n := by
  have := le_sumTo (fun x => if left x = 0 then 1 else 0) v n hv
  simp only [h0, if_true] at this
  exact this
def seenB (left : Nat → Int) (x : Nat) : Bool := decide (left x ≠ 0)
theorem seenB_set (left : Nat → Int) (v : Nat) (z : Int) (hz : z ≠ 0) (x : Nat) : setB (seenB left) v true x = seenB (setI left v z) x := by
  by_cases hx : x = v
  · subst hx; simp [setB, seenB, setI, hz]
  · simp [setB, seenB, setI, hx]

/-- The state of the recursive visit. -/
structure Vis (G : Gr) (R : Nat → Prop) (w : World) (vE vO : Value) (bS : Nat) (left : Nat → Int) (order : List Nat) : Prop where
  ed : irows R w vE G.n G.len (fun x i => (G.e x i : Int))
  sn : arr w bS 4 G.n (fun x => .bool (seenB left x))
  od : w.ownsRow 0 21 1 vO order.length (i32s order)
  ap : ∀ g, vO.ownBlock = some g → g ≠ bS ∧ ¬ R g
  rr : ∀ k, R k → k ≠ bS ∧ k < w.heap.size
  bd : order.length + unseen left G.n ≤ G.n

set_option maxHeartbeats 2000000 in
theorem visit_any (G : Gr) (hG : G.Ok) (hn : G.n ≤ 4096) (hlen : ∀ i, i < G.n → G.len i ≤ 1048576) (bw : Bool) (R : Nat → Prop) (bS : Nat) : ∀ (N : Nat) (left : Nat → Int) (order : List Nat) (rest : List (Nat × Nat)) (v : Nat) (w : World) (vE vO : Value),
    v < G.n → left v = 0 → unseen left G.n ≤ N → Vis G R w vE vO bS left order →
    Calls Try.prog 40 #[vE, .bool bw, .int .i32 (v : Int), whole bS G.n, vO] w fun e w' => ∃ vO', e = .returned vO' ∧ (∃ k left' order', iter G bw k ⟨setI left v (-1), order, (v, 0) :: rest⟩ = ⟨left', order', rest⟩ ∧ Vis G R w' vE vO' bS left' order' ∧ unseen left' G.n + 1 ≤ unseen left G.n ∧ order'.length + unseen left' G.n ≤ order.length + unseen left G.n ∧ (∀ x, left x ≠ 0 → left' x ≠ 0) ∧
      Keeps w w' (fun q => q = bS ∨ some q = vO.ownBlock) ∧ (∀ g, vO'.ownBlock = some g → vO.ownBlock = some g ∨ w.heap.size ≤ g)) := by
  intro N
  induction N with
  | zero =>
    intro left order rest v w vE vO hv h0 hN
    have := unseen_pos left G.n v hv h0
    omega
  | succ N ih =>
    intro left order rest v w vE vO hv h0 hN hV
    obtain ⟨b, o, cap, hRb, rfl, hcell⟩ := hV.ed.form hv
    obtain ⟨u, hu, hur⟩ := hcell v hv
    obtain ⟨a2, cap2, rfl⟩ := hur.val
    have hlv := hlen v hv
    have hbS := hV.sn.lt
    have hnE : ∀ k, R k → k < w.heap.size → ¬ (k = bS ∨ some k = vO.ownBlock) := fun k hk _ h => by
      rcases h with h | h
      · exact (hV.rr k hk).1 h
      · exact (hV.ap k h.symm).2 hk
    refine enter1 (args := [_, _, _, _, _]) (R := fun vO' w' => ∃ k left' order', iter G bw k ⟨setI left v (-1), order, (v, 0) :: rest⟩ = ⟨left', order', rest⟩ ∧ Vis G R w' (.slice (some ⟨b, o, none⟩) G.n cap) vO' bS left' order' ∧ unseen left' G.n + 1 ≤ unseen left G.n ∧ order'.length + unseen left' G.n ≤ order.length + unseen left G.n ∧ (∀ x, left x ≠ 0 → left' x ≠ 0) ∧
      Keeps w w' (fun q => q = bS ∨ some q = vO.ownBlock) ∧ (∀ g, vO'.ownBlock = some g → vO.ownBlock = some g ∨ w.heap.size ≤ g)) Try.func40 rfl Try.ntmps40 Try.results40 rfl rfl ?_
    refine Cw_seq (Cw_region (by kernel_rfl) ?_)
    refine s_assign (Fl_nil (th_n ?_))
    -- seen[v] = true
    refine Cw_seq (Cw_region (by kernel_rfl) ?_)
    refine s_move (s_move (s_index rfl rfl rfl hv (by kernel_rfl) (s_store (v := .bool true) rfl rfl (by kernel_rfl) rfl (hV.sn.cell hv) (hV.sn.frozen v) (Fl_nil (th_n ?_)))))
    have hks := Keeps.setCell w ⟨bS, v, none⟩ (.bool true)
    have hus := unseen_set left G.n v (-1) hv h0 (by omega)
    have hbd := hV.bd
    have hV1 : Vis G R (w.setCell ⟨bS, v, none⟩ (.bool true)) (.slice (some ⟨b, o, none⟩) G.n cap) vO bS (setI left v (-1)) order := by
      refine ⟨hV.ed.keep hks (fun k hk _ h => (hV.rr k hk).1 h), (arr_setB hV.sn v true).congr (fun x _ => by rw [seenB_set left v (-1) (by omega)]), own_keep hV.od hks (fun g hg h => (hV.ap g hg).1 h), hV.ap, fun k hk => ⟨(hV.rr k hk).1, ?_⟩, by omega⟩
      have := hks.size
      have := (hV.rr k hk).2
      omega
    have hk1 : Keeps w (w.setCell ⟨bS, v, none⟩ (.bool true)) (fun q => q = bS ∨ some q = vO.ownBlock) := hks.mono (fun q _ h => .inl h)
    generalize w.setCell ⟨bS, v, none⟩ (.bool true) = w1 at hV1 hk1 ⊢
    clear hks
    -- row
    have hbn : ¬ (b = bS ∨ some b = vO.ownBlock) := hnE b hRb (World.block_lt_of_cell? w _ hu)
    refine Cw_seq (Cw_region (by kernel_rfl) ?_)
    refine s_move (s_move (s_indexO rfl rfl rfl hv (by kernel_rfl) (s_load rfl (by kernel_rfl) (keep_cell hk1 hbn hu) (s_assign (Fl_nil (th_n ?_))))))
    refine Cw_seq (Cw_seq (Cw_region (by kernel_rfl) ?_))
    refine s_assign (Fl_nil (th_n ?_))
    refine Cw_block ?_
    refine Cw_loop (fun m f w' => ∃ g t k lf od vQ, f = sets [(0, .slice (some ⟨b, o, none⟩) G.n cap), (1, .bool bw), (2, .int .i32 (v : Int)), (3, whole bS G.n), (4, vQ), (11, .slice a2 (G.len v) cap2), (12, .int .i64 ((t : Nat) : Int))] g ∧ t ≤ G.len v ∧
      iter G bw k ⟨setI left v (-1), order, (v, 0) :: rest⟩ = ⟨lf, od, (v, t) :: rest⟩ ∧ lf v ≠ 0 ∧ Vis G R w' (.slice (some ⟨b, o, none⟩) G.n cap) vQ bS lf od ∧ od.length + unseen lf G.n + 1 ≤ order.length + unseen left G.n ∧ (∀ x, left x ≠ 0 → lf x ≠ 0) ∧ unseen lf G.n + 1 ≤ unseen left G.n ∧
      Keeps w w' (fun q => q = bS ∨ some q = vO.ownBlock) ∧ (∀ g, vQ.ownBlock = some g → vO.ownBlock = some g ∨ w.heap.size ≤ g) ∧ m = G.len v - t) (G.len v)
      ⟨_, 0, 0, _, order, vO, sets_known ⟨rfl, rfl, rfl, rfl, rfl, rfl, rfl, trivial⟩, Nat.zero_le _, rfl, by simp [setI], hV1, by omega, fun x hx => ?_, by omega, hk1, fun g hg => .inl hg, rfl⟩ ?_
    · simp only [setI]
      split
      · omega
      · exact hx
    clear hV1 hk1
    rintro m f w2 ⟨g, t, k, lf, od, vQ, rfl, ht, hit, hlf, hV2, hb2, hm2, hu2, hk2, hq2, rfl⟩
    refine Cw_seq (Cw_seq (Cw_region (by kernel_rfl) ?_))
    refine s_move (s_move (s_lenS rfl (by kernel_rfl) (s_lss rfl rfl (Fl_nil (th_n ?_)))))
    refine Cw_cond rfl rfl (fun hb => ?_) (fun hb => ?_)
    · have ht' : t < G.len v := by have := of_decide_eq_true hb; omega
      refine Cw_skip (th_n ?_)
      refine Cw_seq (Cw_block ?_)
      refine Cw_seq (Cw_region (by kernel_rfl) ?_)
      refine s_move (s_assign (Fl_nil (th_n ?_)))
      refine Cw_seq (Cw_seq (Cw_region (by kernel_rfl) ?_))
      refine s_move (Fl_nil (th_n ?_))
      obtain ⟨i0, hi0, hi1, hi2⟩ : ∃ i0, i0 = (if bw then G.len v - 1 - t else t) ∧ i0 < G.len v ∧ G.nx bw v t = G.e v i0 := by
        refine ⟨_, rfl, ?_, ?_⟩
        · split <;> omega
        · unfold Gr.nx; split <;> rfl
      refine Cw_join rfl rfl [(0, .slice (some ⟨b, o, none⟩) G.n cap), (1, .bool bw), (2, .int .i32 (v : Int)), (3, whole bS G.n), (4, vQ), (11, .slice a2 (G.len v) cap2), (12, .int .i64 ((t : Nat) : Int)), (13, .int .i64 (i0 : Int))] (fun hbw => ?_) (fun hbw => ?_) (fun g' => ?_)
      · subst hbw
        rw [if_pos rfl] at hi0
        refine Cw_region (by kernel_rfl) ?_
        refine s_move (s_lenS rfl (by kernel_rfl) (s_sub rfl rfl (by omega) (s_move (s_sub rfl rfl (by omega) (s_assign (Fl_nil (th_n ?_)))))))
        have e : ((G.len v : Int) - 1 - (t : Int)) = (i0 : Int) := by omega
        exact ⟨sets_ex _ ⟨rfl, rfl, rfl, rfl, rfl, rfl, rfl, congrArg (Value.int .i64) e, trivial⟩, rfl⟩
      · subst hbw
        rw [if_neg (by simp)] at hi0
        subst hi0
        exact Cw_skip (th_n ⟨sets_ex _ ⟨rfl, rfl, rfl, rfl, rfl, rfl, rfl, rfl, trivial⟩, rfl⟩)
      obtain ⟨b4, o4, cap4, _, he4, hc4⟩ := (hur.keep hk2 hnE).form hi1
      simp only [Value.slice.injEq, true_and] at he4
      obtain ⟨rfl, rfl⟩ := he4
      have hyn : G.nx bw v t < G.n := hG.nx bw hv ht'
      have hcy := hc4 i0 hi1
      have hcy : w2.cell? ⟨b4, o4 + i0, none⟩ = some (.int .i32 ((G.nx bw v t : Nat) : Int)) := by rw [hi2]; exact hcy
      have hstep : iter G bw (k + 1) ⟨setI left v (-1), order, (v, 0) :: rest⟩ = if lf (G.nx bw v t) = 0 then ⟨setI lf (G.nx bw v t) (-1), od, (G.nx bw v t, 0) :: (v, t + 1) :: rest⟩ else ⟨lf, od, (v, t + 1) :: rest⟩ := by
        show Pl.step G bw (iter G bw k ⟨setI left v (-1), order, (v, 0) :: rest⟩) = _
        rw [hit]
        simp only [Pl.step, if_pos ht']
      generalize G.nx bw v t = y at hyn hcy hstep
      refine Cw_seq (Cw_region (by kernel_rfl) ?_)
      refine s_move (s_move (s_indexO rfl rfl rfl hi1 (by kernel_rfl) (s_load rfl (by kernel_rfl) hcy (s_assign (Fl_nil (th_n ?_))))))
      refine Cw_seq (Cw_region (by kernel_rfl) ?_)
      refine s_move (s_move (s_index rfl rfl rfl hyn (by kernel_rfl) (s_load rfl (by kernel_rfl) (hV2.sn.cell hyn) (s_not rfl (Fl_nil (th_n ?_))))))
      refine Cw_meetN (fun f w' => ∃ g k lf od vQ, f = sets [(0, .slice (some ⟨b, o, none⟩) G.n cap), (1, .bool bw), (2, .int .i32 (v : Int)), (3, whole bS G.n), (4, vQ), (11, .slice (some ⟨b4, o4, none⟩) (G.len v) cap2), (12, .int .i64 ((t : Nat) : Int))] g ∧
        iter G bw k ⟨setI left v (-1), order, (v, 0) :: rest⟩ = ⟨lf, od, (v, t + 1) :: rest⟩ ∧ lf v ≠ 0 ∧ Vis G R w' (.slice (some ⟨b, o, none⟩) G.n cap) vQ bS lf od ∧ od.length + unseen lf G.n + 1 ≤ order.length + unseen left G.n ∧ (∀ x, left x ≠ 0 → lf x ≠ 0) ∧ unseen lf G.n + 1 ≤ unseen left G.n ∧
        Keeps w w' (fun q => q = bS ∨ some q = vO.ownBlock) ∧ (∀ g, vQ.ownBlock = some g → vO.ownBlock = some g ∨ w.heap.size ≤ g)) ?_ ?_
      · refine Cw_cond rfl rfl (fun hd => ?_) (fun hd => ?_)
        · have hy0 : lf y = 0 := by simpa [seenB] using hd
          rw [if_pos hy0] at hstep
          refine Cw_region (by kernel_rfl) ?_
          refine s_move (s_move (s_move (s_move (s_move ?_))))
          refine s_c5 (by kernel_rfl) rfl rfl rfl rfl rfl (ih lf od ((v, t + 1) :: rest) y w2 _ vQ hyn hy0 (by omega) hV2) ?_
          rintro vQ3 w3 ⟨k3, lf3, od3, hit3, hV3, hu3, hb3, hm3, hk3, hq3⟩
          refine s_assign (Fl_nil (th_n ?_))
          have hs2 := hk2.size
          refine ⟨_, k + 1 + k3, lf3, od3, vQ3, sets_known ⟨rfl, rfl, rfl, rfl, rfl, rfl, rfl, trivial⟩, by rw [iter_add, hstep, hit3], hm3 v hlf, hV3, by omega, fun x hx => hm3 x (hm2 x hx), by omega, hk2.trans hk3 (fun _ _ h => h) (fun q hq h => ?_), fun g hg => ?_⟩
          · rcases h with h | h
            · exact .inl h
            · rcases hq2 q h.symm with h' | h'
              · exact .inr h'.symm
              · omega
          · rcases hq3 g hg with h | h
            · exact hq2 g h
            · exact .inr (by omega)
        · have hy0 : lf y ≠ 0 := by simpa [seenB] using hd
          rw [if_neg hy0] at hstep
          exact Cw_skip (th_n ⟨_, k + 1, lf, od, vQ, sets_known ⟨rfl, rfl, rfl, rfl, rfl, rfl, rfl, trivial⟩, hstep, hlf, hV2, hb2, hm2, hu2, hk2, hq2⟩)
      · rintro f w6 ⟨g, k, lf, od, vQ, rfl, hit, hlf, hV2, hb2, hm2, hu2, hk2, hq2⟩
        refine ib_n (th_n ?_)
        refine Cw_region (by kernel_rfl) ?_
        refine s_move (s_add rfl rfl (by omega) (s_assign (Fl_nil (th_n ?_))))
        exact ⟨G.len v - (t + 1), by omega, _, t + 1, k, lf, od, vQ, sets_known ⟨rfl, rfl, rfl, rfl, rfl, rfl, rfl, trivial⟩, ht', hit, hlf, hV2, hb2, hm2, hu2, hk2, hq2, rfl⟩
    · have ht' : t = G.len v := by have := of_decide_eq_false hb; omega
      subst ht'
      refine Cw_exit (ex_th (ex_th (ex_in (th_n ?_))))
      have hstep : iter G bw (k + 1) ⟨setI left v (-1), order, (v, 0) :: rest⟩ = ⟨setI lf v ((od.length : Int) + 1), od ++ [v], rest⟩ := by
        show Pl.step G bw (iter G bw k ⟨setI left v (-1), order, (v, 0) :: rest⟩) = _
        rw [hit]
        simp only [Pl.step, if_neg (Nat.lt_irrefl _)]
      have hal := hV2.od.alloc (.cells #[.int .i32 (v : Int)] 21)
      refine Cw_seq (Cw_region (by kernel_rfl) ?_)
      refine s_move (s_move (s_lit1 (v := .int .i32 (v : Int)) rfl slz35 rfl rfl (s_append rfl rfl slz35 (by omega) rfl hal (news := [.int .i32 (v : Int)]) rfl (World.news_of_block (heap_alloc_new w2 _)) (by intro u hu; simp at hu; subst hu; rfl) (by omega) (by omega) (by omega) ?_)))
      intro g5 cap5 w5 ho5 hk5 hg5 hl5
      refine s_assign (Fl_nil (th_n ?_))
      have hs2 := hk2.size
      have hk25 : Keeps w2 w5 (fun q => some q = vQ.ownBlock) := (Keeps.alloc w2 _ noB).trans hk5 (fun _ _ h => h.elim) (fun _ _ h => h)
      have hs5 := hk25.size
      have hg5' : vO.ownBlock = some g5 ∨ w.heap.size ≤ g5 := by
        rcases hg5 with h | h
        · exact hq2 g5 h
        · rw [size_alloc] at h; exact .inr (by omega)
      have hus2 := unseen_same lf G.n v ((od.length : Int) + 1) hlf (by omega)
      refine Cw_ret ⟨k + 1, _, _, hstep, ⟨hV2.ed.keep hk25 (fun k hk _ h => (hV2.ap k h.symm).2 hk), (hV2.sn.keep hk25 (fun h => (hV2.ap bS h.symm).1 rfl)).congr (fun x _ => ?_), ?_, fun g hg => ?_, fun k hk => ⟨(hV2.rr k hk).1, by have := (hV2.rr k hk).2; omega⟩, ?_⟩, by omega, ?_, fun x hx => ?_, hk2.trans hk25 (fun _ _ h => h) (fun q hq h => ?_), fun g hg => ?_⟩
      · by_cases hx : x = v
        · subst hx
          have e1 : seenB lf x = true := by simp [seenB, hlf]
          have e2 : seenB (setI lf x ((od.length : Int) + 1)) x = true := by simp [seenB, setI]; omega
          rw [e1, e2]
        · simp [seenB, setI, hx]
      · have e : i32s (od ++ [v]) = i32s od ++ [.int .i32 (v : Int)] := by simp [i32s]
        rw [e, List.length_append]
        exact ho5
      · have hg : some g5 = some g := hg
        cases hg
        rcases hg5 with h | h
        · exact hV2.ap g5 h
        · rw [size_alloc] at h
          exact ⟨fun e => by have := hV2.sn.lt; omega, fun hR => by have := (hV2.rr g5 hR).2; omega⟩
      · simp only [List.length_append, List.length_cons, List.length_nil]
        omega
      · simp only [List.length_append, List.length_cons, List.length_nil]
        omega
      · simp only [setI]
        split
        · omega
        · exact hm2 x hx
      · rcases hq2 q h.symm with h' | h'
        · exact .inr h'.symm
        · omega
      · have hg : some g5 = some g := hg
        cases hg
        exact hg5'
end Go.Proofs.Qxb6000043a

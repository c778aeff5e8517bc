/-
  WALKS, L: ZZCycleSteps, ZZCliqueSteps and the law FnCycleStepsWithinCliqueSteps. Own work.
-/
import Derived.Test.Qxb6000043aWaK
namespace Go.Proofs.Qxb6000043a
open Go.Fw Go.Proofs.Qxb6000043a.Pl
set_option maxRecDepth 10000

section
variable {P : Program} {f : Nat → Value} {w : World} {dst : Option Tmp} {ty : TypeId} {pos : String} {af : Array Edge} {gu : Option (Nat × Bool)}
theorem r_lssT {x y : Operand} {t t' : TypeId} {k : IntKind} {a b : Int} (hx : ev f x = .int k a) (hy : ev f y = .int k b) (h : a < b) : (execOp (ev f) ⟨dst, .binOp .lss t x y t', ty, pos, af, gu⟩).run P w = .ok (.value (.bool true)) w := by
  rw [r_lss hx hy, decide_eq_true h]
theorem r_lssF {x y : Operand} {t t' : TypeId} {k : IntKind} {a b : Int} (hx : ev f x = .int k a) (hy : ev f y = .int k b) (h : ¬ a < b) : (execOp (ev f) ⟨dst, .binOp .lss t x y t', ty, pos, af, gu⟩).run P w = .ok (.value (.bool false)) w := by
  rw [r_lss hx hy, decide_eq_false h]
end

theorem zzcycle_any (b r : Value) (bw : Value) (w : World) (R : Value → World → Prop) (h : Calls Try.prog 41 #[b, r, bw] w fun e w' => ∃ v, e = .returned v ∧ R v w') :
    Calls Try.prog 30 #[b, r, bw] w fun e w' => ∃ v, e = .returned v ∧ R v w' := by
  refine enter1 (args := [_, _, _]) (R := R) Try.func30 rfl Try.ntmps30 Try.results30 rfl rfl ?_
  refine Cw_seq (Cw_region (by kernel_rfl) ?_)
  refine s_assign (Fl_nil (th_n ?_))
  refine Cw_seq (Cw_region (by kernel_rfl) ?_)
  refine s_move (s_move (s_move ?_))
  refine s_c3 (by kernel_rfl) rfl rfl rfl h ?_
  intro v1 w1 h1
  refine s_assign (Fl_nil (th_n ?_))
  exact Cw_ret h1
theorem zzclique_any (b r : Value) (w : World) (R : Value → World → Prop) (h : Calls Try.prog 36 #[b, r] w fun e w' => ∃ v, e = .returned v ∧ R v w') :
    Calls Try.prog 15 #[b, r] w fun e w' => ∃ v, e = .returned v ∧ R v w' := by
  refine enter1 (args := [_, _]) (R := R) Try.func15 rfl Try.ntmps15 Try.results15 rfl rfl ?_
  refine Cw_seq (Cw_region (by kernel_rfl) ?_)
  refine s_assign (Fl_nil (th_n ?_))
  refine Cw_seq (Cw_region (by kernel_rfl) ?_)
  refine s_move (s_move ?_)
  refine s_c2 (by kernel_rfl) rfl rfl h ?_
  intro v1 w1 h1
  refine s_assign (Fl_nil (th_n ?_))
  exact Cw_ret h1

theorem getD_at {l : List Nat} {i : Nat} (h : i < l.length) : l.getD i 0 = l[i] := by simp [List.getD, h]
theorem tag_ne {τ : Nat → Nat} {a b x y : Nat} (h1 : τ a = x) (h2 : τ b = y) (h : x ≠ y) : a ≠ b := fun e => h (by rw [← h1, ← h2, e])

set_option maxHeartbeats 2000000 in
theorem f8_any (a0 a1 a2 : Int) (a3 : Bool) (a4 : Int) (w : World) :
    Calls Try.prog 8 #[.int .i64 a0, .int .i64 a1, .int .i64 a2, .bool a3, .int .i64 a4] w fun e w' => ∃ v, e = .returned v ∧ (v = .bool true ∧ Keeps w w' noB) := by
  refine enter1 (args := [_, _, _, _, _]) (R := fun v w' => v = .bool true ∧ Keeps w w' noB) Try.func8 rfl Try.ntmps8 Try.results8 rfl rfl ?_
  refine Cw_seq (Cw_region (by kernel_rfl) ?_)
  refine s_assign (Fl_nil (th_n ?_))
  have hdone : (Value.bool true = .bool true ∧ Keeps w w noB) := ⟨rfl, Keeps.refl _ _⟩
  -- k
  refine Cw_seq (Cw_seq (Cw_region (by kernel_rfl) ?_))
  by_cases h1 : a0 < 1
  · refine s_move (Fl_val rfl (r_lssT rfl rfl h1) (s_move (Fl_pass rfl (Fl_pass rfl (s_pick rfl (Fl_nil (th_n ?_)))))))
    refine Cw_true rfl rfl rfl (Cw_seq (Cw_region (by kernel_rfl) ?_))
    refine s_assign (Fl_nil (th_n ?_))
    exact Cw_ret hdone
  refine s_move (Fl_val rfl (r_lssF rfl rfl h1) (s_move (Fl_val rfl r_move (Fl_val rfl (r_gtr rfl rfl) (s_pick rfl (Fl_nil (th_n ?_)))))))
  refine Cw_cond rfl rfl (fun hb => ?_) (fun hb => ?_)
  · refine Cw_seq (Cw_region (by kernel_rfl) ?_)
    refine s_assign (Fl_nil (th_n ?_))
    exact Cw_ret hdone
  have hk5 := of_decide_eq_false hb
  refine Cw_skip (th_n ?_)
  -- root
  refine Cw_seq (Cw_seq (Cw_region (by kernel_rfl) ?_))
  by_cases h2 : a2 < 0
  · refine s_move (Fl_val rfl (r_lssT rfl rfl h2) (s_move (Fl_pass rfl (Fl_pass rfl (Fl_pass rfl (s_pick rfl (Fl_nil (th_n ?_))))))))
    refine Cw_true rfl rfl rfl (Cw_seq (Cw_region (by kernel_rfl) ?_))
    refine s_assign (Fl_nil (th_n ?_))
    exact Cw_ret hdone
  refine s_move (Fl_val rfl (r_lssF rfl rfl h2) (s_move (Fl_val rfl r_move (Fl_val rfl r_move (Fl_val rfl (r_geq rfl rfl) (s_pick rfl (Fl_nil (th_n ?_))))))))
  refine Cw_cond rfl rfl (fun hb => ?_) (fun hb => ?_)
  · refine Cw_seq (Cw_region (by kernel_rfl) ?_)
    refine s_assign (Fl_nil (th_n ?_))
    exact Cw_ret hdone
  have hrk := of_decide_eq_false hb
  refine Cw_skip (th_n ?_)
  -- limit
  refine Cw_seq (Cw_seq (Cw_region (by kernel_rfl) ?_))
  by_cases h4 : a4 < 0
  · refine s_move (Fl_val rfl (r_lssT rfl rfl h4) (s_move (Fl_pass rfl (Fl_pass rfl (s_pick rfl (Fl_nil (th_n ?_)))))))
    refine Cw_true rfl rfl rfl (Cw_seq (Cw_region (by kernel_rfl) ?_))
    refine s_assign (Fl_nil (th_n ?_))
    exact Cw_ret hdone
  refine s_move (Fl_val rfl (r_lssF rfl rfl h4) (s_move (Fl_val rfl r_move (Fl_val rfl (r_gtr rfl rfl) (s_pick rfl (Fl_nil (th_n ?_)))))))
  refine Cw_cond rfl rfl (fun hb => ?_) (fun hb => ?_)
  · refine Cw_seq (Cw_region (by kernel_rfl) ?_)
    refine s_assign (Fl_nil (th_n ?_))
    exact Cw_ret hdone
  have hlm := of_decide_eq_false hb
  refine Cw_skip (th_n ?_)
  obtain ⟨k, rfl⟩ : ∃ k : Nat, a0 = (k : Int) := ⟨a0.toNat, by omega⟩
  obtain ⟨r, rfl⟩ : ∃ r : Nat, a2 = (r : Int) := ⟨a2.toNat, by omega⟩
  obtain ⟨lim, rfl⟩ : ∃ lim : Nat, a4 = (lim : Int) := ⟨a4.toNat, by omega⟩
  refine Cw_fr [(0, .int .i64 (k : Int)), (1, .int .i64 a1), (2, .int .i64 (r : Int)), (3, .bool a3), (4, .int .i64 (lim : Int))] ⟨rfl, rfl, rfl, rfl, rfl, trivial⟩ (fun g => ?_)
  -- edges
  refine Cw_seq (Cw_region (by kernel_rfl) ?_)
  refine s_move (s_move ?_)
  refine s_c2 (by kernel_rfl) rfl rfl (complete_any k a1 (by omega) (by omega) w) ?_
  rintro vE w1 ⟨⟨sh, hE0⟩, hk1, _⟩
  refine s_assign (Fl_nil (th_n ?_))
  have hC := cg_cmp k sh
  have hE1 : irows (new w w1) w1 vE (cg k sh).n (cg k sh).len (fun v i => ((cg k sh).e v i : Int)) := hE0
  clear hE0
  have hGn : (cg k sh).n = k := rfl
  have hrG : r < (cg k sh).n := by omega
  have hGl : ∀ i, i < (cg k sh).n → (cg k sh).len i ≤ 1048576 := fun i hi => by have := hC.len i hi; omega
  generalize cg k sh = G at hC hE1 hGn hrG hGl
  subst hGn
  -- waiters
  refine Cw_seq (Cw_region (by kernel_rfl) ?_)
  refine s_move ?_
  refine s_c1 (by kernel_rfl) rfl (reverse_any _ w1 vE G.n G.len G.e hE1 (by omega) hGl hC.ok) ?_
  rintro vW w2 ⟨⟨L, hW2, hL, hLn⟩, hk2, _⟩
  refine s_assign (Fl_nil (th_n ?_))
  have hE2 := hE1.keep hk2 (fun _ _ _ h => h)
  have hkw2 : Keeps w w2 noB := hk1.trans hk2 (fun _ _ h => h) (fun _ _ h => h)
  have hLl : ∀ i, i < G.n → (L i).length ≤ 4294967296 := fun i hi => by have := hLn i hi; omega
  have hr1 : -2147483648 ≤ (r : Int) ∧ (r : Int) ≤ 2147483647 := by omega
  clear hE1 hk1 hk2
  -- cyc
  refine Cw_seq (Cw_region (by kernel_rfl) ?_)
  refine s_move (s_move (s_move ?_))
  refine s_c3 (by kernel_rfl) rfl rfl rfl (nsb_any _ _ w2 vE vW G.n G.len _ _ _ (lim : Int) hE2 hW2 (by omega) hGl hLl) ?_
  rintro vB w3 ⟨⟨τ, B, BL, BP, BN, BA, BW, RE, RW, vE3, vW3, rfl, hSB⟩, hk3⟩
  refine s_move (s_conv32 rfl (by kernel_rfl) (by kernel_rfl) hr1 (s_move ?_))
  have T := hSB.tags
  refine s_c3 (by kernel_rfl) rfl rfl rfl (zzcycle_any _ _ _ w3 _ (cycle_any G hC a3 r hrG (by omega) lim (by omega) RE w3 B BL BP BN ⟨vE3, vW3, .int .i64 (lim : Int), .slice none 0 0, whole BP G.n, whole BN G.n, .slice none 0 0, whole BA G.n, whole BW G.n, .int .i64 0⟩ 0 hSB.st rfl rfl rfl hSB.le hSB.pa hSB.ln hSB.ed (tag_ne T.b T.l (by decide))
    ⟨⟨tag_ne T.p T.b (by decide), tag_ne T.p T.l (by decide), hSB.pa.lt⟩, ⟨tag_ne T.n T.b (by decide), tag_ne T.n T.l (by decide), hSB.ln.lt⟩, tag_ne T.p T.n (by decide)⟩
    (fun q hq => ⟨tag_ne (T.e q hq) T.b (by decide), tag_ne (T.e q hq) T.l (by decide), tag_ne (T.e q hq) T.p (by decide), tag_ne (T.e q hq) T.n (by decide), hSB.hie q (.inl hq)⟩))) ?_
  rintro v4 w4 ⟨rfl, hk4⟩
  refine s_assign (Fl_nil (th_n ?_))
  have hk24 : Keeps w2 w4 noB := hk3.trans hk4 (fun _ _ h => h) (fun q hq h => by have := hSB.lob; show False; omega)
  have hkw4 : Keeps w w4 noB := hkw2.trans hk24 (fun _ _ h => h) (fun _ _ h => h)
  have hE4 := hE2.keep hk24 (fun _ _ _ h => h)
  have hW4 := hW2.keep hk24 (fun _ _ _ h => h)
  clear hk3 hk4 hSB hE2 hW2 hkw2 hk24 T
  -- cl
  refine Cw_seq (Cw_region (by kernel_rfl) ?_)
  refine s_move (s_move (s_move ?_))
  refine s_c3 (by kernel_rfl) rfl rfl rfl (nsb_any _ _ w4 vE vW G.n G.len _ _ _ (lim : Int) hE4 hW4 (by omega) hGl hLl) ?_
  rintro vB w5 ⟨⟨τ, B, BL, BP, BN, BA, BW, RE, RW, vE5, vW5, rfl, hSB⟩, hk5⟩
  refine s_move (s_conv32 rfl (by kernel_rfl) (by kernel_rfl) hr1 ?_)
  have T := hSB.tags
  refine s_c2 (by kernel_rfl) rfl rfl (zzclique_any _ _ w5 _ (clique_any G hC r hrG (by omega) lim (by omega) RE RW w5 B BA BW ⟨vE5, vW5, .slice none 0 0, whole BL G.n, .slice none 0 0, .slice none 0 0, whole BP G.n, whole BN G.n⟩ 0 (fun x => (L x).length) (fun x i => (L x).getD i 0)
    ⟨hSB.st, hSB.ba, hSB.bw, tag_ne T.b T.a (by decide), tag_ne T.b T.w (by decide), tag_ne T.a T.w (by decide)⟩ hSB.ed hSB.wa hLl (fun v t hv ht => ?_) (fun v u hv hu hne => ?_)
    (fun q hq => ⟨tag_ne (T.e q hq) T.b (by decide), tag_ne (T.e q hq) T.a (by decide), tag_ne (T.e q hq) T.w (by decide), hSB.hie q (.inl hq)⟩)
    (fun q hq => ⟨tag_ne (T.v q hq) T.b (by decide), tag_ne (T.v q hq) T.a (by decide), tag_ne (T.v q hq) T.w (by decide), hSB.hie q (.inr hq)⟩))) ?_
  · have ht : t < (L v).length := ht
    have hm : (L v).getD t 0 ∈ L v := by
      rw [getD_at ht]
      exact List.getElem_mem ht
    exact ((hL v _ hv).1 hm).1
  · obtain ⟨t, ht, he⟩ := hC.sur u v hu hv (fun e => hne e.symm)
    have hm := (hL v u hv).2 ⟨hu, t, ht, he⟩
    obtain ⟨i, hi, he⟩ := List.getElem_of_mem hm
    exact ⟨i, hi, by show (L v).getD i 0 = u; rw [getD_at hi, he]⟩
  rintro v6 w6 ⟨rfl, hk6⟩
  refine s_assign (Fl_nil (th_n ?_))
  have hk46 : Keeps w4 w6 noB := hk5.trans hk6 (fun _ _ h => h) (fun q hq h => by have := hSB.lob; rcases h with h | h | h <;> (show False) <;> omega)
  have hkw6 : Keeps w w6 noB := hkw4.trans hk46 (fun _ _ h => h) (fun _ _ h => h)
  clear hk5 hk6 hSB hE4 hW4 hk46 T
  -- the tests
  refine Cw_seq (Cw_seq (Cw_region (by kernel_rfl) ?_))
  refine s_move (s_move (s_move ?_))
  refine s_c2 (by kernel_rfl) rfl rfl (closed_any G.n lim w6 (by omega) (by omega) (by omega)) ?_
  rintro v7 w7 ⟨rfl, rfl⟩
  refine s_neq rfl rfl (Fl_nil (th_n ?_))
  refine Cw_cond rfl rfl (fun hb => ?_) (fun hb => ?_)
  · exact ((of_decide_eq_true hb) rfl).elim
  refine Cw_skip (th_n ?_)
  have hle := cyc_le G.n (by omega)
  refine Cw_seq (Cw_seq (Cw_region (by kernel_rfl) ?_))
  refine s_move (s_move (s_gtr rfl rfl (Fl_nil (th_n ?_))))
  refine Cw_cond rfl rfl (fun hb => ?_) (fun hb => ?_)
  · have := of_decide_eq_true hb
    omega
  refine Cw_skip (th_n ?_)
  refine Cw_seq (Cw_seq (Cw_region (by kernel_rfl) ?_))
  refine s_move (s_geq rfl rfl (Fl_nil (th_n ?_)))
  refine Cw_meet (fun f' w' => w7 = w') ?_ ?_
  · refine Cw_cond rfl rfl (fun hb => ?_) (fun hb => ?_)
    · have hk2 := of_decide_eq_true hb
      have hge := cyc_ge G.n (by omega)
      refine Cw_seq (Cw_region (by kernel_rfl) ?_)
      refine s_assign (Fl_nil (th_n ?_))
      refine Cw_seq (Cw_seq (Cw_region (by kernel_rfl) ?_))
      refine s_move (s_move (s_add rfl rfl (by omega) (s_gtr rfl rfl (Fl_nil (th_n ?_)))))
      refine Cw_join rfl rfl [(13, .int .i64 ((min (lim + 1) (cyc G.n) : Nat) : Int)), (15, .int .i64 ((min 3 (lim + 1) : Nat) : Int))] (fun hd => ?_) (fun hd => ?_) (fun g => ?_)
      · have hd := of_decide_eq_true hd
        refine Cw_region (by kernel_rfl) ?_
        refine s_move (s_add rfl rfl (by omega) (s_assign (Fl_nil (th_n ?_))))
        have e : ((lim : Int) + 1) = ((min 3 (lim + 1) : Nat) : Int) := by omega
        exact ⟨sets_ex _ ⟨rfl, congrArg (Value.int .i64) e, trivial⟩, rfl⟩
      · have hd := of_decide_eq_false hd
        have e : (3 : Int) = ((min 3 (lim + 1) : Nat) : Int) := by omega
        exact Cw_skip (th_n ⟨sets_ex _ ⟨rfl, congrArg (Value.int .i64) e, trivial⟩, rfl⟩)
      refine Cw_seq (Cw_region (by kernel_rfl) ?_)
      refine s_move (s_move (s_lss rfl rfl (Fl_nil (th_n ?_))))
      refine Cw_cond rfl rfl (fun hd => ?_) (fun hd => ?_)
      · have hd := of_decide_eq_true hd
        omega
      · exact Cw_skip (th_n rfl)
    · exact Cw_skip (th_n rfl)
  rintro f' w8 rfl
  refine Cw_seq (Cw_region (by kernel_rfl) ?_)
  refine s_assign (Fl_nil (th_n ?_))
  exact Cw_ret ⟨rfl, hkw6⟩
end Go.Proofs.Qxb6000043a

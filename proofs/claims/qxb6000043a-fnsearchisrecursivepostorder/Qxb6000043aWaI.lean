/-
  WALKS, I: multiply; zzComplete. Own work.
-/
import Derived.Test.Qxb6000043aWaH
namespace Go.Fw
section
variable {P : Program} {ops : Array Oper} {K : (Nat → Value) → World → Prop} {rest : List Oper} {f : Nat → Value} {w : World} {d : Nat} {dst : Option Tmp} {ty : TypeId} {pos : String} {af : Array Edge} {gu : Option (Nat × Bool)}
/-- []T{}, T of one cell. -/
theorem r_lit0 {t e : TypeId} {by' : Nat} {z : Value} (ht : slz P t = some (e, 1, by', z)) :
    (execOp (ev f) ⟨dst, .buildSlice t 0 #[], ty, pos, af, gu⟩).run P w = .ok (.value (.slice (some ⟨w.heap.size, 0, none⟩) 0 0)) (w.alloc (.cells #[] e)) := by
  obtain ⟨hsl, i, hi, hsz, _, _⟩ := slz_spec ht
  simp [execOp, Instr.buildSlice, run_underlying hsl, run_size hi, hsz, Instr.fill, newRow, Array.range]
theorem s_lit0 {t e : TypeId} {by' : Nat} {z : Value} (ht : slz P t = some (e, 1, by', z))
    (h : Fl P ops K rest (upd f d (.slice (some ⟨w.heap.size, 0, none⟩) 0 0)) (w.alloc (.cells #[] e))) : Fl P ops K (⟨some d, .buildSlice t 0 #[], ty, pos, af, none⟩ :: rest) f w := Fl_val rfl (r_lit0 ht) h
end
end Go.Fw
namespace Go.Proofs.Qxb6000043a
open Go.Fw Go.Proofs.Qxb6000043a.Pl
set_option maxRecDepth 10000

/-- (*stepBound).multiply. -/
theorem mul_any (B : Nat) (x y l : Nat) (w : World) (hl : w.cell? ⟨B, 2, none⟩ = some (.int .i64 (l : Int))) (h1 : l < 9223372036854775807) (hy : 1 ≤ y) :
    Calls Try.prog 42 #[.pointer (some ⟨B, 0, none⟩), .int .i64 (x : Int), .int .i64 (y : Int)] w fun e w' => ∃ v, e = .returned v ∧ (v = .int .i64 ((min (l + 1) (x * y) : Nat) : Int) ∧ w' = w) := by
  refine enter1 (args := [_, _, _]) (R := fun v w' => v = .int .i64 ((min (l + 1) (x * y) : Nat) : Int) ∧ w' = w) Try.func42 rfl Try.ntmps42 Try.results42 rfl rfl ?_
  refine Cw_seq (Cw_region (by kernel_rfl) ?_)
  refine s_assign (Fl_nil (th_n ?_))
  refine Cw_seq (Cw_seq (Cw_region (by kernel_rfl) ?_))
  refine s_move (s_nilP rfl (s_field rfl (by kernel_rfl) (s_load rfl (by kernel_rfl) hl (s_add rfl rfl (by omega) (s_assign (Fl_nil (th_n ?_)))))))
  refine Cw_seq (Cw_region (by kernel_rfl) ?_)
  refine s_move (s_gtr rfl rfl ?_)
  rw [show decide ((0 : Int) < (y : Int)) = true from decide_eq_true (by omega)]
  refine s_move (Fl_val rfl r_move (Fl_val rfl r_move (Fl_val rfl r_move (Fl_val rfl (r_quo rfl rfl (by omega) (by omega) (by omega)) (Fl_val rfl (r_gtr rfl rfl) (s_pick rfl (Fl_nil (th_n ?_))))))))
  refine Cw_cond rfl rfl (fun hb => ?_) (fun hb => ?_)
  · have hb' : ((l + 1 : Nat) : Int) / (y : Int) < (x : Int) := of_decide_eq_true hb
    have := lt_of_div hy hb'
    refine Cw_seq (Cw_region (by kernel_rfl) ?_)
    refine s_move (s_assign (Fl_nil (th_n ?_)))
    refine Cw_ret ?_
    have e : ((l : Int) + 1) = ((min (l + 1) (x * y) : Nat) : Int) := by omega
    exact ⟨congrArg (Value.int .i64) e, rfl⟩
  · have hb' : ¬ ((l + 1 : Nat) : Int) / (y : Int) < (x : Int) := of_decide_eq_false hb
    have := le_of_div hy hb'
    refine Cw_skip (th_n ?_)
    have em : ((x : Int) * (y : Int)) = ((x * y : Nat) : Int) := (Int.natCast_mul _ _).symm
    refine Cw_seq (Cw_region (by kernel_rfl) ?_)
    refine s_move (s_move (s_mul rfl rfl (by rw [em]; omega) (s_assign (Fl_nil (th_n ?_)))))
    refine Cw_ret ?_
    have e : ((x : Int) * y) = ((min (l + 1) (x * y) : Nat) : Int) := by rw [em]; omega
    exact ⟨congrArg (Value.int .i64) e, rfl⟩

theorem own0 {w : World} {b m : Nat} {e : TypeId} {g : Nat → Value} (h : arr w b e m g) (hm : m ≤ maxLen) : w.ownsRow 0 e 1 (.slice (some ⟨b, 0, none⟩) 0 m) 0 [] := by
  obtain ⟨c, hc, hs, _⟩ := h
  exact ⟨by simp, .inr ⟨b, m, c, rfl, Nat.zero_le _, hc, Nat.zero_le _, hm, by omega, by simp⟩⟩
theorem own_irow {R : Nat → Prop} {w : World} {v : Value} {n : Nat} {e : TypeId} {c : Nat → Int} (h : w.ownsRow 0 e 1 v n ((List.range n).map fun i => .int .i32 (c i))) (hR : ∀ g, v.ownBlock = some g → R g) : irow R w v n c := by
  rcases h.2 with hh | ⟨g, cap, cur, rfl, _⟩
  · exact .inl hh
  · refine .inr ⟨g, 0, cap, hR g rfl, rfl, fun i hi => ?_⟩
    rw [Nat.zero_add]
    exact own_cell h (by omega) (by simp [hi])
theorem tmod_nat (a b : Nat) : ((a : Int)).tmod (b : Int) = ((a % b : Nat) : Int) := by
  rw [Int.tmod_eq_emod_of_nonneg (by omega)]
  rfl

set_option maxHeartbeats 1000000 in
theorem complete_any (k : Nat) (rot : Int) (hkp : 1 ≤ k) (hkq : k ≤ 500) (w : World) :
    Calls Try.prog 33 #[.int .i64 (k : Int), .int .i64 rot] w fun e w' => ∃ v, e = .returned v ∧ ((∃ sh, irows (new w w') w' v k (fun _ => k - 1) (fun v i => ((cg k sh).e v i : Int))) ∧ Keeps w w' noB ∧ w.heap.size < w'.heap.size) := by
  refine enter1 (args := [_, _]) (R := fun v w' => (∃ sh, irows (new w w') w' v k (fun _ => k - 1) (fun v i => ((cg k sh).e v i : Int))) ∧ Keeps w w' noB ∧ w.heap.size < w'.heap.size) Try.func33 rfl Try.ntmps33 Try.results33 rfl rfl ?_
  refine Cw_seq (Cw_region (by kernel_rfl) ?_)
  refine s_assign (Fl_nil (th_n ?_))
  refine Cw_seq (Cw_region (by kernel_rfl) ?_)
  refine s_move (s_make rfl rfl rfl rfl (Nat.le_refl _) slz22 rfl (by omega) (by omega) fun w1 ha1 hk1 hz1 => (s_assign (Fl_nil (th_n ?_))))
  refine Cw_seq (Cw_seq (Cw_region (by kernel_rfl) ?_))
  refine s_move (s_eql rfl rfl (Fl_nil (th_n ?_)))
  refine Cw_cond rfl rfl (fun hb => ?_) (fun hb => ?_)
  · have hk : k = 1 := by have := of_decide_eq_true hb; omega
    subst hk
    refine Cw_seq (Cw_region (by kernel_rfl) ?_)
    have ha2 := ha1.alloc (.cells #[] 21)
    refine s_move (s_lit0 slz35 (s_index (i := 0) rfl rfl rfl (by omega) (by kernel_rfl) (s_store (v := .slice (some ⟨w1.heap.size, 0, none⟩) 0 0) rfl rfl (by kernel_rfl) rfl (ha2.cell (by omega)) (ha2.frozen 0) (Fl_nil (th_n ?_)))))
    refine Cw_seq (Cw_region (by kernel_rfl) ?_)
    refine s_move (s_assign (Fl_nil (th_n ?_)))
    refine Cw_ret ?_
    have hk2 : Keeps w ((w1.alloc (.cells #[] 21)).setCell ⟨w.heap.size, 0, none⟩ (.slice (some ⟨w1.heap.size, 0, none⟩) 0 0)) noB := (hk1.trans (Keeps.alloc w1 _ noB) (fun _ _ h => h) (fun _ _ h => h)).trans (Keeps.setCell _ _ _) (fun _ _ h => h) (fun q hq h => by have h : q = w.heap.size := h; omega)
    have hsz : w.heap.size + 2 ≤ ((w1.alloc (.cells #[] 21)).setCell ⟨w.heap.size, 0, none⟩ (.slice (some ⟨w1.heap.size, 0, none⟩) 0 0)).heap.size := by
      have := (Keeps.setCell (w1.alloc (.cells #[] 21)) ⟨w.heap.size, 0, none⟩ (.slice (some ⟨w1.heap.size, 0, none⟩) 0 0)).size
      rw [size_alloc] at this
      omega
    refine ⟨⟨0, .inr ⟨w.heap.size, 0, 1, ⟨Nat.le_refl _, by omega⟩, rfl, fun i hi => ?_⟩⟩, hk2, by omega⟩
    obtain rfl : i = 0 := by omega
    refine ⟨_, (ha2.set 0 _).cellv (by omega) (upd_same _ _ _), .inr ⟨w1.heap.size, 0, 0, ⟨by omega, by omega⟩, rfl, fun i hi => absurd hi (Nat.not_lt_zero i)⟩⟩
  · have hk2 : 2 ≤ k := by have := of_decide_eq_false hb; omega
    refine Cw_skip (th_n ?_)
    refine Cw_seq (Cw_region (by kernel_rfl) ?_)
    refine s_move (s_move (s_sub rfl rfl (by omega) (s_rem rfl rfl (by omega) (s_assign (Fl_nil (th_n ?_))))))
    have hr1 := Int.tmod_lt_of_pos rot (show (0 : Int) < (k : Int) - 1 by omega)
    have hr2 : -((k : Int) - 1) < rot.tmod ((k : Int) - 1) := by
      have := Int.tmod_lt_of_pos (-rot) (show (0 : Int) < (k : Int) - 1 by omega)
      rw [Int.neg_tmod] at this
      omega
    refine Cw_seq (Cw_seq (Cw_region (by kernel_rfl) ?_))
    refine s_move (s_lss rfl rfl (Fl_nil (th_n ?_)))
    obtain ⟨sh, hsh⟩ : ∃ sh : Nat, (sh : Int) = if rot.tmod ((k : Int) - 1) < 0 then rot.tmod ((k : Int) - 1) + ((k : Int) - 1) else rot.tmod ((k : Int) - 1) := by
      split
      · exact ⟨(rot.tmod ((k : Int) - 1) + ((k : Int) - 1)).toNat, by omega⟩
      · exact ⟨(rot.tmod ((k : Int) - 1)).toNat, by omega⟩
    refine Cw_join rfl rfl [(0, .int .i64 (k : Int)), (5, .slice (some ⟨w.heap.size, 0, none⟩) k k), (6, .int .i64 (sh : Int))] (fun hn => ?_) (fun hn => ?_) (fun g => ?_)
    · rw [if_pos (of_decide_eq_true hn)] at hsh
      refine Cw_region (by kernel_rfl) ?_
      refine s_move (s_move (s_sub rfl rfl (by omega) (s_add rfl rfl (by omega) (s_assign (Fl_nil (th_n ?_))))))
      exact ⟨sets_ex _ ⟨rfl, rfl, congrArg (Value.int .i64) hsh.symm, trivial⟩, rfl⟩
    · rw [if_neg (of_decide_eq_false hn)] at hsh
      exact Cw_skip (th_n ⟨sets_ex _ ⟨rfl, rfl, congrArg (Value.int .i64) hsh.symm, trivial⟩, rfl⟩)
    have hshk : sh < k - 1 := by
      split at hsh <;> omega
    clear hsh hr1 hr2
    refine Cw_seq (Cw_seq (Cw_region (by kernel_rfl) ?_))
    refine s_assign (Fl_nil (th_n ?_))
    refine Cw_block ?_
    refine Cw_loop (fun m f w' => ∃ g j V, f = sets [(0, .int .i64 (k : Int)), (5, .slice (some ⟨w.heap.size, 0, none⟩) k k), (6, .int .i64 (sh : Int)), (7, .int .i64 ((j : Nat) : Int))] g ∧ j ≤ k ∧ arr w' w.heap.size 35 k V ∧
      (∀ i, i < j → irow (fun q => w.heap.size < q ∧ q < w'.heap.size) w' (V i) (k - 1) (fun t => ((cg k sh).e i t : Int))) ∧ Keeps w w' noB ∧ w.heap.size < w'.heap.size ∧ m = k - j) (k - 0)
      ⟨_, 0, _, sets_known ⟨rfl, rfl, rfl, rfl, trivial⟩, by omega, ha1, fun i hi => by omega, hk1, by omega, rfl⟩ ?_
    clear ha1 hk1 hz1
    rintro m f w' ⟨g, j, V, rfl, hj, hV, hrows, hk, hsz, rfl⟩
    refine Cw_seq (Cw_seq (Cw_region (by kernel_rfl) ?_))
    refine s_move (s_move (s_lss rfl rfl (Fl_nil (th_n ?_))))
    refine Cw_cond rfl rfl (fun hb => ?_) (fun hb => ?_)
    · have hj' : j < k := by have := of_decide_eq_true hb; omega
      refine Cw_skip (th_n ?_)
      refine Cw_seq (Cw_block ?_)
      refine Cw_seq (Cw_region (by kernel_rfl) ?_)
      refine s_move (s_sub rfl rfl (by omega) (s_make (n := 0) (m := k - 1) rfl rfl rfl (by omega) (by omega) slz35 rfl (by omega) (by omega) fun w2 ha2 hk2 hz2 => (s_assign (Fl_nil (th_n ?_)))))
      refine Cw_seq (Cw_seq (Cw_region (by kernel_rfl) ?_))
      refine s_assign (Fl_nil (th_n ?_))
      refine Cw_block ?_
      refine Cw_loop (fun m f w'' => ∃ g t vR, f = sets [(0, .int .i64 (k : Int)), (5, .slice (some ⟨w.heap.size, 0, none⟩) k k), (6, .int .i64 (sh : Int)), (7, .int .i64 ((j : Nat) : Int)), (8, vR), (9, .int .i64 ((t : Nat) : Int))] g ∧
        t ≤ k - 1 ∧ w''.ownsRow 0 21 1 vR t ((List.range t).map fun i => .int .i32 (((cg k sh).e j i : Nat) : Int)) ∧ (∀ q, vR.ownBlock = some q → w'.heap.size ≤ q) ∧ Keeps w' w'' noB ∧ m = k - 1 - t) (k - 1 - 0)
        ⟨_, 0, _, sets_known ⟨rfl, rfl, rfl, rfl, rfl, rfl, trivial⟩, by omega, own0 ha2 (by simp only [maxLen]; omega), fun q hq => by
          have hq : some w'.heap.size = some q := hq
          cases hq
          exact Nat.le_refl _, hk2, rfl⟩ ?_
      clear ha2 hk2 hz2
      rintro m f w'' ⟨g, t, vR, rfl, ht, hown, hob, hk3, rfl⟩
      refine Cw_seq (Cw_seq (Cw_region (by kernel_rfl) ?_))
      refine s_move (s_move (s_sub rfl rfl (by omega) (s_lss rfl rfl (Fl_nil (th_n ?_)))))
      refine Cw_cond rfl rfl (fun hb => ?_) (fun hb => ?_)
      · have ht' : t < k - 1 := by have := of_decide_eq_true hb; omega
        refine Cw_skip (th_n ?_)
        refine Cw_seq (Cw_block ?_)
        have e1 : ((sh : Int) + (t : Int)).tmod ((k : Int) - 1) = (((sh + t) % (k - 1) : Nat) : Int) := by
          have := tmod_nat (sh + t) (k - 1)
          rw [show ((k - 1 : Nat) : Int) = (k : Int) - 1 by omega] at this
          rw [← this]; rfl
        have hm1 := Nat.mod_lt (sh + t) (show 0 < k - 1 by omega)
        refine Cw_seq (Cw_region (by kernel_rfl) ?_)
        refine s_move (s_move (s_add rfl rfl (by omega) (s_move (s_sub rfl rfl (by omega) (s_rem rfl rfl (by omega) (s_add rfl rfl (by rw [e1]; omega) (s_assign (Fl_nil (th_n ?_)))))))))
        have e2 : ((j : Int) + (((sh : Int) + (t : Int)).tmod ((k : Int) - 1) + 1)).tmod (k : Int) = (((cg k sh).e j t : Nat) : Int) := by
          rw [e1]
          exact tmod_nat (j + ((sh + t) % (k - 1) + 1)) k
        have hlt := (cg_cmp k sh).ok j t hj' ht'
        have hlt' : (cg k sh).e j t < k := hlt
        refine Cw_region (by kernel_rfl) ?_
        refine s_move (s_move (s_move (s_add rfl rfl (by rw [e1]; omega) (s_move (s_rem rfl rfl (by omega) ?_)))))
        rw [e2]
        refine s_conv32 rfl (by kernel_rfl) (by kernel_rfl) (by omega) (s_lit1 rfl slz35 rfl rfl ?_)
        have hal := hown.alloc (.cells #[.int .i32 (((cg k sh).e j t : Nat) : Int)] 21)
        refine s_append rfl rfl slz35 (by omega) rfl hal (news := [.int .i32 (((cg k sh).e j t : Nat) : Int)]) rfl ?_ ?_ (by omega) (by omega) (by omega) ?_
        · intro i u hi
          rcases i with _ | i
          · cases hi
            have hn := arr.new w'' #[.int .i32 (((cg k sh).e j t : Nat) : Int)] 21 (fun _ => .int .i32 (((cg k sh).e j t : Nat) : Int)) (fun i hi => by
              have hi : i < 1 := hi
              have : i = 0 := by omega
              subst this
              rfl)
            exact hn.cell (by show 0 < 1; omega)
          · cases hi
        · intro u hu
          simp at hu
          subst hu
          rfl
        · intro g' cap' w3 ho3 hk4 hg4 _
          refine s_assign (Fl_nil (ib_n (th_n ?_)))
          refine Cw_region (by kernel_rfl) ?_
          refine s_move (s_add rfl rfl (by omega) (s_assign (Fl_nil (th_n ?_))))
          have hs0 := hk3.size
          have hgq : w'.heap.size ≤ g' := by
            rcases hg4 with h | h
            · exact hob g' h
            · rw [size_alloc] at h; omega
          refine ⟨k - 1 - (t + 1), by omega, _, t + 1, _, sets_known ⟨rfl, rfl, rfl, rfl, rfl, rfl, trivial⟩, by omega, ?_, fun q hq => ?_, ?_, rfl⟩
          · rw [List.range_succ, List.map_append]
            exact ho3
          · have hq : some g' = some q := hq
            cases hq
            exact hgq
          · refine (hk3.trans (Keeps.alloc w'' _ noB) (fun _ _ h => h) (fun _ _ h => h)).trans hk4 (fun _ _ h => h) (fun q hq h => ?_)
            have := hob q h.symm
            omega
      · have ht' : t = k - 1 := by have := of_decide_eq_false hb; omega
        subst ht'
        refine Cw_exit (ex_th (ex_th (ex_in (th_n ?_))))
        refine Cw_region (by kernel_rfl) ?_
        have hV2 := hV.keep hk3 (fun h => h)
        obtain ⟨aR, cR, hvR, _⟩ := own_val hown
        subst hvR
        refine s_move (s_move (s_move (s_index rfl rfl rfl hj' (by kernel_rfl) (s_store (v := .slice aR (k - 1) cR) rfl rfl (by kernel_rfl) rfl (hV2.cell hj') (hV2.frozen j) (Fl_nil (ib_n (th_n ?_)))))))
        refine Cw_region (by kernel_rfl) ?_
        refine s_move (s_add rfl rfl (by omega) (s_assign (Fl_nil (th_n ?_))))
        have hks := Keeps.setCell w'' ⟨w.heap.size, j, none⟩ (.slice aR (k - 1) cR)
        have hs1 := hk3.size
        have hs2 := hks.size
        have hk5 : Keeps w (w''.setCell ⟨w.heap.size, j, none⟩ (.slice aR (k - 1) cR)) noB := (hk.trans hk3 (fun _ _ h => h) (fun _ _ h => h)).trans hks (fun _ _ h => h) (fun q hq h => by have h : q = w.heap.size := h; omega)
        refine ⟨k - (j + 1), by omega, _, j + 1, _, sets_known ⟨rfl, rfl, rfl, rfl, trivial⟩, by omega, hV2.set j _, fun i hi => ?_, hk5, by omega, rfl⟩
        by_cases hij : i = j
        · subst hij
          rw [upd_same]
          refine irow.keep (own_irow (R := fun q => w.heap.size < q ∧ q < (w''.setCell ⟨w.heap.size, i, none⟩ (.slice aR (k - 1) cR)).heap.size) hown (fun q hq => ?_)) hks (fun q hq _ h => by have h : q = w.heap.size := h; omega)
          have h1 := hob q hq
          have h2 := own_lt hown hq
          exact ⟨by omega, by omega⟩
        · rw [upd_ne _ _ hij]
          refine irow.mono (((hrows i (by omega)).keep hk3 (fun _ _ _ h => h)).keep hks (fun q hq _ h => by have h : q = w.heap.size := h; omega)) (fun q hq => ⟨hq.1, by omega⟩)
    · have hj' : j = k := by have := of_decide_eq_false hb; omega
      subst hj'
      refine Cw_exit (ex_th (ex_th (ex_in (th_n ?_))))
      refine Cw_seq (Cw_region (by kernel_rfl) ?_)
      refine s_move (s_assign (Fl_nil (th_n ?_)))
      refine Cw_ret ?_
      refine ⟨⟨sh, .inr ⟨w.heap.size, 0, j, ⟨Nat.le_refl _, hsz⟩, rfl, fun i hi => ⟨V i, ?_, (hrows i hi).mono (fun q hq => ⟨by omega, hq.2⟩)⟩⟩⟩, hk, hsz⟩
      rw [Nat.zero_add]
      exact hV.cell hi
end Go.Proofs.Qxb6000043a

/-
  WALKS, E: b1Ends, b1HolderEnd and the law FnReversedAsTargetSeesIt. Own work.
-/
import Derived.Test.Qxb6000102aWaD
import Derived.Test.Qxb6000102aFwJ
namespace Go.Proofs.Qxb6000102a
open Go.Fw Go.RowKit
set_option maxRecDepth 10000

section
variable {P : Program} {f : Nat → Value} {w : World} {dst : Option Tmp} {ty : TypeId} {pos : String} {af : Array Edge} {gu : Option (Nat × Bool)}
theorem r_eqlPF {x y : Operand} {t t' : TypeId} {a b : Option Addr} (ht : ptrB P t = true) (hx : ev f x = .pointer a) (hy : ev f y = .pointer b) (ha : pk w a) (hb : pk w b) (h : a ≠ b) : (execOp (ev f) ⟨dst, .binOp .eql t x y t', ty, pos, af, gu⟩).run P w = .ok (.value (.bool false)) w := by
  rw [r_eqlP ht hx hy ha hb, decide_eq_false h]
theorem r_neqPF {x y : Operand} {t t' : TypeId} {a b : Option Addr} (ht : ptrB P t = true) (hx : ev f x = .pointer a) (hy : ev f y = .pointer b) (ha : pk w a) (hb : pk w b) (h : a = b) : (execOp (ev f) ⟨dst, .binOp .neq t x y t', ty, pos, af, gu⟩).run P w = .ok (.value (.bool false)) w := by
  rw [r_neqP ht hx hy ha hb, decide_eq_true h]; rfl
theorem r_neqBF {x y : Operand} {t t' : TypeId} {a b : Bool} (ht : P.underlying t = some .bool) (hx : ev f x = .bool a) (hy : ev f y = .bool b) (h : a = b) : (execOp (ev f) ⟨dst, .binOp .neq t x y t', ty, pos, af, gu⟩).run P w = .ok (.value (.bool false)) w := by
  rw [r_neqB ht hx hy, h]; simp
theorem r_eqlStrT {x y : Operand} {t t' : TypeId} {a b : ByteArray} (hx : ev f x = .string a) (hy : ev f y = .string b) (h : a = b) : (execOp (ev f) ⟨dst, .binOp .eql t x y t', ty, pos, af, gu⟩).run P w = .ok (.value (.bool true)) w := by
  rw [r_eqlStr hx hy, decide_eq_true h]
theorem r_neqStrF {x y : Operand} {t t' : TypeId} {a b : ByteArray} (hx : ev f x = .string a) (hy : ev f y = .string b) (h : a = b) : (execOp (ev f) ⟨dst, .binOp .neq t x y t', ty, pos, af, gu⟩).run P w = .ok (.value (.bool false)) w := by
  rw [r_neqStr hx hy, decide_eq_true h]; rfl
end

def endsS (t : Int) : Bool := t == 2 || t == 4
def endsT (t : Int) : Bool := t == 3 || t == 4
def endsO (t : Int) : Bool := t == 1 || t == 2 || t == 3 || t == 4
theorem ends_any (t : Int) (w : World) :
    Calls Try.prog 22 #[.int .i64 t] w fun e w' => ∃ v, e = .returned v ∧ (v = .tuple #[.bool (endsS t), .bool (endsT t), .bool (endsO t)] ∧ w' = w) := by
  refine enterR (args := [_]) (R := fun v w' => v = .tuple #[.bool (endsS t), .bool (endsT t), .bool (endsO t)] ∧ w' = w) Try.func22 rfl Try.ntmps22 rfl ?_
  refine Cw_seq (Cw_region (by kernel_rfl) ?_)
  refine s_assign (s_assign (s_assign (Fl_nil (th_n ?_))))
  refine Cw_seq (Cw_seq (Cw_region (by kernel_rfl) ?_))
  refine s_move (s_eql rfl rfl (Fl_nil (th_n ?_)))
  refine Cw_cond rfl rfl (fun hb => ?_) (fun hb => ?_)
  · have hb := of_decide_eq_true hb
    subst hb
    refine Cw_seq (Cw_region (by kernel_rfl) ?_)
    refine s_assign (s_assign (s_assign (Fl_nil (th_n ?_))))
    exact Cw_ret ⟨_, res3 Try.results22 rfl rfl rfl, rfl, rfl⟩
  have h1 := of_decide_eq_false hb
  refine Cw_skip (th_n ?_)
  refine Cw_seq (Cw_seq (Cw_region (by kernel_rfl) ?_))
  refine s_move (s_eql rfl rfl (Fl_nil (th_n ?_)))
  refine Cw_cond rfl rfl (fun hb => ?_) (fun hb => ?_)
  · have hb := of_decide_eq_true hb
    subst hb
    refine Cw_seq (Cw_region (by kernel_rfl) ?_)
    refine s_assign (s_assign (s_assign (Fl_nil (th_n ?_))))
    exact Cw_ret ⟨_, res3 Try.results22 rfl rfl rfl, rfl, rfl⟩
  have h2 := of_decide_eq_false hb
  refine Cw_skip (th_n ?_)
  refine Cw_seq (Cw_seq (Cw_region (by kernel_rfl) ?_))
  refine s_move (s_eql rfl rfl (Fl_nil (th_n ?_)))
  refine Cw_cond rfl rfl (fun hb => ?_) (fun hb => ?_)
  · have hb := of_decide_eq_true hb
    subst hb
    refine Cw_seq (Cw_region (by kernel_rfl) ?_)
    refine s_assign (s_assign (s_assign (Fl_nil (th_n ?_))))
    exact Cw_ret ⟨_, res3 Try.results22 rfl rfl rfl, rfl, rfl⟩
  have h3 := of_decide_eq_false hb
  refine Cw_skip (th_n ?_)
  refine Cw_seq (Cw_seq (Cw_region (by kernel_rfl) ?_))
  refine s_move (s_eql rfl rfl (Fl_nil (th_n ?_)))
  refine Cw_cond rfl rfl (fun hb => ?_) (fun hb => ?_)
  · have hb := of_decide_eq_true hb
    subst hb
    refine Cw_seq (Cw_region (by kernel_rfl) ?_)
    refine s_assign (s_assign (s_assign (Fl_nil (th_n ?_))))
    exact Cw_ret ⟨_, res3 Try.results22 rfl rfl rfl, rfl, rfl⟩
  have h4 := of_decide_eq_false hb
  refine Cw_skip (th_n ?_)
  refine Cw_seq (Cw_region (by kernel_rfl) ?_)
  refine s_assign (s_assign (s_assign (Fl_nil (th_n ?_))))
  refine Cw_ret ⟨_, res3 Try.results22 rfl rfl rfl, ?_, rfl⟩
  have e1 : endsS t = false := by simp [endsS, h2, h4]
  have e2 : endsT t = false := by simp [endsT, h3, h4]
  have e3 : endsO t = false := by simp [endsO, h1, h2, h3, h4]
  rw [e1, e2, e3]
  rfl
def holdF (k : Int) : Int := if k = 1 then 1 else if k = 2 then 2 else 0
theorem holder_any (k : Int) (w : World) :
    Calls Try.prog 23 #[.int .i64 k] w fun e w' => ∃ v, e = .returned v ∧ (v = .int .i64 (holdF k) ∧ w' = w) := by
  refine enter1 (args := [_]) (R := fun v w' => v = .int .i64 (holdF k) ∧ w' = w) Try.func23 rfl Try.ntmps23 Try.results23 rfl rfl ?_
  refine Cw_seq (Cw_region (by kernel_rfl) ?_)
  refine s_assign (Fl_nil (th_n ?_))
  refine Cw_seq (Cw_seq (Cw_region (by kernel_rfl) ?_))
  refine s_move (s_eql rfl rfl (Fl_nil (th_n ?_)))
  refine Cw_cond rfl rfl (fun hb => ?_) (fun hb => ?_)
  · have hb := of_decide_eq_true hb
    refine Cw_seq (Cw_region (by kernel_rfl) ?_)
    refine s_assign (Fl_nil (th_n ?_))
    exact Cw_ret ⟨by unfold holdF; rw [if_pos hb]; rfl, rfl⟩
  have h1 := of_decide_eq_false hb
  refine Cw_skip (th_n ?_)
  refine Cw_seq (Cw_seq (Cw_region (by kernel_rfl) ?_))
  refine s_move (s_eql rfl rfl (Fl_nil (th_n ?_)))
  refine Cw_cond rfl rfl (fun hb => ?_) (fun hb => ?_)
  · have hb := of_decide_eq_true hb
    refine Cw_seq (Cw_region (by kernel_rfl) ?_)
    refine s_assign (Fl_nil (th_n ?_))
    exact Cw_ret ⟨by unfold holdF; rw [if_neg h1, if_pos hb]; rfl, rfl⟩
  have h2 := of_decide_eq_false hb
  refine Cw_skip (th_n ?_)
  refine Cw_seq (Cw_region (by kernel_rfl) ?_)
  refine s_assign (Fl_nil (th_n ?_))
  exact Cw_ret ⟨by unfold holdF; rw [if_neg h1, if_neg h2]; rfl, rfl⟩
theorem ends_swap (t : Int) (h : endsO t = true) : endsO (if t = 3 then 2 else if t = 2 then 3 else t) = true ∧ endsS (if t = 3 then 2 else if t = 2 then 3 else t) = endsT t ∧ endsT (if t = 3 then 2 else if t = 2 then 3 else t) = endsS t := by
  simp only [endsO, Bool.or_eq_true, beq_iff_eq] at h
  rcases h with ((rfl | rfl) | rfl) | rfl <;> decide
theorem ends_kept (t : Int) (h : endsO t = false) : (if t = 3 then 2 else if t = 2 then 3 else t) = t := by
  simp only [endsO, Bool.or_eq_false_iff, beq_eq_false_iff_ne] at h
  rw [if_neg h.1.2, if_neg h.1.1.2]
theorem hold_swap (k : Int) (h : holdF k ≠ 0) : holdF (if k = 1 then 2 else if k = 2 then 1 else k) = 3 - holdF k := by
  unfold holdF at h ⊢
  by_cases h1 : k = 1
  · subst h1; decide
  · by_cases h2 : k = 2
    · subst h2; decide
    · simp [h1, h2] at h
theorem hold_rng (k : Int) : 0 ≤ holdF k ∧ holdF k ≤ 2 := by
  unfold holdF
  split
  · omega
  · split <;> omega
theorem hold_kept (k : Int) (h : holdF k = 0) : (if k = 1 then 2 else if k = 2 then 1 else k) = k := by
  unfold holdF at h
  by_cases h1 : k = 1
  · simp [h1] at h
  · by_cases h2 : k = 2
    · simp [h2] at h
    · rw [if_neg h1, if_neg h2]

set_option maxHeartbeats 4000000 in
theorem f6_any (nm rv : ByteArray) (ty ks : Int) (tk sk lb sb : ByteArray) (sn : Bool) (ts kn : Int) (w : World) :
    Calls Try.prog 6 #[.string nm, .string rv, .int .i64 ty, .int .i64 ks, .string tk, .string sk, .string lb, .string sb, .bool sn, .int .i64 ts, .int .i64 kn] w fun e w' => ∃ v, e = .returned v ∧ (v = .bool true ∧ Keeps w w' noB) := by
  refine enter1 (args := [_, _, _, _, _, _, _, _, _, _, _]) (R := fun v w' => v = .bool true ∧ Keeps w w' noB) Try.func6 rfl Try.ntmps6 Try.results6 rfl rfl ?_
  refine Cw_seq (Cw_region (by kernel_rfl) ?_)
  refine s_assign (Fl_nil (th_n ?_))
  refine Cw_seq (Cw_seq (Cw_region (by kernel_rfl) ?_))
  refine s_move (s_move (s_move (s_move (s_move (s_move (s_move (s_move (s_move (s_move (s_move ?_))))))))))
  refine s_cv (by kernel_rfl) rfl (bytes18_any nm rv tk sk lb sb _ _ _ _ _ w) ?_
  rintro v1 w1 ⟨⟨b1, rfl⟩, rfl⟩
  refine s_not rfl (Fl_nil (th_n ?_))
  refine Cw_cond rfl rfl (fun hb => ?_) (fun hb => ?_)
  · refine Cw_seq (Cw_region (by kernel_rfl) ?_)
    refine s_assign (Fl_nil (th_n ?_))
    exact Cw_ret ⟨rfl, Keeps.refl _ _⟩
  clear hb
  refine Cw_skip (th_n ?_)
  refine Cw_seq (Cw_seq (Cw_region (by kernel_rfl) ?_))
  refine s_move (s_move (s_move (s_move (s_move (s_move ?_)))))
  refine s_cv (by kernel_rfl) rfl (strs_any nm rv tk sk lb sb w1) ?_
  rintro v2 w2 ⟨⟨z, rfl⟩, rfl⟩
  refine s_gtr rfl rfl (Fl_nil (th_n ?_))
  refine Cw_cond rfl rfl (fun hb => ?_) (fun hb => ?_)
  · refine Cw_seq (Cw_region (by kernel_rfl) ?_)
    refine s_assign (Fl_nil (th_n ?_))
    exact Cw_ret ⟨rfl, Keeps.refl _ _⟩
  clear hb
  refine Cw_skip (th_n ?_)
  -- a, got
  refine Cw_seq (Cw_region (by kernel_rfl) ?_)
  refine s_move (s_move (s_move (s_move (s_move (s_move (s_move (s_move (s_move (s_move (s_move ?_))))))))))
  refine s_cv (by kernel_rfl) rfl (assoc_any nm rv ty ks tk sk lb sb sn ts kn w2) ?_
  rintro v3 w3 ⟨B, src, tgt, kin, rfl, hB3, hs3, ht3, hn3, hk3⟩
  refine s_assign (Fl_nil (th_n ?_))
  refine Cw_fr [(0, .string nm), (1, .string rv), (2, .int .i64 ty), (3, .int .i64 ks), (4, .string tk), (5, .string sk), (23, .pointer (some ⟨B, 0, none⟩))] ⟨rfl, rfl, rfl, rfl, rfl, rfl, rfl, trivial⟩ (fun g => ?_)
  refine Cw_seq (Cw_region (by kernel_rfl) ?_)
  refine s_move ?_
  refine s_c1 (by kernel_rfl) rfl (reversed_any _ w3 B hB3) ?_
  rintro v4 w4 ⟨rfl, hC, hk4⟩
  refine s_assign (Fl_nil (th_n ?_))
  have hB := hB3.keep hk4 (fun h => h)
  have hs := hs3.keep hk4 (fun _ _ h => h)
  have ht := ht3.keep hk4 (fun _ _ h => h)
  have hn := hn3.keep hk4 (fun _ _ h => h)
  have hk : Keeps w2 w4 noB := hk3.trans hk4 (fun _ _ h => h) (fun _ _ h => h)
  have hne : (⟨w3.heap.size, 0, none⟩ : Addr) ≠ ⟨B, 0, none⟩ := fun e => by
    have h1 : w3.heap.size = B := by cases e; rfl
    have := hB3.lt
    omega
  generalize w3.heap.size = C at *
  clear hB3 hs3 ht3 hn3 hk3 hk4
  simp only [revA] at hC
  -- got == nil || got == a
  refine Cw_seq (Cw_seq (Cw_region (by kernel_rfl) ?_))
  refine s_move (Fl_val rfl (r_eqlPF (by kernel_rfl) rfl rfl (pk_arr hC) (pk_none _) (fun e => by cases e)) (s_move (Fl_val rfl r_move (Fl_val rfl r_move (Fl_val rfl (r_eqlPF (by kernel_rfl) rfl rfl (pk_arr hC) (pk_arr hB) (fun e => hne (Option.some.inj e))) (s_pick rfl (Fl_nil (th_n ?_))))))))
  refine Cw_false rfl rfl rfl (Cw_skip (th_n ?_))
  -- names
  refine Cw_seq (Cw_seq (Cw_region (by kernel_rfl) ?_))
  refine s_move (s_nilP rfl (s_field rfl (by kernel_rfl) (s_load rfl (by kernel_rfl) (hC.cellv (i := 0) (v := .string rv) (by omega) rfl) (s_move (Fl_val rfl (r_neqStrF rfl rfl rfl) (s_move ?_))))))
  refine Fl_val rfl r_move (Fl_val rfl (r_nilP rfl) (Fl_val rfl (r_field0 rfl (by kernel_rfl)) (Fl_val rfl (r_load rfl (by kernel_rfl) (hC.cellv (i := 8) (v := .string nm) (by omega) rfl)) (Fl_val rfl r_move (Fl_val rfl (r_neqStrF rfl rfl rfl) (s_pick rfl (Fl_nil (th_n ?_))))))))
  refine Cw_false rfl rfl rfl (Cw_skip (th_n ?_))
  refine Cw_fr [(2, .int .i64 ty), (3, .int .i64 ks), (4, .string tk), (5, .string sk), (23, .pointer (some ⟨B, 0, none⟩)), (24, .pointer (some ⟨C, 0, none⟩))] ⟨rfl, rfl, rfl, rfl, rfl, rfl, trivial⟩ (fun g => ?_)
  -- ends
  refine Cw_seq (Cw_seq ?_)
  refine Cw_drawn [(0, 0), (1, 0), (2, 0), (3, 1), (4, 0), (5, 0), (6, 0), (7, 1), (8, 1), (9, 0), (10, 0), (11, 0), (12, 0), (13, 1), (14, 0), (15, 0), (16, 0), (17, 1), (18, 1), (19, 0)] [0, 1, 2, 3, 4, 5, 6, 7, 8, 9, 10, 11, 12, 13, 14, 15, 16, 17, 18, 19] (Ext w4) (by kernel_rfl) (by kernel_rfl) (by kernel_rfl) (by kernel_rfl) ?_
  have hS : Ext w4 w4.drew := fun _ _ => rfl
  refine o0 rfl rfl (fun _ => r_move) (o0 rfl rfl (fun _ => r_nilP rfl) (o0 rfl rfl (fun _ => r_field0 rfl (by kernel_rfl)) (o1 rfl hS rfl (fun _ hw => r_load rfl (by kernel_rfl) (hw.cell (hC.cellv (i := 2) (v := .pointer tgt) (by omega) rfl))) (o0 rfl rfl (fun _ => r_move) (o0 rfl rfl (fun _ => r_nilP rfl) (o0 rfl rfl (fun _ => r_field0 rfl (by kernel_rfl)) (o1 rfl hS rfl (fun _ hw => r_load rfl (by kernel_rfl) (hw.cell (hB.cellv (i := 3) (v := .pointer tgt) (by omega) rfl))) (o1 rfl hS rfl (fun _ hw => r_neqPF (by kernel_rfl) rfl rfl (pk_ext ht hw) (pk_ext ht hw) rfl) (o0 rfl rfl (fun _ => r_move) ?_)))))))))
  refine o0 rfl rfl (fun _ => r_move) (o0 rfl rfl (fun _ => r_nilP rfl) (o0 rfl rfl (fun _ => r_field0 rfl (by kernel_rfl)) (o1 rfl hS rfl (fun _ hw => r_load rfl (by kernel_rfl) (hw.cell (hC.cellv (i := 3) (v := .pointer src) (by omega) rfl))) (o0 rfl rfl (fun _ => r_move) (o0 rfl rfl (fun _ => r_nilP rfl) (o0 rfl rfl (fun _ => r_field0 rfl (by kernel_rfl)) (o1 rfl hS rfl (fun _ hw => r_load rfl (by kernel_rfl) (hw.cell (hB.cellv (i := 2) (v := .pointer src) (by omega) rfl))) (o1 rfl hS rfl (fun _ hw => r_neqPF (by kernel_rfl) rfl rfl (pk_ext hs hw) (pk_ext hs hw) rfl) (o0 rfl rfl (fun _ => r_pick rfl) (Fo_nil (th_n ?_)))))))))))
  refine Cw_false rfl rfl rfl (Cw_skip (th_n ?_))
  have hC1 := hC.drew
  have hB1 := hB.drew
  have hs1 := hs.keep (Keeps.drew w4 noB) (fun _ _ h => h)
  have ht1 := ht.keep (Keeps.drew w4 noB) (fun _ _ h => h)
  have hn1 := hn.keep (Keeps.drew w4 noB) (fun _ _ h => h)
  have hk1 : Keeps w2 w4.drew noB := hk.trans (Keeps.drew w4 noB) (fun _ _ h => h) (fun _ _ h => h)
  generalize w4.drew = w5 at hC1 hB1 hs1 ht1 hn1 hk1 ⊢
  clear hS hC hB hs ht hn hk
  refine Cw_fr [(2, .int .i64 ty), (3, .int .i64 ks), (4, .string tk), (5, .string sk), (23, .pointer (some ⟨B, 0, none⟩)), (24, .pointer (some ⟨C, 0, none⟩))] ⟨rfl, rfl, rfl, rfl, rfl, rfl, trivial⟩ (fun g => ?_)
  -- labels
  refine Cw_seq (Cw_seq (Cw_region (by kernel_rfl) ?_))
  refine s_move (s_nilP rfl (s_field rfl (by kernel_rfl) (s_load rfl (by kernel_rfl) (hC1.cellv (i := 9) (v := .string e0) (by omega) rfl) (Fl_val rfl (r_neqStrF (b := e0) rfl rfl rfl) (s_move ?_)))))
  refine Fl_val rfl r_move (Fl_val rfl (r_nilP rfl) (Fl_val rfl (r_field0 rfl (by kernel_rfl)) (Fl_val rfl (r_load rfl (by kernel_rfl) (hC1.cellv (i := 10) (v := .string e0) (by omega) rfl)) (Fl_val rfl (r_neqStrF (b := e0) rfl rfl rfl) (s_pick rfl (Fl_nil (th_n ?_)))))))
  refine Cw_false rfl rfl rfl (Cw_skip (th_n ?_))
  -- multiplicities
  refine Cw_seq (Cw_region (by kernel_rfl) ?_)
  refine s_move ?_
  refine s_c1 (by kernel_rfl) rfl (ends_any ty w5) ?_
  rintro v6 w6 ⟨rfl, rfl⟩
  refine s_move (s_extract rfl rfl (s_extract rfl rfl (s_extract rfl rfl (s_assign (s_assign (s_assign (Fl_nil (th_n ?_))))))))
  refine Cw_seq (Cw_seq (Cw_region (by kernel_rfl) ?_))
  refine s_move (Fl_nil (th_n ?_))
  refine Cw_meetQ (fun f' w' => (∃ g, f' = sets [(3, .int .i64 ks), (4, .string tk), (5, .string sk), (23, .pointer (some ⟨B, 0, none⟩)), (24, .pointer (some ⟨C, 0, none⟩))] g) ∧ w6 = w') ?_ ?_
  · refine Cw_cond rfl rfl (fun hb => ?_) (fun hb => ?_)
    · obtain ⟨e1, e2, e3⟩ := ends_swap ty hb
      refine Cw_seq (Cw_region (by kernel_rfl) ?_)
      refine s_move (s_nilP rfl (s_field rfl (by kernel_rfl) (s_load rfl (by kernel_rfl) (hC1.cellv (i := 1) (v := .int .i64 (if ty = 3 then 2 else if ty = 2 then 3 else ty)) (by omega) rfl) ?_)))
      refine s_c1 (by kernel_rfl) rfl (ends_any (if ty = 3 then 2 else if ty = 2 then 3 else ty) w6) ?_
      rintro v7 w7 ⟨rfl, rfl⟩
      rw [e1, e2, e3]
      refine s_move (s_extract rfl rfl (s_extract rfl rfl (s_extract rfl rfl (s_assign (s_assign (s_assign (Fl_nil (th_n ?_))))))))
      refine Cw_seq (Cw_region (by kernel_rfl) ?_)
      refine s_move (s_not rfl (s_move (Fl_val rfl r_move (Fl_val rfl r_move (Fl_val rfl (r_neqBF (by kernel_rfl) rfl rfl rfl) ?_)))))
      refine s_pick rfl (s_move (Fl_val rfl r_move (Fl_val rfl r_move (Fl_val rfl (r_neqBF (by kernel_rfl) rfl rfl rfl) ?_))))
      refine s_pick rfl (Fl_nil (th_n ?_))
      exact Cw_false rfl rfl rfl (Cw_skip (th_n ⟨sets_ex _ ⟨rfl, rfl, rfl, rfl, rfl, trivial⟩, rfl⟩))
    · refine Cw_seq (Cw_region (by kernel_rfl) ?_)
      refine s_move (s_nilP rfl (s_field rfl (by kernel_rfl) (s_load rfl (by kernel_rfl) (hC1.cellv (i := 1) (v := .int .i64 ty) (by omega) (congrArg (Value.int .i64) (ends_kept ty hb))) (s_move (Fl_val rfl (r_neqF rfl rfl rfl) (Fl_nil (th_n ?_)))))))
      exact Cw_false rfl rfl rfl (Cw_skip (th_n ⟨sets_ex _ ⟨rfl, rfl, rfl, rfl, rfl, trivial⟩, rfl⟩))
  rintro f w7 ⟨⟨g, rfl⟩, rfl⟩
  -- holders
  refine Cw_seq (Cw_region (by kernel_rfl) ?_)
  refine s_move (s_assign (Fl_nil (th_n ?_)))
  refine Cw_seq (Cw_region (by kernel_rfl) ?_)
  refine s_move ?_
  refine s_c1 (by kernel_rfl) rfl (holder_any ks w6) ?_
  rintro v8 w8 ⟨rfl, rfl⟩
  refine s_assign (Fl_nil (th_n ?_))
  refine Cw_seq (Cw_seq (Cw_region (by kernel_rfl) ?_))
  refine s_move (s_neq rfl rfl (Fl_nil (th_n ?_)))
  refine Cw_meetQ (fun f' w' => (∃ g, f' = sets [(31, .int .i64 ks), (4, .string tk), (5, .string sk), (23, .pointer (some ⟨B, 0, none⟩)), (24, .pointer (some ⟨C, 0, none⟩))] g) ∧ w8 = w') ?_ ?_
  · refine Cw_cond rfl rfl (fun hb => ?_) (fun hb => ?_)
    · have hb := of_decide_eq_true hb
      have hh := hold_swap ks hb
      have hhb : 0 ≤ holdF ks ∧ holdF ks ≤ 2 := hold_rng ks
      refine Cw_seq (Cw_region (by kernel_rfl) ?_)
      refine s_move (s_nilP rfl (s_field rfl (by kernel_rfl) (s_load rfl (by kernel_rfl) (hC1.cellv (i := 4) (v := .int .i64 (if ks = 1 then 2 else if ks = 2 then 1 else ks)) (by omega) rfl) ?_)))
      refine s_c1 (by kernel_rfl) rfl (holder_any (if ks = 1 then 2 else if ks = 2 then 1 else ks) w8) ?_
      rintro v9 w9 ⟨rfl, rfl⟩
      rw [hh]
      refine s_move (s_sub rfl rfl (by omega) (Fl_val rfl (r_neqF rfl rfl rfl) (Fl_nil (th_n ?_))))
      exact Cw_false rfl rfl rfl (Cw_skip (th_n ⟨sets_ex _ ⟨rfl, rfl, rfl, rfl, rfl, trivial⟩, rfl⟩))
    · have hb : holdF ks = 0 := Classical.byContradiction (fun h => (of_decide_eq_false hb) h)
      refine Cw_seq (Cw_region (by kernel_rfl) ?_)
      refine s_move (s_nilP rfl (s_field rfl (by kernel_rfl) (s_load rfl (by kernel_rfl) (hC1.cellv (i := 4) (v := .int .i64 ks) (by omega) (congrArg (Value.int .i64) (hold_kept ks hb))) (s_move (Fl_val rfl (r_neqF rfl rfl rfl) (Fl_nil (th_n ?_)))))))
      exact Cw_false rfl rfl rfl (Cw_skip (th_n ⟨sets_ex _ ⟨rfl, rfl, rfl, rfl, rfl, trivial⟩, rfl⟩))
  rintro f w9 ⟨⟨g, rfl⟩, rfl⟩
  -- KeysIn
  refine Cw_seq (Cw_seq (Cw_region (by kernel_rfl) ?_))
  refine s_move (s_eql rfl rfl (Fl_nil (th_n ?_)))
  refine Cw_meetQ (fun f' w' => (∃ g, f' = sets [(31, .int .i64 ks), (4, .string tk), (5, .string sk), (24, .pointer (some ⟨C, 0, none⟩))] g) ∧ w8.drew = w') ?_ ?_
  · have hS : Ext w8 w8.drew := fun _ _ => rfl
    refine Cw_cond rfl rfl (fun hb => ?_) (fun hb => ?_)
    · have h4 := of_decide_eq_true hb
      refine Cw_seq ?_
      refine Cw_drawn [(0, 0), (1, 0), (2, 0), (3, 1), (4, 0), (5, 0), (6, 0), (7, 1), (8, 1)] [0, 1, 2, 3, 4, 5, 6, 7, 8] (Ext w8) (by kernel_rfl) (by kernel_rfl) (by kernel_rfl) (by kernel_rfl) ?_
      refine o0 rfl rfl (fun _ => r_move) (o0 rfl rfl (fun _ => r_nilP rfl) (o0 rfl rfl (fun _ => r_field0 rfl (by kernel_rfl)) (o1 rfl hS rfl (fun _ hw => r_load rfl (by kernel_rfl) (hw.cell (hC1.cellv (i := 5) (v := .pointer tgt) (by omega) (congrArg Value.pointer (if_pos h4))))) (o0 rfl rfl (fun _ => r_move) (o0 rfl rfl (fun _ => r_nilP rfl) (o0 rfl rfl (fun _ => r_field0 rfl (by kernel_rfl)) (o1 rfl hS rfl (fun _ hw => r_load rfl (by kernel_rfl) (hw.cell (hC1.cellv (i := 2) (v := .pointer tgt) (by omega) rfl))) (o1 rfl hS rfl (fun _ hw => r_neqPF (by kernel_rfl) rfl rfl (pk_ext ht1 hw) (pk_ext ht1 hw) rfl) (Fo_nil (th_n ?_))))))))))
      exact Cw_false rfl rfl rfl (Cw_skip (th_n ⟨sets_ex _ ⟨rfl, rfl, rfl, rfl, trivial⟩, rfl⟩))
    · have h4 := of_decide_eq_false hb
      refine Cw_seq ?_
      refine Cw_drawn [(0, 0), (1, 0), (2, 0), (3, 1), (4, 0), (5, 0), (6, 0), (7, 1), (8, 1)] [0, 1, 2, 3, 4, 5, 6, 7, 8] (Ext w8) (by kernel_rfl) (by kernel_rfl) (by kernel_rfl) (by kernel_rfl) ?_
      refine o0 rfl rfl (fun _ => r_move) (o0 rfl rfl (fun _ => r_nilP rfl) (o0 rfl rfl (fun _ => r_field0 rfl (by kernel_rfl)) (o1 rfl hS rfl (fun _ hw => r_load rfl (by kernel_rfl) (hw.cell (hC1.cellv (i := 5) (v := .pointer kin) (by omega) (congrArg Value.pointer (if_neg h4))))) (o0 rfl rfl (fun _ => r_move) (o0 rfl rfl (fun _ => r_nilP rfl) (o0 rfl rfl (fun _ => r_field0 rfl (by kernel_rfl)) (o1 rfl hS rfl (fun _ hw => r_load rfl (by kernel_rfl) (hw.cell (hB1.cellv (i := 5) (v := .pointer kin) (by omega) rfl))) (o1 rfl hS rfl (fun _ hw => r_neqPF (by kernel_rfl) rfl rfl (pk_ext hn1 hw) (pk_ext hn1 hw) rfl) (Fo_nil (th_n ?_))))))))))
      exact Cw_false rfl rfl rfl (Cw_skip (th_n ⟨sets_ex _ ⟨rfl, rfl, rfl, rfl, trivial⟩, rfl⟩))
  rintro f w9 ⟨⟨g, rfl⟩, rfl⟩
  have hC2 := hC1.drew
  have hk2 : Keeps w2 w8.drew noB := hk1.trans (Keeps.drew w8 noB) (fun _ _ h => h) (fun _ _ h => h)
  generalize w8.drew = w9 at hC2 hk2 ⊢
  -- the key attributes
  refine Cw_seq (Cw_meetQ (fun f' w' => (∃ g, f' = sets [(4, .string tk), (24, .pointer (some ⟨C, 0, none⟩))] g) ∧ w9 = w' ∧ ¬ (ks = 3 ∨ ks = 4)) ?_ ?_)
  · refine Cw_seq (Cw_region (by kernel_rfl) ?_)
    by_cases h3 : ks = 3
    · refine s_move (Fl_val rfl (r_eqlT rfl rfl h3) (s_move (Fl_pass rfl (Fl_pass rfl (s_pick rfl (Fl_nil (th_n ?_)))))))
      refine Cw_true rfl rfl rfl (Cw_seq (Cw_region (by kernel_rfl) ?_))
      refine s_move (s_nilP rfl (s_field rfl (by kernel_rfl) (s_load rfl (by kernel_rfl) (hC2.cellv (i := 6) (v := .string sk) (by omega) (congrArg Value.string (if_pos (Or.inl h3)))) (s_move (Fl_val rfl (r_eqlStrT rfl rfl rfl) (s_move ?_))))))
      refine Fl_val rfl r_move (Fl_val rfl (r_nilP rfl) (Fl_val rfl (r_field0 rfl (by kernel_rfl)) (Fl_val rfl (r_load rfl (by kernel_rfl) (hC2.cellv (i := 7) (v := .string tk) (by omega) (congrArg Value.string (if_pos (Or.inl h3))))) (Fl_val rfl r_move (Fl_val rfl (r_eqlStrT rfl rfl rfl) (s_pick rfl (s_assign (Fl_nil (th_n ?_)))))))))
      exact Cw_ret ⟨rfl, hk2⟩
    by_cases h4 : ks = 4
    · refine s_move (Fl_val rfl (r_eqlF rfl rfl h3) (s_move (Fl_val rfl r_move (Fl_val rfl (r_eqlT rfl rfl h4) (s_pick rfl (Fl_nil (th_n ?_)))))))
      refine Cw_true rfl rfl rfl (Cw_seq (Cw_region (by kernel_rfl) ?_))
      refine s_move (s_nilP rfl (s_field rfl (by kernel_rfl) (s_load rfl (by kernel_rfl) (hC2.cellv (i := 6) (v := .string sk) (by omega) (congrArg Value.string (if_pos (Or.inr h4)))) (s_move (Fl_val rfl (r_eqlStrT rfl rfl rfl) (s_move ?_))))))
      refine Fl_val rfl r_move (Fl_val rfl (r_nilP rfl) (Fl_val rfl (r_field0 rfl (by kernel_rfl)) (Fl_val rfl (r_load rfl (by kernel_rfl) (hC2.cellv (i := 7) (v := .string tk) (by omega) (congrArg Value.string (if_pos (Or.inr h4))))) (Fl_val rfl r_move (Fl_val rfl (r_eqlStrT rfl rfl rfl) (s_pick rfl (s_assign (Fl_nil (th_n ?_)))))))))
      exact Cw_ret ⟨rfl, hk2⟩
    refine s_move (Fl_val rfl (r_eqlF rfl rfl h3) (s_move (Fl_val rfl r_move (Fl_val rfl (r_eqlF rfl rfl h4) (s_pick rfl (Fl_nil (th_n ?_)))))))
    exact Cw_false rfl rfl rfl (Cw_skip (th_n ⟨sets_ex _ ⟨rfl, rfl, trivial⟩, rfl, fun h => h.elim h3 h4⟩))
  rintro f w10 ⟨⟨g, rfl⟩, rfl, hnk⟩
  refine Cw_seq (Cw_region (by kernel_rfl) ?_)
  refine s_move (s_nilP rfl (s_field rfl (by kernel_rfl) (s_load rfl (by kernel_rfl) (hC2.cellv (i := 6) (v := .string tk) (by omega) (congrArg Value.string (if_neg hnk))) (s_move (Fl_val rfl (r_eqlStrT rfl rfl rfl) (s_move ?_))))))
  refine Fl_val rfl r_move (Fl_val rfl (r_nilP rfl) (Fl_val rfl (r_field0 rfl (by kernel_rfl)) (Fl_val rfl (r_load rfl (by kernel_rfl) (hC2.cellv (i := 7) (v := .string e0) (by omega) (congrArg Value.string (if_neg hnk)))) (Fl_val rfl (r_eqlStrT (b := e0) rfl rfl rfl) (s_pick rfl (s_assign (Fl_nil (th_n ?_))))))))
  exact Cw_ret ⟨rfl, hk2⟩
end Go.Proofs.Qxb6000102a

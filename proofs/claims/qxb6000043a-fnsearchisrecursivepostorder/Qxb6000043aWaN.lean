/-
  WALKS, N: zzValidGraph; ZZSearch, ZZOrder, ZZLeft. Own work.
-/
import Derived.Test.Qxb6000043aWaM
namespace Go.Proofs.Qxb6000043a
open Go.Fw Go.Proofs.Qxb6000043a.Pl Go.RowKit
set_option maxRecDepth 10000

section
variable {P : Program} {f : Nat → Value} {w : World} {dst : Option Tmp} {ty : TypeId} {pos : String} {af : Array Edge} {gu : Option (Nat × Bool)}
theorem r_geqT {x y : Operand} {t t' : TypeId} {k : IntKind} {a b : Int} (hx : ev f x = .int k a) (hy : ev f y = .int k b) (h : b ≤ a) : (execOp (ev f) ⟨dst, .binOp .geq t x y t', ty, pos, af, gu⟩).run P w = .ok (.value (.bool true)) w := by
  rw [r_geq hx hy, decide_eq_true h]
theorem r_geqF {x y : Operand} {t t' : TypeId} {k : IntKind} {a b : Int} (hx : ev f x = .int k a) (hy : ev f y = .int k b) (h : ¬ b ≤ a) : (execOp (ev f) ⟨dst, .binOp .geq t x y t', ty, pos, af, gu⟩).run P w = .ok (.value (.bool false)) w := by
  rw [r_geq hx hy, decide_eq_false h]
end

set_option maxHeartbeats 1000000 in
/-- zzValidGraph: true: every edge leads to a transaction of the graph. -/
theorem valid_any (w : World) (v : Value) (n : Nat) (len : Nat → Nat) (c : Nat → Nat → Int) (hv : jrows w v n len c) (hn : n ≤ 1048576) (hlen : ∀ i, i < n → len i ≤ 1048576) (hc : ∀ x i, x < n → i < len x → -2147483648 ≤ c x i ∧ c x i ≤ 2147483647) :
    Calls Try.prog 12 #[v] w fun e w' => ∃ r, e = .returned r ∧ ((r = .bool false ∨ r = .bool true ∧ ∀ x i, x < n → i < len x → 0 ≤ c x i ∧ c x i < n) ∧ Keeps w w' noB) := by
  obtain ⟨a, cap, rfl, ha0, hcell⟩ := hv
  refine enter1 (args := [_]) (R := fun r w' => (r = .bool false ∨ r = .bool true ∧ ∀ x i, x < n → i < len x → 0 ≤ c x i ∧ c x i < n) ∧ Keeps w w' noB) Try.func12 rfl Try.ntmps12 Try.results12 rfl rfl ?_
  refine Cw_seq (Cw_region (by kernel_rfl) ?_)
  refine s_assign (Fl_nil (th_n ?_))
  refine Cw_seq (Cw_region (by kernel_rfl) ?_)
  refine s_move (s_lenS rfl (by kernel_rfl) (s_assign (Fl_nil (th_n ?_))))
  refine Cw_seq (Cw_region (by kernel_rfl) ?_)
  refine s_move (s_make rfl rfl rfl rfl (Nat.le_refl _) slz39 rfl (by omega) (by omega) fun w1 ha1 hk1 hz1 => (s_assign (Fl_nil (th_n ?_))))
  refine Cw_seq (Cw_seq (Cw_region (by kernel_rfl) ?_))
  refine s_assign (Fl_nil (th_n ?_))
  refine Cw_block ?_
  refine Cw_loop (fun m f w' => ∃ g j S, f = sets [(0, .slice a n cap), (3, .int .i64 (n : Int)), (4, .slice (some ⟨w.heap.size, 0, none⟩) n n), (5, .int .i64 ((j : Nat) : Int))] g ∧ j ≤ n ∧ arr w' w.heap.size 3 n (fun k => .int .i64 ((S k : Nat) : Int)) ∧
    (∀ x i, x < j → i < len x → 0 ≤ c x i ∧ c x i < n) ∧ Keeps w w' noB ∧ m = n - j) (n - 0)
    ⟨_, 0, fun _ => 0, sets_known ⟨rfl, rfl, rfl, rfl, trivial⟩, by omega, ha1, fun x i hx => by omega, hk1, rfl⟩ ?_
  clear ha1 hk1 hz1
  rintro m f w' ⟨g, j, S, rfl, hj, hS, hok, hk, rfl⟩
  refine Cw_seq (Cw_seq (Cw_region (by kernel_rfl) ?_))
  refine s_move (s_move (s_lss rfl rfl (Fl_nil (th_n ?_))))
  refine Cw_cond rfl rfl (fun hb => ?_) (fun hb => ?_)
  · have hj' : j < n := by have := of_decide_eq_true hb; omega
    obtain ⟨b, o, u, rfl, hu, hru⟩ := hcell j hj'
    obtain ⟨a2, cap2, rfl, ha2, hcell2⟩ := hru
    have hl := hlen j hj'
    refine Cw_skip (th_n ?_)
    refine Cw_seq (Cw_block ?_)
    refine Cw_seq (Cw_region (by kernel_rfl) ?_)
    refine s_assign (Fl_nil (th_n ?_))
    refine Cw_block ?_
    refine Cw_loop (fun m f w' => ∃ g i S, f = sets [(0, .slice (some ⟨b, o, none⟩) n cap), (3, .int .i64 (n : Int)), (4, .slice (some ⟨w.heap.size, 0, none⟩) n n), (5, .int .i64 ((j : Nat) : Int)), (6, .int .i64 ((i : Nat) : Int))] g ∧ i ≤ len j ∧ arr w' w.heap.size 3 n (fun k => .int .i64 ((S k : Nat) : Int)) ∧
      (∀ i', i' < i → 0 ≤ c j i' ∧ c j i' < n) ∧ Keeps w w' noB ∧ m = len j - i) (len j - 0)
      ⟨_, 0, S, sets_known ⟨rfl, rfl, rfl, rfl, rfl, trivial⟩, by omega, hS, fun i hi => by omega, hk, rfl⟩ ?_
    clear hS hk
    rintro m f w' ⟨g, i, S, rfl, hi, hS, hoki, hk, rfl⟩
    refine Cw_seq (Cw_seq (Cw_region (by kernel_rfl) ?_))
    refine s_move (s_move (s_move (s_indexO rfl rfl rfl hj' (by kernel_rfl) (s_load rfl (by kernel_rfl) (keep_cell hk (fun h => h) hu) (s_lenS rfl (by kernel_rfl) (s_lss rfl rfl (Fl_nil (th_n ?_))))))))
    refine Cw_cond rfl rfl (fun hb => ?_) (fun hb => ?_)
    · have hi' : i < len j := by have := of_decide_eq_true hb; omega
      obtain ⟨b2, o2, rfl, hu2⟩ := hcell2 i hi'
      have hcb := hc j i hj' hi'
      refine Cw_skip (th_n ?_)
      refine Cw_seq (Cw_block ?_)
      refine Cw_seq (Cw_region (by kernel_rfl) ?_)
      refine s_move (s_move (s_indexO rfl rfl rfl hj' (by kernel_rfl) (s_load rfl (by kernel_rfl) (keep_cell hk (fun h => h) hu) (s_move (s_indexO rfl rfl rfl hi' (by kernel_rfl) (s_load rfl (by kernel_rfl) (keep_cell hk (fun h => h) hu2) (s_assign (Fl_nil (th_n ?_)))))))))
      refine Cw_seq (Cw_seq (Cw_region (by kernel_rfl) ?_))
      by_cases h1 : c j i < 0
      · refine s_move (Fl_val rfl (r_lssT rfl rfl h1) (s_move (Fl_pass rfl (Fl_pass rfl (Fl_pass rfl (Fl_pass rfl (s_pick rfl (s_move (Fl_pass rfl (Fl_pass rfl (Fl_pass rfl (Fl_pass rfl (s_pick rfl (Fl_nil (th_n ?_)))))))))))))))
        refine Cw_true rfl rfl rfl (Cw_seq (Cw_region (by kernel_rfl) ?_))
        refine s_assign (Fl_nil (th_n ?_))
        exact Cw_ret ⟨.inl rfl, hk⟩
      by_cases h2 : (n : Int) ≤ c j i
      · refine s_move (Fl_val rfl (r_lssF rfl rfl h1) (s_move (Fl_val rfl r_move (Fl_val rfl (r_conv64 rfl (by kernel_rfl) (by kernel_rfl) (by omega)) (Fl_val rfl r_move (Fl_val rfl (r_geqT rfl rfl h2) (s_pick rfl (s_move (Fl_pass rfl (Fl_pass rfl (Fl_pass rfl (Fl_pass rfl (s_pick rfl (Fl_nil (th_n ?_)))))))))))))))
        refine Cw_true rfl rfl rfl (Cw_seq (Cw_region (by kernel_rfl) ?_))
        refine s_assign (Fl_nil (th_n ?_))
        exact Cw_ret ⟨.inl rfl, hk⟩
      refine s_move (Fl_val rfl (r_lssF rfl rfl h1) (s_move (Fl_val rfl r_move (Fl_val rfl (r_conv64 rfl (by kernel_rfl) (by kernel_rfl) (by omega)) (Fl_val rfl r_move (Fl_val rfl (r_geqF rfl rfl h2) (s_pick rfl (s_move (Fl_val rfl r_move (Fl_val rfl (r_conv64 rfl (by kernel_rfl) (by kernel_rfl) (by omega)) (Fl_val rfl r_move (Fl_val rfl (r_eql rfl rfl) (s_pick rfl (Fl_nil (th_n ?_)))))))))))))))
      refine Cw_cond rfl rfl (fun hd => ?_) (fun hd => ?_)
      · refine Cw_seq (Cw_region (by kernel_rfl) ?_)
        refine s_assign (Fl_nil (th_n ?_))
        exact Cw_ret ⟨.inl rfl, hk⟩
      refine Cw_skip (th_n ?_)
      obtain ⟨y, hy⟩ : ∃ y : Nat, c j i = (y : Int) := ⟨(c j i).toNat, by omega⟩
      have hyn : y < n := by omega
      rw [hy]
      refine Cw_seq (Cw_seq (Cw_region (by kernel_rfl) ?_))
      refine s_move (s_move (s_index rfl rfl rfl hyn (by kernel_rfl) (s_load rfl (by kernel_rfl) (hS.cell hyn) (s_move (s_add rfl rfl (by omega) (s_eql rfl rfl (Fl_nil (th_n ?_))))))))
      refine Cw_cond rfl rfl (fun hd => ?_) (fun hd => ?_)
      · refine Cw_seq (Cw_region (by kernel_rfl) ?_)
        refine s_assign (Fl_nil (th_n ?_))
        exact Cw_ret ⟨.inl rfl, hk⟩
      refine Cw_skip (th_n ?_)
      refine Cw_region (by kernel_rfl) ?_
      refine s_move (s_move (s_move (s_add rfl rfl (by omega) (s_index rfl rfl rfl hyn (by kernel_rfl) (s_store (v := .int .i64 ((j + 1 : Nat) : Int)) rfl rfl (by kernel_rfl) rfl (hS.cell hyn) (hS.frozen y) (Fl_nil (ib_n (th_n ?_))))))))
      refine Cw_region (by kernel_rfl) ?_
      refine s_move (s_add rfl rfl (by omega) (s_assign (Fl_nil (th_n ?_))))
      refine ⟨len j - (i + 1), by omega, _, i + 1, _, sets_known ⟨rfl, rfl, rfl, rfl, rfl, trivial⟩, by omega, arr_setN hS y (j + 1), fun i' hi' => ?_, hk.trans (Keeps.setCell _ _ _) (fun _ _ h => h) (fun q hq h => by have h : q = w.heap.size := h; omega), rfl⟩
      by_cases he : i' = i
      · subst he; omega
      · exact hoki i' (by omega)
    · have hi' : i = len j := by have := of_decide_eq_false hb; omega
      subst hi'
      refine Cw_exit (ex_th (ex_th (ex_in (ib_n (th_n ?_)))))
      refine Cw_region (by kernel_rfl) ?_
      refine s_move (s_add rfl rfl (by omega) (s_assign (Fl_nil (th_n ?_))))
      refine ⟨n - (j + 1), by omega, _, j + 1, _, sets_known ⟨rfl, rfl, rfl, rfl, trivial⟩, by omega, hS, fun x i hx hix => ?_, hk, rfl⟩
      by_cases he : x = j
      · subst he; exact hoki i hix
      · exact hok x i (by omega) hix
  · have hj' : j = n := by have := of_decide_eq_false hb; omega
    subst hj'
    refine Cw_exit (ex_th (ex_th (ex_in (th_n ?_))))
    refine Cw_seq (Cw_region (by kernel_rfl) ?_)
    refine s_assign (Fl_nil (th_n ?_))
    exact Cw_ret ⟨.inr ⟨rfl, hok⟩, hk⟩
end Go.Proofs.Qxb6000043a

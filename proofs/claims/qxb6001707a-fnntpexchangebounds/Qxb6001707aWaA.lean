/-
  WALKS, A: time.Time without a monotonic reading: sec, nsec, stripMono, addSec, Add, Equal, Before, Round. Own work.
-/
import Derived.Test.Qxb6001707aProg
import Derived.Test.Qxb6001707aFwL
namespace Go.Proofs.Qxb6001707a
open Go.Fw
set_option maxRecDepth 10000

/-- The time X nanoseconds from the zero time, no location, no monotonic reading. -/
def tm (X : Int) : List Value := [.int .u64 (X % 1000000000), .int .i64 (X / 1000000000), .pointer none]
theorem oc_tm (X : Int) : ∀ v ∈ tm X, oc v = true := by
  intro v hv
  simp only [tm, List.mem_cons, List.not_mem_nil, or_false] at hv
  rcases hv with rfl | rfl | rfl <;> rfl
theorem r_remZ {P : Program} {f : Nat → Value} {w : World} {dst : Option Tmp} {ty : TypeId} {pos : String} {af : Array Edge} {gu : Option (Nat × Bool)} {x y : Operand} {t t' : TypeId} {k : IntKind} {a b z : Int} (hx : ev f x = .int k a) (hy : ev f y = .int k b) (hb : b ≠ 0) (hz : a.tmod b = z) :
    (execOp (ev f) ⟨dst, .binOp .rem t x y t', ty, pos, af, gu⟩).run P w = .ok (.value (.int k z)) w :=
  r_bin hx hy (fun _ => by simp [eqGuard]) (fun _ => by simp [binOp, Op.intDiv, hb, hz])
theorem s_andAny {P : Program} {ops : Array Oper} {K : (Nat → Value) → World → Prop} {rest : List Oper} {f : Nat → Value} {w : World} {d : Nat} {ty : TypeId} {pos : String} {af : Array Edge} {x y : Operand} {t t' : TypeId} {a b : Int} (hx : ev f x = .int .u64 a) (hy : ev f y = .int .u64 b) (h0 : 0 ≤ a) (h1 : a < 9223372036854775808)
    (h : ∀ c, 0 ≤ c → c < 9223372036854775808 → Fl P ops K rest (upd f d (.int .u64 c)) w) : Fl P ops K (⟨some d, .binOp .and t x y t', ty, pos, af, none⟩ :: rest) f w := by
  obtain ⟨c, hc0, hc1, hr⟩ := r_andAny (P := P) (w := w) (dst := some d) (t := t) (t' := t') (ty := ty) (pos := pos) (af := af) (gu := none) hx hy h0 h1
  exact Fl_val rfl hr (h c hc0 hc1)

theorem sec_any {w : World} {b : Nat} {n s : Int} {p : Value} (hs : sv w b 25 [.int .u64 n, .int .i64 s, p]) (h0 : 0 ≤ n) (h1 : n < 9223372036854775808) :
    Calls Try.prog 17 #[.pointer (some ⟨b, 0, none⟩)] w fun e w' => ∃ v, e = .returned v ∧ (v = .int .i64 s ∧ w' = w) := by
  refine enter1 (args := [_]) (R := fun v w' => v = .int .i64 s ∧ w' = w) Try.func17 rfl Try.ntmps17 Try.results17 rfl rfl ?_
  refine Cw_seq (Cw_region (by kernel_rfl) ?_)
  refine s_assign (Fl_nil (th_n ?_))
  refine Cw_seq (Cw_seq (Cw_region (by kernel_rfl) ?_))
  refine s_move (s_nilP rfl (s_field rfl (by kernel_rfl) (s_load rfl (by kernel_rfl) (hs.cell (k := 0) rfl) (Fl_val rfl (r_andTop rfl h0 h1) (Fl_val rfl (r_neqF rfl rfl rfl) (Fl_nil (th_n ?_)))))))
  refine Cw_false rfl rfl rfl (Cw_skip (th_n ?_))
  refine Cw_seq (Cw_region (by kernel_rfl) ?_)
  refine s_move (s_nilP rfl (s_field rfl (by kernel_rfl) (s_load rfl (by kernel_rfl) (hs.cell (k := 1) rfl) (s_assign (Fl_nil (th_n ?_))))))
  exact Cw_ret ⟨rfl, rfl⟩
theorem nsec_any {w : World} {b : Nat} {n : Int} {s p : Value} (hs : sv w b 25 [.int .u64 n, s, p]) (h0 : 0 ≤ n) (h1 : n < 1073741824) :
    Calls Try.prog 18 #[.pointer (some ⟨b, 0, none⟩)] w fun e w' => ∃ v, e = .returned v ∧ (v = .int .i32 n ∧ w' = w) := by
  refine enter1 (args := [_]) (R := fun v w' => v = .int .i32 n ∧ w' = w) Try.func18 rfl Try.ntmps18 Try.results18 rfl rfl ?_
  refine Cw_seq (Cw_region (by kernel_rfl) ?_)
  refine s_assign (Fl_nil (th_n ?_))
  refine Cw_seq (Cw_region (by kernel_rfl) ?_)
  refine s_move (s_nilP rfl (s_field rfl (by kernel_rfl) (s_load rfl (by kernel_rfl) (hs.cell (k := 0) rfl) (Fl_val rfl (r_andLow rfl h0 h1) (Fl_val rfl (r_convZ rfl (by kernel_rfl) (by kernel_rfl) (wrap_in32 (by omega) (by omega))) (s_assign (Fl_nil (th_n ?_))))))))
  exact Cw_ret ⟨rfl, rfl⟩
theorem strip_any {w : World} {b : Nat} {n : Int} {s p : Value} (hs : sv w b 25 [.int .u64 n, s, p]) (h0 : 0 ≤ n) (h1 : n < 9223372036854775808) :
    Calls Try.prog 20 #[.pointer (some ⟨b, 0, none⟩)] w fun e w' => ∃ v, e = .returned v ∧ w' = w := by
  refine enter0 (args := [_]) (R := fun w' => w' = w) Try.func20 rfl Try.ntmps20 Try.results20 rfl ?_
  refine Cw_seq (Cw_region (by kernel_rfl) ?_)
  refine s_move (s_nilP rfl (s_field rfl (by kernel_rfl) (s_load rfl (by kernel_rfl) (hs.cell (k := 0) rfl) (Fl_val rfl (r_andTop rfl h0 h1) (Fl_val rfl (r_neqF rfl rfl rfl) (Fl_nil (th_n ?_)))))))
  exact Cw_false rfl rfl rfl (Cw_skip rfl)
theorem addSec_any {w : World} {b : Nat} {n s : Int} {p : Value} (hs : sv w b 25 [.int .u64 n, .int .i64 s, p]) (h0 : 0 ≤ n) (h1 : n < 9223372036854775808) (d : Int) (hd : -9223372036854775808 ≤ s + d ∧ s + d ≤ 9223372036854775807) :
    Calls Try.prog 19 #[.pointer (some ⟨b, 0, none⟩), .int .i64 d] w fun e w' => ∃ v, e = .returned v ∧ (sv w' b 25 [.int .u64 n, .int .i64 (s + d), p] ∧ Keeps w w' (fun k => k = b) ∧ w'.heap.size = w.heap.size) := by
  refine enter0 (args := [_, _]) (R := fun w' => sv w' b 25 [.int .u64 n, .int .i64 (s + d), p] ∧ Keeps w w' (fun k => k = b) ∧ w'.heap.size = w.heap.size) Try.func19 rfl Try.ntmps19 Try.results19 rfl ?_
  refine Cw_seq (Cw_seq (Cw_region (by kernel_rfl) ?_))
  refine s_move (s_nilP rfl (s_field rfl (by kernel_rfl) (s_load rfl (by kernel_rfl) (hs.cell (k := 0) rfl) (Fl_val rfl (r_andTop rfl h0 h1) (Fl_val rfl (r_neqF rfl rfl rfl) (Fl_nil (th_n ?_)))))))
  refine Cw_false rfl rfl rfl (Cw_skip (th_n ?_))
  refine Cw_seq (Cw_region (by kernel_rfl) ?_)
  refine s_move (s_nilP rfl (s_field rfl (by kernel_rfl) (s_load rfl (by kernel_rfl) (hs.cell (k := 1) rfl) (s_move (Fl_val rfl (r_addZ rfl rfl (wrap_in64 hd.1 hd.2)) (s_assign (Fl_nil (th_n ?_))))))))
  refine Cw_seq (Cw_region (by kernel_rfl) ?_)
  have hc : (decide (s < s + d) == decide (0 < d)) = true := by
    have : (s < s + d) ↔ (0 < d) := by omega
    simp [this]
  refine s_move (s_move (s_nilP rfl (s_field rfl (by kernel_rfl) (s_load rfl (by kernel_rfl) (hs.cell (k := 1) rfl) (s_gtr rfl rfl (s_move (s_gtr rfl rfl (Fl_val rfl (r_eqlBB (by kernel_rfl) rfl rfl hc) (Fl_nil (th_n ?_))))))))))
  refine Cw_true rfl rfl rfl (Cw_region (by kernel_rfl) ?_)
  refine s_move (s_move (s_nilP rfl (s_field rfl (by kernel_rfl) (s_storeK (cs' := [.int .u64 n, .int .i64 (s + d), p]) rfl rfl (by kernel_rfl) rfl hs (by simp) rfl fun w1 h1 h2 h3 => Fl_nil ?_))))
  exact ⟨h1, h2, h3⟩

set_option maxHeartbeats 1000000 in
theorem add_any (X d : Int) (hX : -36893488147419103232 ≤ X ∧ X ≤ 36893488147419103232) (hd : -9223372036854775808 ≤ d ∧ d ≤ 9223372036854775807) (w : World) :
    Calls Try.prog 11 #[.agg (tm X).toArray, .int .i64 d] w fun e w' => ∃ v, e = .returned v ∧ (v = .agg (tm (X + d)).toArray ∧ Keeps w w' noB) := by
  refine enterR (args := [_, _]) (R := fun v w' => v = .agg (tm (X + d)).toArray ∧ Keeps w w' noB) Try.func11 rfl Try.ntmps11 rfl ?_
  refine Cw_seq (Cw_region (by kernel_rfl) ?_)
  refine s_boxV (cs := tm X) rfl fun w1 hs1 hk1 hz1 => s_allocV (cs := tm 0) (by kernel_rfl) fun w2 ht2 hk2 hz2 => Fl_nil (th_n ?_)
  have hs2 := hs1.keep hk2 (fun h => h)
  have hk02 : Keeps w w2 noB := hk1.on hk2
  obtain ⟨q, hq⟩ : ∃ q, d.tdiv 1000000000 = q := ⟨_, rfl⟩
  obtain ⟨r, hr⟩ : ∃ r, d.tmod 1000000000 = r := ⟨_, rfl⟩
  have e1 := Int.mul_tdiv_add_tmod d 1000000000
  have e2 := Int.tmod_lt_of_pos d (show (0 : Int) < 1000000000 by omega)
  have e3 := Int.lt_tmod_of_pos d (show (0 : Int) < 1000000000 by omega)
  rw [hq, hr] at e1
  rw [hr] at e2 e3
  have hn0 : 0 ≤ X % 1000000000 := by omega
  have hn1 : X % 1000000000 < 1000000000 := by omega
  refine Cw_seq (Cw_region (by kernel_rfl) ?_)
  refine s_move (Fl_val rfl (r_quoZ rfl rfl (by decide) (show IntKind.i64.wrap (d.tdiv 1000000000) = q by rw [hq]; exact wrap_in64 (by omega) (by omega))) (s_assign (Fl_nil (th_n ?_))))
  refine Cw_seq (Cw_region (by kernel_rfl) ?_)
  refine s_cv (by kernel_rfl) rfl (nsec_any hs2 hn0 (by omega)) fun v3 w3 h3 => ?_
  obtain ⟨rfl, rfl⟩ := h3
  refine s_move (Fl_val rfl (r_remZ rfl rfl (by decide) hr) (Fl_val rfl (r_convZ rfl (by kernel_rfl) (by kernel_rfl) (wrap_in32 (z := r) (by omega) (by omega))) (Fl_val rfl (r_addZ rfl rfl (wrap_in32 (z := X % 1000000000 + r) (by omega) (by omega))) (s_assign (Fl_nil (th_n ?_))))))
  refine Cw_seq (Cw_meet (fun f' w' => w' = w3 ∧ ∃ g q' n', f' = sets [(2, .pointer (some ⟨w.heap.size, 0, none⟩)), (4, .pointer (some ⟨w1.heap.size, 0, none⟩)), (5, .int .i64 q'), (6, .int .i32 n')] g ∧ 0 ≤ n' ∧ n' < 1000000000 ∧ X + d = (X / 1000000000 + q') * 1000000000 + n' ∧ -100000000000 ≤ q' ∧ q' ≤ 100000000000) ?_ ?_)
  · refine Cw_seq (Cw_region (by kernel_rfl) ?_)
    refine s_move (s_geq rfl rfl (Fl_nil (th_n ?_)))
    refine Cw_cond rfl rfl (fun hb => ?_) (fun hb => ?_)
    · have hb := of_decide_eq_true hb
      refine Cw_seq (Cw_region (by kernel_rfl) ?_)
      refine s_move (Fl_val rfl (r_addZ rfl rfl (wrap_in64 (z := q + 1) (by omega) (by omega))) (s_assign (Fl_nil (th_n ?_))))
      refine Cw_region (by kernel_rfl) ?_
      refine s_move (Fl_val rfl (r_subZ rfl rfl (wrap_in32 (z := X % 1000000000 + r - 1000000000) (by omega) (by omega))) (s_assign (Fl_nil (th_n ?_))))
      exact ⟨rfl, _, _, _, sets_known ⟨rfl, rfl, rfl, rfl, trivial⟩, by omega, by omega, by omega, by omega, by omega⟩
    · have hb := of_decide_eq_false hb
      refine Cw_seq (Cw_region (by kernel_rfl) ?_)
      refine s_move (s_lss rfl rfl (Fl_nil (th_n ?_)))
      refine Cw_cond rfl rfl (fun hb2 => ?_) (fun hb2 => ?_)
      · have hb2 := of_decide_eq_true hb2
        refine Cw_seq (Cw_region (by kernel_rfl) ?_)
        refine s_move (Fl_val rfl (r_subZ rfl rfl (wrap_in64 (z := q - 1) (by omega) (by omega))) (s_assign (Fl_nil (th_n ?_))))
        refine Cw_region (by kernel_rfl) ?_
        refine s_move (Fl_val rfl (r_addZ rfl rfl (wrap_in32 (z := X % 1000000000 + r + 1000000000) (by omega) (by omega))) (s_assign (Fl_nil (th_n ?_))))
        exact ⟨rfl, _, _, _, sets_known ⟨rfl, rfl, rfl, rfl, trivial⟩, by omega, by omega, by omega, by omega, by omega⟩
      · have hb2 := of_decide_eq_false hb2
        exact Cw_skip (th_n ⟨rfl, _, _, _, sets_known ⟨rfl, rfl, rfl, rfl, trivial⟩, by omega, by omega, by omega, by omega, by omega⟩)
  rintro f' w' ⟨rfl, g, q', n', rfl, h0, h1, he, hq0, hq1⟩
  refine Cw_seq (Cw_region (by kernel_rfl) ?_)
  refine s_field rfl (by kernel_rfl) (s_load rfl (by kernel_rfl) (hs2.cell (k := 0) rfl) (Fl_val rfl (r_andNotLow rfl hn0 (by omega)) (s_move (Fl_val rfl (r_convZ rfl (by kernel_rfl) (by kernel_rfl) (wrap_u64_in (z := n') (by omega) (by omega))) (Fl_val rfl (r_orZero rfl rfl (by omega) (by omega)) ?_)))))
  refine s_field rfl (by kernel_rfl) (s_storeK (cs' := [.int .u64 n', .int .i64 (X / 1000000000), .pointer none]) rfl rfl (by kernel_rfl) rfl hs2 (by show 0 < 3; omega) rfl fun w4 hs4 hk4 hz4 => Fl_nil (th_n ?_))
  refine Cw_seq (Cw_region (by kernel_rfl) ?_)
  refine s_move (s_cv (R := fun _ w' => sv w' w.heap.size 25 [.int .u64 n', .int .i64 (X / 1000000000 + q'), .pointer none] ∧ Keeps w4 w' (fun k => k = w.heap.size) ∧ w'.heap.size = w4.heap.size) (by kernel_rfl) rfl (addSec_any hs4 (by omega) (by omega) q' (by omega)) fun v5 w5 h5 => Fl_nil (th_n ?_))
  obtain ⟨hs5, hk5, hz5⟩ := h5
  refine Cw_seq (Cw_seq (Cw_region (by kernel_rfl) ?_))
  refine s_field rfl (by kernel_rfl) (s_load rfl (by kernel_rfl) (hs5.cell (k := 0) rfl) (Fl_val rfl (r_andTop rfl (by omega) (by omega)) (Fl_val rfl (r_neqF rfl rfl rfl) (Fl_nil (th_n ?_)))))
  refine Cw_false rfl rfl rfl (Cw_skip (th_n ?_))
  have ecs : [Value.int .u64 n', .int .i64 (X / 1000000000 + q'), .pointer none] = tm (X + d) := by
    have a1 : (X + d) % 1000000000 = n' := by omega
    have a2 : (X + d) / 1000000000 = X / 1000000000 + q' := by omega
    rw [tm, a1, a2]
  rw [ecs] at hs5
  have ht5 := (ht2.keep hk4 (by omega)).keep hk5 (by omega)
  refine Cw_seq (Cw_region (by kernel_rfl) ?_)
  refine s_loadV rfl (by kernel_rfl) hs5 (s_storeV (cs := tm 0) (cs' := tm (X + d)) rfl rfl (by kernel_rfl) rfl (oc_tm _) ht5 fun w6 hs6 hk6 _ => Fl_nil (th_n ?_))
  refine Cw_ret ⟨_, resC Try.results11 rfl rfl (by kernel_rfl) hs6, rfl, ?_⟩
  exact ((hk02.into (Nat.le_refl _) hk4).into (Nat.le_refl _) hk5).into (by omega) hk6

theorem equal_any (X Y : Int) (w : World) :
    Calls Try.prog 10 #[.agg (tm X).toArray, .agg (tm Y).toArray] w fun e w' => ∃ v, e = .returned v ∧ (v = .bool (decide (X = Y)) ∧ Keeps w w' noB) := by
  refine enter1 (args := [_, _]) (R := fun v w' => v = .bool (decide (X = Y)) ∧ Keeps w w' noB) Try.func10 rfl Try.ntmps10 Try.results10 rfl rfl ?_
  refine Cw_seq (Cw_region (by kernel_rfl) ?_)
  refine s_boxV (cs := tm X) rfl fun w1 hs1 hk1 hz1 => s_boxV (cs := tm Y) rfl fun w2 ht2 hk2 hz2 => s_assign (Fl_nil (th_n ?_))
  have hs2 := hs1.keep hk2 (fun h => h)
  have hk02 : Keeps w w2 noB := hk1.on hk2
  refine Cw_seq (Cw_seq (Cw_region (by kernel_rfl) ?_))
  refine s_field rfl (by kernel_rfl) (s_load rfl (by kernel_rfl) (hs2.cell (k := 0) rfl) (s_field rfl (by kernel_rfl) (s_load rfl (by kernel_rfl) (ht2.cell (k := 0) rfl) (s_andAny rfl rfl (by omega) (by omega) fun c hc0 hc1 => Fl_val rfl (r_andTop rfl hc0 hc1) (Fl_val rfl (r_neqF rfl rfl rfl) (Fl_nil (th_n ?_)))))))
  refine Cw_false rfl rfl rfl (Cw_skip (th_n ?_))
  refine Cw_seq (Cw_region (by kernel_rfl) ?_)
  refine s_cv (by kernel_rfl) rfl (sec_any hs2 (by omega) (by omega)) fun v3 w3 h3 => ?_
  obtain ⟨rfl, rfl⟩ := h3
  refine s_cv (by kernel_rfl) rfl (sec_any ht2 (by omega) (by omega)) fun v4 w4 h4 => ?_
  obtain ⟨rfl, rfl⟩ := h4
  by_cases h : X / 1000000000 = Y / 1000000000
  · refine Fl_val rfl (r_eqlT rfl rfl h) (s_move (s_cvg rfl (by kernel_rfl) rfl (nsec_any hs2 (by omega) (by omega)) fun v5 w5 h5 => ?_))
    obtain ⟨rfl, rfl⟩ := h5
    refine s_cvg rfl (by kernel_rfl) rfl (nsec_any ht2 (by omega) (by omega)) fun v6 w6 h6 => ?_
    obtain ⟨rfl, rfl⟩ := h6
    refine Fl_val rfl (r_eql rfl rfl) (s_pick rfl (s_assign (Fl_nil (th_n ?_))))
    refine Cw_ret ⟨?_, hk02⟩
    show Value.bool (decide (X % 1000000000 = Y % 1000000000)) = _
    have : (X % 1000000000 = Y % 1000000000) ↔ X = Y := by omega
    rw [decide_eq_decide.2 this]
  · refine Fl_val rfl (r_eqlF rfl rfl h) (s_move (Fl_pass rfl (Fl_pass rfl (Fl_pass rfl (s_pick rfl (s_assign (Fl_nil (th_n ?_))))))))
    refine Cw_ret ⟨?_, hk02⟩
    have : ¬ X = Y := fun e => h (by rw [e])
    rw [decide_eq_false this]
    rfl

theorem before_any (X Y : Int) (w : World) :
    Calls Try.prog 24 #[.agg (tm X).toArray, .agg (tm Y).toArray] w fun e w' => ∃ v, e = .returned v ∧ (v = .bool (decide (X < Y)) ∧ Keeps w w' noB) := by
  refine enter1 (args := [_, _]) (R := fun v w' => v = .bool (decide (X < Y)) ∧ Keeps w w' noB) Try.func24 rfl Try.ntmps24 Try.results24 rfl rfl ?_
  refine Cw_seq (Cw_region (by kernel_rfl) ?_)
  refine s_boxV (cs := tm X) rfl fun w1 hs1 hk1 hz1 => s_boxV (cs := tm Y) rfl fun w2 ht2 hk2 hz2 => s_assign (Fl_nil (th_n ?_))
  have hs2 := hs1.keep hk2 (fun h => h)
  have hk02 : Keeps w w2 noB := hk1.on hk2
  refine Cw_seq (Cw_seq (Cw_region (by kernel_rfl) ?_))
  refine s_field rfl (by kernel_rfl) (s_load rfl (by kernel_rfl) (hs2.cell (k := 0) rfl) (s_field rfl (by kernel_rfl) (s_load rfl (by kernel_rfl) (ht2.cell (k := 0) rfl) (s_andAny rfl rfl (by omega) (by omega) fun c hc0 hc1 => Fl_val rfl (r_andTop rfl hc0 hc1) (Fl_val rfl (r_neqF rfl rfl rfl) (Fl_nil (th_n ?_)))))))
  refine Cw_false rfl rfl rfl (Cw_skip (th_n ?_))
  refine Cw_seq (Cw_region (by kernel_rfl) ?_)
  refine s_cv (by kernel_rfl) rfl (sec_any hs2 (by omega) (by omega)) fun v3 w3 h3 => ?_
  obtain ⟨rfl, rfl⟩ := h3
  refine s_assign (Fl_nil (th_n ?_))
  refine Cw_seq (Cw_region (by kernel_rfl) ?_)
  refine s_cv (by kernel_rfl) rfl (sec_any ht2 (by omega) (by omega)) fun v4 w4 h4 => ?_
  obtain ⟨rfl, rfl⟩ := h4
  refine s_assign (Fl_nil (th_n ?_))
  refine Cw_seq (Cw_region (by kernel_rfl) ?_)
  by_cases h : X / 1000000000 < Y / 1000000000
  · refine s_move (s_move (Fl_val rfl (r_lssT rfl rfl h) (s_move (Fl_pass rfl (Fl_pass rfl (Fl_pass rfl (Fl_pass rfl (Fl_pass rfl (Fl_pass rfl (Fl_pass rfl (Fl_pass rfl (s_pick rfl (s_assign (Fl_nil (th_n ?_)))))))))))))))
    refine Cw_ret ⟨?_, hk02⟩
    have : X < Y := by omega
    rw [decide_eq_true this]
    rfl
  · by_cases h' : X / 1000000000 = Y / 1000000000
    · refine s_move (s_move (Fl_val rfl (r_lssF rfl rfl h) (s_move (Fl_val rfl r_move (Fl_val rfl r_move (Fl_val rfl (r_eqlT rfl rfl h') (Fl_val rfl r_move (s_cvg rfl (by kernel_rfl) rfl (nsec_any hs2 (by omega) (by omega)) fun v5 w5 h5 => ?_))))))))
      obtain ⟨rfl, rfl⟩ := h5
      refine s_cvg rfl (by kernel_rfl) rfl (nsec_any ht2 (by omega) (by omega)) fun v6 w6 h6 => ?_
      obtain ⟨rfl, rfl⟩ := h6
      refine Fl_val rfl (r_lss rfl rfl) (Fl_val rfl (r_pick rfl) (s_pick rfl (s_assign (Fl_nil (th_n ?_)))))
      refine Cw_ret ⟨?_, hk02⟩
      show Value.bool (decide (X % 1000000000 < Y % 1000000000)) = _
      have : (X % 1000000000 < Y % 1000000000) ↔ X < Y := by omega
      rw [decide_eq_decide.2 this]
    · refine s_move (s_move (Fl_val rfl (r_lssF rfl rfl h) (s_move (Fl_val rfl r_move (Fl_val rfl r_move (Fl_val rfl (r_eqlF rfl rfl h') (Fl_val rfl r_move (Fl_pass rfl (Fl_pass rfl (Fl_pass rfl (Fl_val rfl (r_pick rfl) (s_pick rfl (s_assign (Fl_nil (th_n ?_)))))))))))))))
      refine Cw_ret ⟨?_, hk02⟩
      have : ¬ X < Y := by omega
      rw [decide_eq_false this]
      rfl

theorem round_any (X : Int) (w : World) :
    Calls Try.prog 12 #[.agg (tm X).toArray, .int .i64 0] w fun e w' => ∃ v, e = .returned v ∧ (v = .agg (tm X).toArray ∧ Keeps w w' noB) := by
  refine enterR (args := [_, _]) (R := fun v w' => v = .agg (tm X).toArray ∧ Keeps w w' noB) Try.func12 rfl Try.ntmps12 rfl ?_
  refine Cw_seq (Cw_region (by kernel_rfl) ?_)
  refine s_boxV (cs := tm X) rfl fun w1 hs1 hk1 hz1 => s_allocV (cs := tm 0) (by kernel_rfl) fun w2 ht2 hk2 hz2 => Fl_nil (th_n ?_)
  have hs2 := hs1.keep hk2 (fun h => h)
  have hk02 : Keeps w w2 noB := hk1.on hk2
  refine Cw_seq (Cw_region (by kernel_rfl) ?_)
  refine s_cv (R := fun _ w' => w' = w2) (by kernel_rfl) rfl (strip_any hs2 (by omega) (by omega)) fun v3 w3 h3 => ?_
  subst h3
  refine Fl_nil (th_n ?_)
  refine Cw_seq (Cw_seq (Cw_region (by kernel_rfl) ?_))
  refine s_move (Fl_val rfl (r_leqB rfl rfl (c := true) rfl) (Fl_nil (th_n ?_)))
  refine Cw_true rfl rfl rfl (Cw_seq (Cw_region (by kernel_rfl) ?_))
  refine s_loadV rfl (by kernel_rfl) hs2 (s_storeV (cs := tm 0) (cs' := tm X) rfl rfl (by kernel_rfl) rfl (oc_tm _) ht2 fun w6 hs6 hk6 _ => Fl_nil (th_n ?_))
  refine Cw_ret ⟨_, resC Try.results12 rfl rfl (by kernel_rfl) hs6, rfl, ?_⟩
  exact hk02.into (by omega) hk6

theorem at_any (x : Int) (hx : -9223372036854775808 ≤ x ∧ x ≤ 9223372036854775807) (w : World) :
    Calls Try.prog 4 #[.int .i64 x] w fun e w' => ∃ v, e = .returned v ∧ (v = .agg (tm x).toArray ∧ Keeps w w' noB) := by
  refine enterR (args := [_]) (R := fun v w' => v = .agg (tm x).toArray ∧ Keeps w w' noB) Try.func4 rfl Try.ntmps4 rfl ?_
  refine Cw_seq (Cw_region (by kernel_rfl) ?_)
  refine s_allocV (cs := tm 0) (by kernel_rfl) fun w1 hs1 hk1 hz1 => Fl_nil (th_n ?_)
  refine Cw_seq (Cw_region (by kernel_rfl) ?_)
  refine s_allocV (cs := tm 0) (by kernel_rfl) fun w2 ht2 hk2 hz2 => Fl_nil (th_n ?_)
  have hs2 := hs1.keep hk2 (fun h => h)
  have hk02 : Keeps w w2 noB := hk1.on hk2
  have hadd := add_any 0 x (by omega) hx w2
  rw [Int.zero_add] at hadd
  refine Cw_seq (Cw_region (by kernel_rfl) ?_)
  refine s_loadV rfl (by kernel_rfl) ht2 (s_move (s_cv (by kernel_rfl) rfl hadd fun v3 w3 h3 => ?_))
  obtain ⟨rfl, hk3⟩ := h3
  refine s_storeV (cs := tm 0) (cs' := tm x) rfl rfl (by kernel_rfl) rfl (oc_tm _) (hs2.keep hk3 (fun h => h)) fun w6 hs6 hk6 _ => Fl_nil (th_n ?_)
  refine Cw_ret ⟨_, resC Try.results4 rfl rfl (by kernel_rfl) hs6, rfl, ?_⟩
  exact (hk02.on hk3).into (Nat.le_refl _) hk6
end Go.Proofs.Qxb6001707a

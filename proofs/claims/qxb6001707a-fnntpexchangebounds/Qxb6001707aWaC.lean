/-
  WALKS, C: NTPExchange. Own work.
-/
import Derived.Test.Qxb6001707aPlA
namespace Go.Proofs.Qxb6001707a
open Go.Fw
set_option maxRecDepth 10000

section
variable {P : Program} {f : Nat → Value} {w : World} {dst : Option Tmp} {ty : TypeId} {pos : String} {af : Array Edge} {gu : Option (Nat × Bool)}
/-- An array of one-cell elements, its element's place. -/
theorem r_indexArr1 {x ix : Operand} {t : TypeId} {b n i : Nat} {z : Int} {k : IntKind} (hx : ev f x = .pointer (some ⟨b, 0, none⟩)) (hi : ev f ix = .int k z) (hz : z = (i : Int)) (hlt : i < n)
    (ht : arB P t = some (n, 1)) : (execOp (ev f) ⟨dst, .indexAddr t x ix, ty, pos, af, gu⟩).run P w = .ok (.value (.pointer (some ⟨b, i, none⟩))) w := by
  have := r_indexArr (P := P) (f := f) (w := w) (dst := dst) (ty := ty) (pos := pos) (af := af) (gu := gu) hx hi hz hlt ht
  simpa using this
/-- An array's element, the array a value. -/
theorem r_indexV {x ix : Operand} {t e : TypeId} {n s i : Nat} {z : Int} {k : IntKind} {cs : Array Value} {u : Value} (hx : ev f x = .agg cs) (hi : ev f ix = .int k z) (hz : z = (i : Int)) (hlt : i < n)
    (ht : P.underlying t = some (.array n e)) (hs : (match P.info? e with | some j => some j.size | none => none) = some s) (hp : partV P e cs (i * s) = some u) :
    (execOp (ev f) ⟨dst, .index t x ix, ty, pos, af, gu⟩).run P w = .ok (.value u) w := by
  split at hs
  · rename_i inf hinf
    simp only [Option.some.injEq] at hs
    subst hs
    subst hz
    simp [execOp, hx, hi, Instr.index, asIntOf, run_underlying ht, hlt, run_size hinf, run_part hp]
  · cases hs
end
theorem s_storeArr {P : Program} {ops : Array Oper} {K : (Nat → Value) → World → Prop} {rest : List Oper} {f : Nat → Value} {w : World} {ty : TypeId} {pos : String} {af : Array Edge} {x y : Operand} {t e : TypeId} {b i n : Nat} {g : Nat → Value} {v : Value} (hx : ev f x = .pointer (some ⟨b, i, none⟩)) (hy : ev f y = v) (ht : one P t = true) (hv : oc v = true) (ha : arr w b e n g) (hi : i < n)
    (h : ∀ w', arr w' b e n (upd g i v) → Keeps w w' (fun j => j = b) → w'.heap.size = w.heap.size → Fl P ops K rest f w') : Fl P ops K (⟨none, .store t x y, ty, pos, af, none⟩ :: rest) f w :=
  s_store hx hy ht hv (ha.cell hi) (ha.frozen i) (h _ (ha.set i v) (Keeps.setCell w ⟨b, i, none⟩ v) (size_setCell _ _ _))
theorem part3 (x2 x3 x4 : Int) : ∀ i, i < 3 → partV Try.prog 25 (tm x2 ++ (tm x3 ++ tm x4)).toArray (i * 3) = some (.agg (tm (Xf x2 x3 x4 i)).toArray)
  | 0, _ => by kernel_rfl
  | 1, _ => by kernel_rfl
  | 2, _ => by kernel_rfl
def In64 (x : Int) : Prop := -9223372036854775808 ≤ x ∧ x ≤ 9223372036854775807
theorem Xf_r {x2 x3 x4 : Int} (h2 : In64 x2) (h3 : In64 x3) (h4 : In64 x4) : ∀ i, In64 (Xf x2 x3 x4 i)
  | 0 => h2
  | 1 => h3
  | _ + 2 => h4

set_option maxHeartbeats 1000000 in
theorem ntp_any (x1 x2 x3 x4 : Int) (h1 : In64 x1) (h2 : In64 x2) (h3 : In64 x3) (h4 : In64 x4) (w : World) :
    Calls Try.prog 8 #[.agg (tm x1).toArray, .agg (tm x2).toArray, .agg (tm x3).toArray, .agg (tm x4).toArray] w fun e w' => ∃ v, e = .returned v ∧
      (((∃ x, v = .tuple #[.agg (exL 0 0 0 0 0 0).toArray, .iface 55 x]) ∧ ¬ Acc x1 x2 x3 x4 ∨ v = .tuple #[.agg (exL (x3 - x4) (x2 - x1) x1 x2 x3 x4).toArray, .nilIface] ∧ Acc x1 x2 x3 x4) ∧ Keeps w w' noB) := by
  refine enterR (args := [_, _, _, _]) (R := fun v w' => ((∃ x, v = .tuple #[.agg (exL 0 0 0 0 0 0).toArray, .iface 55 x]) ∧ ¬ Acc x1 x2 x3 x4 ∨ v = .tuple #[.agg (exL (x3 - x4) (x2 - x1) x1 x2 x3 x4).toArray, .nilIface] ∧ Acc x1 x2 x3 x4) ∧ Keeps w w' noB) Try.func8 rfl Try.ntmps8 rfl ?_
  refine Cw_seq (Cw_region (by kernel_rfl) ?_)
  refine s_boxV (cs := tm x1) rfl fun w1 k4 hk1 hz1 => s_boxV (cs := tm x2) rfl fun w2 k5 hk2 hz2 => s_boxV (cs := tm x3) rfl fun w3 k6 hk3 hz3 => s_boxV (cs := tm x4) rfl fun w4 k7 hk4 hz4 => s_allocV (cs := exL 0 0 0 0 0 0) (by kernel_rfl) fun w5 k8 hk5 hz5 => s_assign (Fl_nil (th_n ?_))
  replace k4 := k4.keep (hk2.on (hk3.on (hk4.on hk5))) (fun h => h)
  replace k5 := k5.keep (hk3.on (hk4.on hk5)) (fun h => h)
  replace k6 := k6.keep (hk4.on hk5) (fun h => h)
  replace k7 := k7.keep hk5 (fun h => h)
  have hk05 : Keeps w w5 noB := hk1.on (hk2.on (hk3.on (hk4.on hk5)))
  obtain ⟨b4, hb4⟩ : ∃ b, b = w.heap.size := ⟨_, rfl⟩
  obtain ⟨b5, hb5⟩ : ∃ b, b = w1.heap.size := ⟨_, rfl⟩
  obtain ⟨b6, hb6⟩ : ∃ b, b = w2.heap.size := ⟨_, rfl⟩
  obtain ⟨b7, hb7⟩ : ∃ b, b = w3.heap.size := ⟨_, rfl⟩
  obtain ⟨b8, hb8⟩ : ∃ b, b = w4.heap.size := ⟨_, rfl⟩
  rw [← hb4] at k4 ⊢
  rw [← hb5] at k5 ⊢
  rw [← hb6] at k6 ⊢
  rw [← hb7] at k7 ⊢
  rw [← hb8] at k8 ⊢
  have hz : b5 = b4 + 1 ∧ b6 = b4 + 2 ∧ b7 = b4 + 3 ∧ b8 = b4 + 4 ∧ w5.heap.size = b4 + 5 ∧ w.heap.size = b4 := by omega
  clear hz1 hz2 hz3 hz4 hz5 hb4 hb5 hb6 hb7 hb8 hk1 hk2 hk3 hk4 hk5
  -- the four roundings, in whatever order
  refine Cw_seq (Cw_drawn [(0, 1), (2, 1), (4, 1), (6, 1), (1, 2), (3, 2), (5, 2), (7, 2), (8, 2), (9, 2), (10, 2), (11, 2)] [0, 1, 2, 3, 4, 5, 6, 7, 8, 9, 10, 11] (fun w' => sv w' b4 25 (tm x1) ∧ sv w' b5 25 (tm x2) ∧ sv w' b6 25 (tm x3) ∧ sv w' b7 25 (tm x4)) (by kernel_rfl) (by kernel_rfl) (by kernel_rfl) (by kernel_rfl) ?_)
  have hS : sv w5.drew b4 25 (tm x1) ∧ sv w5.drew b5 25 (tm x2) ∧ sv w5.drew b6 25 (tm x3) ∧ sv w5.drew b7 25 (tm x4) := ⟨k4, k5, k6, k7⟩
  have keepS : ∀ {u u' : World}, Keeps u u' noB → (sv u b4 25 (tm x1) ∧ sv u b5 25 (tm x2) ∧ sv u b6 25 (tm x3) ∧ sv u b7 25 (tm x4)) → (sv u' b4 25 (tm x1) ∧ sv u' b5 25 (tm x2) ∧ sv u' b6 25 (tm x3) ∧ sv u' b7 25 (tm x4)) := fun hk h => ⟨h.1.keep hk (fun h => h), h.2.1.keep hk (fun h => h), h.2.2.1.keep hk (fun h => h), h.2.2.2.keep hk (fun h => h)⟩
  refine o1 rfl hS rfl (fun _ hw => r_loadV rfl (by kernel_rfl) hw.1) (o1 rfl hS rfl (fun _ hw => r_loadV rfl (by kernel_rfl) hw.2.1) (o1 rfl hS rfl (fun _ hw => r_loadV rfl (by kernel_rfl) hw.2.2.1) (o1 rfl hS rfl (fun _ hw => r_loadV rfl (by kernel_rfl) hw.2.2.2) (o2c rfl (by kernel_rfl) rfl (round_any x1 w5.drew) fun v6 w6 h6 => ?_))))
  obtain ⟨rfl, hk6⟩ := h6
  refine ⟨fun _ h => keepS hk6 h, ?_⟩
  refine o2c rfl (by kernel_rfl) rfl (round_any x2 w6) fun v7 w7 h7 => ?_
  obtain ⟨rfl, hk7⟩ := h7
  refine ⟨fun _ h => keepS hk7 h, ?_⟩
  refine o2c rfl (by kernel_rfl) rfl (round_any x3 w7) fun v8 w8 h8 => ?_
  obtain ⟨rfl, hk8⟩ := h8
  refine ⟨fun _ h => keepS hk8 h, ?_⟩
  refine o2c rfl (by kernel_rfl) rfl (round_any x4 w8) fun v9 w9 h9 => ?_
  obtain ⟨rfl, hk9⟩ := h9
  refine ⟨fun _ h => keepS hk9 h, ?_⟩
  have hk59 : Keeps w5 w9 noB := (Keeps.drew w5 noB).on (hk6.on (hk7.on (hk8.on hk9)))
  have hz9 := hk59.size
  refine o2sV (cs := tm x1) (cs' := tm x1) rfl rfl rfl (by kernel_rfl) rfl (oc_tm _) (k4.keep hk59 (fun h => h)) fun w10 j4 hk10 => ⟨fun _ h => ⟨j4, h.2.1.keep hk10 (by omega), h.2.2.1.keep hk10 (by omega), h.2.2.2.keep hk10 (by omega)⟩, ?_⟩
  refine o2sV (cs := tm x2) (cs' := tm x2) rfl rfl rfl (by kernel_rfl) rfl (oc_tm _) ((k5.keep hk59 (fun h => h)).keep hk10 (by omega)) fun w11 j5 hk11 => ⟨fun _ h => ⟨h.1.keep hk11 (by omega), j5, h.2.2.1.keep hk11 (by omega), h.2.2.2.keep hk11 (by omega)⟩, ?_⟩
  refine o2sV (cs := tm x3) (cs' := tm x3) rfl rfl rfl (by kernel_rfl) rfl (oc_tm _) (((k6.keep hk59 (fun h => h)).keep hk10 (by omega)).keep hk11 (by omega)) fun w12 j6 hk12 => ⟨fun _ h => ⟨h.1.keep hk12 (by omega), h.2.1.keep hk12 (by omega), j6, h.2.2.2.keep hk12 (by omega)⟩, ?_⟩
  refine o2sV (cs := tm x4) (cs' := tm x4) rfl rfl rfl (by kernel_rfl) rfl (oc_tm _) ((((k7.keep hk59 (fun h => h)).keep hk10 (by omega)).keep hk11 (by omega)).keep hk12 (by omega)) fun w13 j7 hk13 => ⟨fun _ h => ⟨h.1.keep hk13 (by omega), h.2.1.keep hk13 (by omega), h.2.2.1.keep hk13 (by omega), j7⟩, ?_⟩
  refine Fo_nil (th_n ?_)
  have j8 := ((((k8.keep hk59 (fun h => h)).keep hk10 (by omega)).keep hk11 (by omega)).keep hk12 (by omega)).keep hk13 (by omega)
  replace j4 := ((j4.keep hk11 (by omega)).keep hk12 (by omega)).keep hk13 (by omega)
  replace j5 := (j5.keep hk12 (by omega)).keep hk13 (by omega)
  replace j6 := j6.keep hk13 (by omega)
  have hk013 : Keeps w w13 noB := ((((hk05.on hk59).into (by omega) hk10).into (by omega) hk11).into (by omega) hk12).into (by omega) hk13
  have l8 := j8.lt
  clear keepS hS hk59 hk10 hk11 hk12 hk13 hk6 hk7 hk8 hk9 k4 k5 k6 k7 k8
  refine Cw_fr [(4, .pointer (some ⟨b4, 0, none⟩)), (5, .pointer (some ⟨b5, 0, none⟩)), (6, .pointer (some ⟨b6, 0, none⟩)), (7, .pointer (some ⟨b7, 0, none⟩)), (8, .pointer (some ⟨b8, 0, none⟩))] ⟨rfl, rfl, rfl, rfl, rfl, trivial⟩ (fun g => ?_)
  refine Cw_seq (Cw_region (by kernel_rfl) ?_)
  refine s_allocV (cs := [.int .i64 0, .int .i64 0]) (by kernel_rfl) fun w14 k10 hk14 hz14 => Fl_nil (th_n ?_)
  refine Cw_seq (Cw_region (by kernel_rfl) ?_)
  refine s_allocV (cs := [.int .i64 0, .int .i64 0, .int .i64 0]) (by kernel_rfl) fun w15 k11 hk15 hz15 => Fl_nil (th_n ?_)
  replace k10 := k10.keep hk15 (fun h => h)
  obtain ⟨b10, hb10⟩ : ∃ b, b = w13.heap.size := ⟨_, rfl⟩
  obtain ⟨b11, hb11⟩ : ∃ b, b = w14.heap.size := ⟨_, rfl⟩
  rw [← hb10] at k10 ⊢
  rw [← hb11] at k11 ⊢
  have hk1315 : Keeps w13 w15 noB := hk14.on hk15
  have j5' := j5.keep hk1315 (fun h => h)
  have j6' := j6.keep hk1315 (fun h => h)
  have j7' := j7.keep hk1315 (fun h => h)
  refine Cw_seq (Cw_seq (Cw_region (by kernel_rfl) ?_))
  refine s_loadV rfl (by kernel_rfl) j5' (s_loadV rfl (by kernel_rfl) j6' (s_loadV rfl (by kernel_rfl) j7' (s_build (v := .agg (tm x2 ++ (tm x3 ++ tm x4)).toArray) (by kernel_rfl) (s_move (Fl_nil (th_n ?_))))))
  -- the three differences
  refine Cw_block (Cw_loop (fun m f w' => ∃ g i c, f = sets [(4, .pointer (some ⟨b4, 0, none⟩)), (5, .pointer (some ⟨b5, 0, none⟩)), (6, .pointer (some ⟨b6, 0, none⟩)), (7, .pointer (some ⟨b7, 0, none⟩)), (8, .pointer (some ⟨b8, 0, none⟩)), (10, .pointer (some ⟨b10, 0, none⟩)), (11, .pointer (some ⟨b11, 0, none⟩)), (28, .agg (tm x2 ++ (tm x3 ++ tm x4)).toArray), (29, .int .i64 ((i : Nat) : Int))] g ∧ m + i = 3 ∧ Keeps w13 w' noB ∧ b11 < w'.heap.size ∧ sv w' b10 41 [.int .i64 (Ef x1 x2 x3 x4 i), .int .i64 (Lf x1 x2 x3 x4 i)] ∧ arr w' b11 42 3 c ∧ (∀ j, j < i → c j = .int .i64 (Df x1 x2 x3 x4 j)) ∧ Lf x1 x2 x3 x4 i < 9223372036854775807 + Ef x1 x2 x3 x4 i) 3
    ⟨_, 0, _, sets_known ⟨rfl, rfl, rfl, rfl, rfl, rfl, rfl, rfl, rfl, trivial⟩, rfl, hk1315, by omega, k10, k11, (fun j hj => by omega), by simp [Ef, Lf]⟩ ?_)
  rintro m f w' ⟨g, i, c, rfl, hm, hk, hl11, s10, a11, hc, hEL⟩
  refine Cw_seq (Cw_region (by kernel_rfl) ?_)
  refine s_lss rfl rfl (Fl_nil (th_n ?_))
  refine Cw_seq ?_
  refine Cw_cond rfl rfl (fun hb => ?_) (fun hb => ?_)
  · have hi : i < 3 := by have := of_decide_eq_true hb; omega
    refine Cw_skip (th_n ?_)
    refine Cw_seq (Cw_block (Cw_seq (Cw_region (by kernel_rfl) ?_)))
    refine s_move (Fl_val rfl (r_indexV rfl rfl rfl hi (by kernel_rfl) (by kernel_rfl) (part3 x2 x3 x4 i hi)) (s_allocV (cs := tm 0) (by kernel_rfl) fun w16 k13 hk16 hz16 => s_assign (s_storeV (cs := tm 0) (cs' := tm (Xf x2 x3 x4 i)) rfl rfl (by kernel_rfl) rfl (oc_tm _) k13 fun w17 j13 hk17 hz17 => Fl_nil (th_n ?_))))
    have hk1317 : Keeps w13 w17 noB := (hk.on hk16).into (by omega) hk17
    have hk1617 : Keeps w' w17 noB := hk16.into (Nat.le_refl _) hk17
    refine Cw_seq (Cw_region (by kernel_rfl) ?_)
    refine s_move (s_loadV rfl (by kernel_rfl) j13 (s_loadV rfl (by kernel_rfl) (j4.keep hk1317 (fun h => h)) (s_cv (by kernel_rfl) rfl (sub_any (Xf x2 x3 x4 i) x1 (Xf_r h2 h3 h4 i) h1 w17) fun v18 w18 h18 => ?_)))
    obtain ⟨rfl, hk18⟩ := h18
    have a18 := (a11.keep hk1617 (fun h => h)).keep hk18 (fun h => h)
    refine Fl_val rfl (r_indexArr1 rfl rfl rfl hi (by kernel_rfl)) (s_storeArr (v := .int .i64 (Df x1 x2 x3 x4 i)) rfl rfl (by kernel_rfl) rfl a18 hi fun w19 a19 hk19 hz19 => Fl_nil (th_n ?_))
    have s19 := ((s10.keep hk1617 (fun h => h)).keep hk18 (fun h => h)).keep hk19 (by omega)
    have hz18 := hk18.size
    have hk1319 : Keeps w13 w19 noB := (hk1317.on hk18).into (by omega) hk19
    refine Cw_seq (Cw_region (by kernel_rfl) ?_)
    refine s_move (Fl_val rfl (r_indexArr1 rfl rfl rfl hi (by kernel_rfl)) (s_load rfl (by kernel_rfl) (a19.cellv hi (upd_same _ _ _)) (s_cv (by kernel_rfl) rfl (take_any s19 (Ef_r x1 x2 x3 x4 i) (Df_r x1 x2 x3 x4 i).1) fun v20 w20 h20 => ?_)))
    obtain ⟨h20, hk20⟩ := h20
    have hz20 := hk20.size
    have hk1320 : Keeps w13 w20 noB := hk1319.into (by omega) hk20
    have hk020 : Keeps w w20 noB := hk013.on hk1320
    rcases h20 with ⟨rfl, hno⟩ | ⟨rfl, hyes, s20⟩
    · refine s_not rfl (Fl_nil (th_n ?_))
      refine Cw_true rfl rfl rfl (Cw_seq (Cw_region (by kernel_rfl) ?_))
      refine s_build (v := .agg (exL 0 0 0 0 0 0).toArray) (by kernel_rfl) (s_cv (by kernel_rfl) rfl (new_any _ w20) fun v21 w21 h21 => ?_)
      obtain ⟨⟨x, rfl⟩, hk21⟩ := h21
      refine s_storeV (cs := exL 0 0 0 0 0 0) (cs' := exL 0 0 0 0 0 0) rfl rfl (by kernel_rfl) rfl (oc_ex _ _ _ _ _ _) (j8.keep (hk1320.on hk21) (fun h => h)) fun w22 hs22 hk22 _ => s_assign (Fl_nil (th_n ?_))
      exact Cw_ret ⟨_, resC2 Try.results8 rfl rfl rfl (by kernel_rfl) hs22, .inl ⟨⟨x, rfl⟩, plain_take hi hno⟩, (hk020.on hk21).into (by omega) hk22⟩
    · refine s_not rfl (Fl_nil (th_n ?_))
      refine Cw_false rfl rfl rfl (Cw_skip (ib_n (th_n ?_)))
      refine Cw_region (by kernel_rfl) ?_
      refine s_add rfl rfl (by omega) (s_move (Fl_nil (th_n ?_)))
      refine ⟨m - 1, by omega, _, i + 1, _, sets_known ⟨rfl, rfl, rfl, rfl, rfl, rfl, rfl, rfl, rfl, trivial⟩, by omega, hk1320, by omega, s20, a19.keep hk20 (by omega), fun j hj => ?_, hyes⟩
      by_cases hji : j = i
      · subst hji; exact upd_same _ _ _
      · rw [upd_ne _ _ hji]; exact hc j (by omega)
  have hi : i = 3 := by have := of_decide_eq_false hb; omega
  subst hi
  refine Cw_exit (ex_th (ex_th (ex_in (th_n ?_))))
  obtain ⟨e0, e1, e2, hsp⟩ := plain_in hEL
  have hc0 := hc 0 (by omega)
  have hc1 := hc 1 (by omega)
  have hc2 := hc 2 (by omega)
  rw [e0] at hc0
  rw [e1] at hc1
  rw [e2] at hc2
  refine Cw_fr [(4, .pointer (some ⟨b4, 0, none⟩)), (5, .pointer (some ⟨b5, 0, none⟩)), (6, .pointer (some ⟨b6, 0, none⟩)), (7, .pointer (some ⟨b7, 0, none⟩)), (8, .pointer (some ⟨b8, 0, none⟩)), (11, .pointer (some ⟨b11, 0, none⟩))] ⟨rfl, rfl, rfl, rfl, rfl, rfl, trivial⟩ (fun g => ?_)
  refine Cw_seq (Cw_drawn [(0, 0), (1, 1), (2, 0), (3, 1), (4, 0), (5, 1), (6, 0), (7, 0), (8, 0)] [0, 1, 2, 3, 4, 5, 6, 7, 8] (Ext w') (by kernel_rfl) (by kernel_rfl) (by kernel_rfl) (by kernel_rfl) ?_)
  have hS : Ext w' w'.drew := fun _ _ => rfl
  refine o0 rfl rfl (fun _ => r_indexArr1 (i := 0) rfl rfl rfl (show 0 < 3 by omega) (by kernel_rfl)) (o1 rfl hS rfl (fun _ hw => r_load rfl (by kernel_rfl) (hw.cell (a11.cellv (show 0 < 3 by omega) hc0))) ?_)
  refine o0 rfl rfl (fun _ => r_indexArr1 (i := 1) rfl rfl rfl (show 1 < 3 by omega) (by kernel_rfl)) (o1 rfl hS rfl (fun _ hw => r_load rfl (by kernel_rfl) (hw.cell (a11.cellv (show 1 < 3 by omega) hc1))) ?_)
  refine o0 rfl rfl (fun _ => r_indexArr1 (i := 2) rfl rfl rfl (show 2 < 3 by omega) (by kernel_rfl)) (o1 rfl hS rfl (fun _ hw => r_load rfl (by kernel_rfl) (hw.cell (a11.cellv (show 2 < 3 by omega) hc2))) ?_)
  refine o0 rfl rfl (fun _ => r_assign) (o0 rfl rfl (fun _ => r_assign) (o0 rfl rfl (fun _ => r_assign) (Fo_nil (th_n ?_))))
  have hkd : Keeps w13 w'.drew noB := hk.on (Keeps.drew w' noB)
  have hk0d : Keeps w w'.drew noB := hk013.on hkd
  have q4 := j4.keep hkd (fun h => h)
  have q5 := j5.keep hkd (fun h => h)
  have q6 := j6.keep hkd (fun h => h)
  have q7 := j7.keep hkd (fun h => h)
  have q8 := j8.keep hkd (fun h => h)
  refine Cw_fr [(4, .pointer (some ⟨b4, 0, none⟩)), (5, .pointer (some ⟨b5, 0, none⟩)), (6, .pointer (some ⟨b6, 0, none⟩)), (7, .pointer (some ⟨b7, 0, none⟩)), (8, .pointer (some ⟨b8, 0, none⟩)), (14, .int .i64 (x2 - x1)), (15, .int .i64 (x3 - x1)), (16, .int .i64 (x4 - x1))] ⟨rfl, rfl, rfl, rfl, rfl, rfl, rfl, rfl, trivial⟩ (fun g => ?_)
  refine Cw_seq (Cw_block (Cw_seq (Cw_region (by kernel_rfl) ?_)))
  refine s_move (s_move (s_lss rfl rfl (s_assign (Fl_nil (th_n ?_)))))
  refine Cw_cond rfl rfl (fun hb1 => ?_) (fun hb1 => ?_)
  · have hb1 := of_decide_eq_true hb1
    refine Cw_seq (Cw_region (by kernel_rfl) ?_)
    refine s_build (v := .agg (exL 0 0 0 0 0 0).toArray) (by kernel_rfl) (s_cv (by kernel_rfl) rfl (new_any _ w'.drew) fun v21 w21 h21 => ?_)
    obtain ⟨⟨x, rfl⟩, hk21⟩ := h21
    refine s_storeV (cs := exL 0 0 0 0 0 0) (cs' := exL 0 0 0 0 0 0) rfl rfl (by kernel_rfl) rfl (oc_ex _ _ _ _ _ _) (q8.keep hk21 (fun h => h)) fun w22 hs22 hk22 _ => s_assign (Fl_nil (th_n ?_))
    exact Cw_ret ⟨_, resC2 Try.results8 rfl rfl rfl (by kernel_rfl) hs22, .inl ⟨⟨x, rfl⟩, (fun h => by have := h.2.1; omega)⟩, (hk0d.on hk21).into (by omega) hk22⟩
  have hb1 := of_decide_eq_false hb1
  refine Cw_seq (Cw_region (by kernel_rfl) ?_)
  refine s_move (s_move (Fl_val rfl (r_subZ rfl rfl (wrap_in64 (z := x3 - x1 - (x2 - x1)) (by omega) (by omega))) (s_move (s_gtr rfl rfl (s_assign (Fl_nil (th_n ?_)))))))
  refine Cw_cond rfl rfl (fun hb2 => ?_) (fun hb2 => ?_)
  · have hb2 := of_decide_eq_true hb2
    refine Cw_seq (Cw_region (by kernel_rfl) ?_)
    refine s_build (v := .agg (exL 0 0 0 0 0 0).toArray) (by kernel_rfl) (s_cv (by kernel_rfl) rfl (new_any _ w'.drew) fun v21 w21 h21 => ?_)
    obtain ⟨⟨x, rfl⟩, hk21⟩ := h21
    refine s_storeV (cs := exL 0 0 0 0 0 0) (cs' := exL 0 0 0 0 0 0) rfl rfl (by kernel_rfl) rfl (oc_ex _ _ _ _ _ _) (q8.keep hk21 (fun h => h)) fun w22 hs22 hk22 _ => s_assign (Fl_nil (th_n ?_))
    exact Cw_ret ⟨_, resC2 Try.results8 rfl rfl rfl (by kernel_rfl) hs22, .inl ⟨⟨x, rfl⟩, (fun h => by have := h.2.2; omega)⟩, (hk0d.on hk21).into (by omega) hk22⟩
  have hb2 := of_decide_eq_false hb2
  refine Cw_skip (ib_n (th_n ?_))
  have elo : x3 - x1 - (x4 - x1) = x3 - x4 := by omega
  refine Cw_seq (Cw_region (by kernel_rfl) ?_)
  refine s_move (s_move (Fl_val rfl (r_subZ (z := x3 - x4) rfl rfl (by rw [elo]; exact wrap_in64 (by omega) (by omega))) (s_move (s_loadV rfl (by kernel_rfl) q4 (s_loadV rfl (by kernel_rfl) q5 (s_loadV rfl (by kernel_rfl) q6 (s_loadV rfl (by kernel_rfl) q7 ?_)))))))
  refine s_build (v := .agg (exL (x3 - x4) (x2 - x1) x1 x2 x3 x4).toArray) (by kernel_rfl) (s_storeV (cs := exL 0 0 0 0 0 0) (cs' := exL (x3 - x4) (x2 - x1) x1 x2 x3 x4) rfl rfl (by kernel_rfl) rfl (oc_ex _ _ _ _ _ _) q8 fun w22 hs22 hk22 _ => s_assign (Fl_nil (th_n ?_)))
  exact Cw_ret ⟨_, resC2 Try.results8 rfl rfl rfl (by kernel_rfl) hs22, .inr ⟨rfl, hsp, by omega, by omega⟩, hk0d.into (by omega) hk22⟩
end Go.Proofs.Qxb6001707a

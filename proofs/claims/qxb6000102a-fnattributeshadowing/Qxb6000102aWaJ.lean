/-
  WALKS, J: FnAttributeShadowing. Own work.
-/
import Derived.Test.Qxb6000102aWaI
namespace Go.Proofs.Qxb6000102a
open Go.Fw
set_option maxRecDepth 10000

theorem sv_ext {w w' : World} {b : Nat} {e : TypeId} {cs : List Value} (h : sv w b e cs) (hx : Ext w w') : sv w' b e cs := by
  have hl := h.lt
  obtain ⟨c, hc, r⟩ := h
  exact ⟨c, by rw [hx b hl]; exact hc, r⟩
theorem r_eqlStrB {P : Program} {f : Nat → Value} {w : World} {dst : Option Tmp} {ty : TypeId} {pos : String} {af : Array Edge} {gu : Option (Nat × Bool)} {x y : Operand} {t t' : TypeId} {a b : ByteArray} {bb : Bool} (hb : decide (a = b) = bb) (hx : ev f x = .string a) (hy : ev f y = .string b) :
    (execOp (ev f) ⟨dst, .binOp .eql t x y t', ty, pos, af, gu⟩).run P w = .ok (.value (.bool bb)) w := by
  rw [r_eqlStr hx hy, hb]

/-! ### the plain law -/
def aftA (R : Nat → Rw) (n : Nat) (X : Rw) (k : Nat) : Rw := if k < n then R k else X
def befA (R : Nat → Rw) (X : Rw) (k : Nat) : Rw := match k with | 0 => X | k + 1 => R k
theorem aft_some {R : Nat → Rw} {n : Nat} {X : Rw} {nm : ByteArray} {r : Rw} {o : Option Rw} (h : Fst R n nm (some r)) (h2 : Fst (aftA R n X) (n + 1) nm o) : o = some r := by
  obtain ⟨i, hi, hnm, hno, rfl⟩ := h
  refine Fst_one h2 ⟨i, by omega, ?_, fun j hj => ?_, ?_⟩
  · rw [aftA, if_pos hi]; exact hnm
  · rw [aftA, if_pos (by omega)]; exact hno j hj
  · rw [aftA, if_pos hi]
theorem aft_hit {R : Nat → Rw} {n : Nat} {X : Rw} {nm : ByteArray} {o : Option Rw} (h : Fst R n nm none) (hx : X.nm = nm) (h2 : Fst (aftA R n X) (n + 1) nm o) : o = some X := by
  refine Fst_one h2 ⟨n, by omega, ?_, fun j hj => ?_, ?_⟩
  · rw [aftA, if_neg (by omega)]; exact hx
  · rw [aftA, if_pos (by omega)]; exact h j hj
  · rw [aftA, if_neg (by omega)]
theorem aft_miss {R : Nat → Rw} {n : Nat} {X : Rw} {nm : ByteArray} {o : Option Rw} (h : Fst R n nm none) (hx : X.nm ≠ nm) (h2 : Fst (aftA R n X) (n + 1) nm o) : o = none := by
  refine Fst_one h2 (show Fst _ _ _ none from fun j hj => ?_)
  unfold aftA
  split
  · exact h j (by omega)
  · exact hx
theorem bef_hit {R : Nat → Rw} {n : Nat} {X : Rw} {nm : ByteArray} {o : Option Rw} (hx : X.nm = nm) (h2 : Fst (befA R X) (n + 1) nm o) : o = some X :=
  Fst_one h2 ⟨0, by omega, hx, (fun j hj => by omega), rfl⟩
theorem bef_miss {R : Nat → Rw} {n : Nat} {X : Rw} {nm : ByteArray} {o o' : Option Rw} (h : Fst R n nm o) (hx : X.nm ≠ nm) (h2 : Fst (befA R X) (n + 1) nm o') : o' = o := by
  refine Fst_one h2 ?_
  cases o with
  | none =>
    intro j hj
    match j with
    | 0 => exact hx
    | j + 1 => exact h j (by omega)
  | some r =>
    obtain ⟨i, hi, hnm, hno, rfl⟩ := h
    refine ⟨i + 1, by omega, hnm, fun j hj => ?_, rfl⟩
    match j with
    | 0 => exact hx
    | j + 1 => exact hno j (by omega)

set_option maxHeartbeats 1000000 in
theorem f4_any (w : World) (v : Value) (n : Nat) (R : Nat → Rw) (h : rowsA w v n R) (X : Rw) (nm : ByteArray) : Calls Try.prog 4 #[v, .agg (rowL X).toArray, .string nm] w fun e w' => ∃ v, e = .returned v ∧ (v = .bool true ∧ Keeps w w' noB) := by
  have h' := h
  obtain ⟨a, cap, rfl, hnn, hr⟩ := h'
  refine enter1 (args := [_, _, _]) (R := fun v w' => v = .bool true ∧ Keeps w w' noB) Try.func4 rfl Try.ntmps4 Try.results4 rfl rfl ?_
  refine Cw_seq (Cw_region (by kernel_rfl) ?_)
  refine s_boxV (cs := rowL X) rfl fun w1 hsx hk1 hz1 => s_assign (Fl_nil (th_n ?_))
  obtain ⟨bx, hbx⟩ : ∃ bx, bx = w.heap.size := ⟨_, rfl⟩
  rw [← hbx] at hsx ⊢
  refine Cw_seq (Cw_seq (Cw_region (by kernel_rfl) ?_))
  refine s_move (s_loadV rfl (by kernel_rfl) hsx (s_move (s_cv (by kernel_rfl) rfl (bytes14_any w1 _ n R (h.keep hk1) X nm) fun v2 w2 h2 => ?_)))
  obtain ⟨⟨b2, rfl⟩, hk2⟩ := h2
  have hk02 : Keeps w w2 noB := hk1.on hk2
  refine s_not rfl (Fl_nil (th_n ?_))
  refine Cw_cond rfl rfl (fun hb => ?_) (fun hb => ?_)
  · refine Cw_seq (Cw_region (by kernel_rfl) ?_)
    refine s_assign (Fl_nil (th_n ?_))
    exact Cw_ret ⟨rfl, hk02⟩
  refine Cw_skip (th_n ?_)
  refine Cw_seq (Cw_seq (Cw_region (by kernel_rfl) ?_))
  by_cases h0 : (65536 : Int) < (n : Int)
  · refine s_move (s_lenS rfl (by kernel_rfl) (Fl_val rfl (r_gtrT rfl rfl h0) (s_move (Fl_pass rfl (Fl_pass rfl (Fl_pass rfl (s_pick rfl (Fl_nil (th_n ?_)))))))))
    refine Cw_true rfl rfl rfl (Cw_seq (Cw_region (by kernel_rfl) ?_))
    refine s_assign (Fl_nil (th_n ?_))
    exact Cw_ret ⟨rfl, hk02⟩
  refine s_move (s_lenS rfl (by kernel_rfl) (Fl_val rfl (r_gtrF rfl rfl h0) (s_move (Fl_val rfl r_move (Fl_val rfl (r_lenStr rfl (by kernel_rfl)) (Fl_val rfl (r_gtr rfl rfl) (s_pick rfl (Fl_nil (th_n ?_)))))))))
  have hn : n ≤ 65536 := by omega
  refine Cw_cond rfl rfl (fun hb => ?_) (fun hb => ?_)
  · refine Cw_seq (Cw_region (by kernel_rfl) ?_)
    refine s_assign (Fl_nil (th_n ?_))
    exact Cw_ret ⟨rfl, hk02⟩
  refine Cw_skip (th_n ?_)
  refine Cw_fr [(0, .slice a n cap), (2, .string nm), (4, .pointer (some ⟨bx, 0, none⟩))] ⟨rfl, rfl, rfl, trivial⟩ (fun g => ?_)
  have hsx2 := hsx.keep hk2 (fun h => h)
  refine Cw_seq (Cw_seq (Cw_drawn [(0, 0), (2, 1), (5, 0), (6, 0), (1, 2), (3, 2), (4, 0), (7, 0), (8, 0)] [0, 1, 3, 4, 5, 6, 7, 8] (Ext w2) (by kernel_rfl) (by kernel_rfl) (by kernel_rfl) (by kernel_rfl) ?_))
  have hS : Ext w2 w2.drew := fun _ _ => rfl
  refine o0 rfl rfl (fun _ => r_move) (o1 rfl hS rfl (fun _ hw => r_loadV rfl (by kernel_rfl) (sv_ext hsx2 hw)) (o0 rfl rfl (fun _ => r_move) (o0 rfl rfl (fun _ => r_lenStr rfl (by kernel_rfl)) (o2c rfl (by kernel_rfl) rfl (rowsBytes_any w2.drew _ n R (h.keep (hk02.on (Keeps.drew w2 noB))) hn) fun v3 w3 h3 => ?_))))
  obtain ⟨⟨z3, rfl⟩, hk3⟩ := h3
  refine ⟨fun _ _ k hk => hk3.block k hk (fun h => h), ?_⟩
  refine o2c rfl (by kernel_rfl) rfl (rowBytes_any X w3) fun v4 w4 h4 => ?_
  obtain ⟨⟨z4, rfl⟩, hk4⟩ := h4
  refine ⟨fun _ _ k hk => ((Keeps.drew w2 noB).on (hk3.on hk4)).block k hk (fun h => h), ?_⟩
  refine o0 rfl rfl (fun _ => r_addw rfl rfl) (o0 rfl rfl (fun _ => r_addw rfl rfl) (o0 rfl rfl (fun _ => r_gtr rfl rfl) (Fo_nil (th_n ?_))))
  have hk24 : Keeps w2 w4 noB := (Keeps.drew w2 noB).on (hk3.on hk4)
  have hk04 : Keeps w w4 noB := hk02.on hk24
  refine Cw_cond rfl rfl (fun hb => ?_) (fun hb => ?_)
  · refine Cw_seq (Cw_region (by kernel_rfl) ?_)
    refine s_assign (Fl_nil (th_n ?_))
    exact Cw_ret ⟨rfl, hk04⟩
  refine Cw_skip (th_n ?_)
  refine Cw_fr [(0, .slice a n cap), (2, .string nm), (4, .pointer (some ⟨bx, 0, none⟩))] ⟨rfl, rfl, rfl, trivial⟩ (fun g => ?_)
  refine Cw_seq (Cw_region (by kernel_rfl) ?_)
  refine s_move (s_cv (by kernel_rfl) rfl (model_any w4 _ n R (h.keep hk04) hn) fun p w5 h5 => ?_)
  obtain ⟨hm5, hk5⟩ := h5
  refine s_assign (Fl_nil (th_n ?_))
  have hk05 := hk04.on hk5
  have hsx5 := hsx2.keep (hk24.on hk5) (fun h => h)
  refine Cw_seq (Cw_region (by kernel_rfl) ?_)
  refine s_loadV rfl (by kernel_rfl) hsx5 (s_cv (by kernel_rfl) rfl (attr_any X w5) fun v6 w6 h6 => ?_)
  obtain ⟨rfl, hk6⟩ := h6
  refine s_allocV (cs := atL z0) (by kernel_rfl) fun w7 hs7 hk7 hz7 => s_storeV (cs := atL z0) (cs' := atL X) rfl rfl (by kernel_rfl) rfl (oc_at _) hs7 fun w8 hs8 hk8 hz8 => Fl_nil (th_n ?_)
  obtain ⟨b8, hb8⟩ : ∃ b8, b8 = w6.heap.size := ⟨_, rfl⟩
  rw [← hb8] at hs8 ⊢
  have hz6 := hk6.size
  have hz5 := hk05.size
  have hk08 : Keeps w w8 noB := (hk05.on (hk6.on hk7)).into (b := w6.heap.size) (by omega) hk8
  have hk58 : Keeps w5 w8 noB := (hk6.on hk7).into (b := w6.heap.size) (by omega) hk8
  have hsx8 := hsx5.keep hk58 (fun h => h)
  have hm8 := hm5.keep hk58
  have hb8l := hs8.lt
  refine Cw_fr [(0, .slice a n cap), (2, .string nm), (4, .pointer (some ⟨bx, 0, none⟩)), (7, p), (8, .pointer (some ⟨b8, 0, none⟩))] ⟨rfl, rfl, rfl, rfl, rfl, trivial⟩ (fun g => ?_)
  clear hs7 hk7 hz7 hk6 hk5 hk3 hk4 hsx2 hsx5 hS
  refine Cw_seq (Cw_region (by kernel_rfl) ?_)
  refine s_move (s_lenS rfl (by kernel_rfl) (s_add rfl rfl (by omega) (s_makeS (e := 31) (s := 9) (by' := 104) (n := n + 1) (m := n + 1) (z := .agg (atL z0).toArray) rfl rfl (by omega) (by omega) (Nat.le_refl _) (by kernel_rfl) (by omega) (by omega) fun w9 g9 ha9 hk9 hz9 => s_assign (Fl_nil (th_n ?_)))))
  obtain ⟨B1, hB1⟩ : ∃ B, B = w8.heap.size := ⟨_, rfl⟩
  rw [← hB1] at ha9 ⊢
  refine Cw_seq (Cw_region (by kernel_rfl) ?_)
  refine s_move (s_lenS rfl (by kernel_rfl) (s_add rfl rfl (by omega) (s_makeS (e := 31) (s := 9) (by' := 104) (n := n + 1) (m := n + 1) (z := .agg (atL z0).toArray) rfl rfl (by omega) (by omega) (Nat.le_refl _) (by kernel_rfl) (by omega) (by omega) fun w10 g10 ha10 hk10 hz10 => s_assign (Fl_nil (th_n ?_)))))
  obtain ⟨B2, hB2⟩ : ∃ B, B = w9.heap.size := ⟨_, rfl⟩
  rw [← hB2] at ha10 ⊢
  refine Cw_seq (Cw_seq (Cw_region (by kernel_rfl) ?_))
  refine s_assign (Fl_nil (th_n ?_))
  refine Cw_block (Cw_loop (fun m f w' => ∃ g i c d, f = sets [(0, .slice a n cap), (2, .string nm), (4, .pointer (some ⟨bx, 0, none⟩)), (7, p), (8, .pointer (some ⟨b8, 0, none⟩)), (9, .slice (some ⟨B1, 0, none⟩) (n + 1) (n + 1)), (10, .slice (some ⟨B2, 0, none⟩) (n + 1) (n + 1)), (11, .int .i64 ((i : Nat) : Int))] g ∧ m + i = n ∧ Keeps w8 w' noB ∧ arr w' B1 31 ((n + 1) * 9) c ∧ arr w' B2 31 ((n + 1) * 9) d ∧ (∀ k, k < i → ∀ j, j < 9 → c (k * 9 + j) = (atL (R k)).getD j undef) ∧ (∀ k, k < i → ∀ j, j < 9 → d ((k + 1) * 9 + j) = (atL (R k)).getD j undef)) n
    ⟨_, 0, _, _, sets_known ⟨rfl, rfl, rfl, rfl, rfl, rfl, rfl, rfl, trivial⟩, rfl, hk9.on hk10, ha9.keep hk10 (fun h => h), ha10, (fun k hk => by omega), (fun k hk => by omega)⟩ ?_)
  rintro m f w' ⟨g, i, c, d, rfl, hm, hk, hac, had, hgc, hgd⟩
  refine Cw_seq (Cw_seq (Cw_region (by kernel_rfl) ?_))
  refine s_move (s_move (s_lenS rfl (by kernel_rfl) (s_lss rfl rfl (Fl_nil (th_n ?_)))))
  have hl9 : ∀ r, (atL r).length = 9 := fun _ => rfl
  refine Cw_cond rfl rfl (fun hb => ?_) (fun hb => ?_)
  · have hi : i < n := by have := of_decide_eq_true hb; omega
    refine Cw_skip (th_n ?_)
    refine Cw_seq (Cw_block (Cw_seq (Cw_region (by kernel_rfl) ?_)))
    obtain ⟨b, o, rfl, hc⟩ := hr i hi
    refine s_move (s_move (s_move (s_move (s_indexS rfl rfl rfl hi (by kernel_rfl) (s_loadA (cs := rowL (R i)) rfl (by kernel_rfl) (fun j u hu => keep_cell (hk08.on hk) (fun h => h) (hc j u hu)) (s_cv (by kernel_rfl) rfl (attr_any (R i) w') fun v1 w11 h11 => ?_))))))
    obtain ⟨rfl, hk11⟩ := h11
    refine s_indexS rfl rfl rfl (show i < n + 1 by omega) (by kernel_rfl) (s_storeS (cs := atL (R i)) rfl rfl (by kernel_rfl) (hac.keep hk11 (fun h => h)) (by show 0 + i * 9 + 9 ≤ (n + 1) * 9; omega) (oc_at _) fun w12 hac12 hk12 => Fl_nil (th_n ?_))
    have had12 := (had.keep hk11 (fun h => h)).keep hk12 (by omega)
    have hk812 : Keeps w8 w12 noB := (hk.on hk11).into (by omega) hk12
    refine Cw_fr [(0, .slice (some ⟨b, o, none⟩) n cap), (2, .string nm), (4, .pointer (some ⟨bx, 0, none⟩)), (7, p), (8, .pointer (some ⟨b8, 0, none⟩)), (9, .slice (some ⟨B1, 0, none⟩) (n + 1) (n + 1)), (10, .slice (some ⟨B2, 0, none⟩) (n + 1) (n + 1)), (11, .int .i64 ((i : Nat) : Int))] ⟨rfl, rfl, rfl, rfl, rfl, rfl, rfl, rfl, trivial⟩ (fun g => ?_)
    refine Cw_region (by kernel_rfl) ?_
    refine s_move (s_move (s_add rfl rfl (by omega) (s_move (s_move (s_indexS rfl rfl rfl hi (by kernel_rfl) (s_loadA (cs := rowL (R i)) rfl (by kernel_rfl) (fun j u hu => keep_cell (hk08.on hk812) (fun h => h) (hc j u hu)) (s_cv (by kernel_rfl) rfl (attr_any (R i) w12) fun v1 w13 h13 => ?_)))))))
    obtain ⟨rfl, hk13⟩ := h13
    refine s_indexS (i := i + 1) rfl rfl (by omega) (by omega) (by kernel_rfl) (s_storeS (cs := atL (R i)) rfl rfl (by kernel_rfl) (had12.keep hk13 (fun h => h)) (by show 0 + (i + 1) * 9 + 9 ≤ (n + 1) * 9; omega) (oc_at _) fun w14 had14 hk14 => Fl_nil (ib_n (th_n ?_)))
    have hac14 := (hac12.keep hk13 (fun h => h)).keep hk14 (by omega)
    have hk814 : Keeps w8 w14 noB := (hk812.on hk13).into (by omega) hk14
    refine Cw_region (by kernel_rfl) ?_
    refine s_move (s_add rfl rfl (by omega) (s_assign (Fl_nil (th_n ?_))))
    refine ⟨m - 1, by omega, _, i + 1, _, _, sets_known ⟨rfl, rfl, rfl, rfl, rfl, rfl, rfl, rfl, trivial⟩, by omega, hk814, hac14, had14, fun k hk j hj => ?_, fun k hk j hj => ?_⟩
    · rw [hl9]
      by_cases hki : k = i
      · subst hki
        rw [if_pos (by omega), show k * 9 + j - (0 + k * 9) = j by omega]
      · rw [if_neg (by omega)]
        exact hgc k (by omega) j hj
    · rw [hl9]
      by_cases hki : k = i
      · subst hki
        rw [if_pos (by omega), show (k + 1) * 9 + j - (0 + (k + 1) * 9) = j by omega]
      · rw [if_neg (by omega)]
        exact hgd k (by omega) j hj
  have hi : i = n := by have := of_decide_eq_false hb; omega
  subst hi
  refine Cw_exit (ex_th (ex_th (ex_in (th_n ?_))))
  refine Cw_fr [(0, .slice a i cap), (2, .string nm), (4, .pointer (some ⟨bx, 0, none⟩)), (7, p), (8, .pointer (some ⟨b8, 0, none⟩)), (9, .slice (some ⟨B1, 0, none⟩) (i + 1) (i + 1)), (10, .slice (some ⟨B2, 0, none⟩) (i + 1) (i + 1))] ⟨rfl, rfl, rfl, rfl, rfl, rfl, rfl, trivial⟩ (fun g => ?_)
  refine Cw_seq (Cw_region (by kernel_rfl) ?_)
  refine s_move (s_move (s_lenS rfl (by kernel_rfl) (s_loadV rfl (by kernel_rfl) (hs8.keep hk (fun h => h)) (s_indexS rfl rfl rfl (show i < i + 1 by omega) (by kernel_rfl) (s_storeS (cs := atL X) rfl rfl (by kernel_rfl) hac (by show 0 + i * 9 + 9 ≤ (i + 1) * 9; omega) (oc_at _) fun w15 hac15 hk15 => Fl_nil (th_n ?_))))))
  have hk815 : Keeps w8 w15 noB := hk.into (by omega) hk15
  refine Cw_seq (Cw_region (by kernel_rfl) ?_)
  refine s_move (s_loadV rfl (by kernel_rfl) (hs8.keep hk815 (fun h => h)) (s_indexS (i := 0) rfl rfl rfl (by omega) (by kernel_rfl) (s_storeS (cs := atL X) rfl rfl (by kernel_rfl) (had.keep hk15 (by omega)) (by show 0 + 0 * 9 + 9 ≤ (i + 1) * 9; omega) (oc_at _) fun w16 had16 hk16 => Fl_nil (th_n ?_))))
  have hk816 : Keeps w8 w16 noB := hk815.into (by omega) hk16
  have hac16 := hac15.keep hk16 (by omega)
  have hA1 : atsA w16 (.slice (some ⟨B1, 0, none⟩) (i + 1) (i + 1)) (i + 1) (aftA R i X) := by
    refine atsA_of hac16 (Nat.le_refl _) (fun k hk j hj => ?_) _
    rw [hl9]
    by_cases hki : k = i
    · subst hki
      rw [if_pos (by omega), show k * 9 + j - (0 + k * 9) = j by omega, aftA, if_neg (by omega)]
    · rw [if_neg (by omega), aftA, if_pos (by omega)]
      exact hgc k (by omega) j hj
  have hA2 : atsA w16 (.slice (some ⟨B2, 0, none⟩) (i + 1) (i + 1)) (i + 1) (befA R X) := by
    refine atsA_of had16 (Nat.le_refl _) (fun k hk j hj => ?_) _
    rw [hl9]
    match k, hk with
    | 0, _ => rw [if_pos (by omega), show 0 * 9 + j - (0 + 0 * 9) = j by omega]; rfl
    | k + 1, hk =>
      rw [if_neg (by omega)]
      exact hgd k (by omega) j hj
  have hs16 := hs8.keep hk816 (fun h => h)
  have hsx16 := hsx8.keep hk816 (fun h => h)
  have hm16 := hm8.keep hk816
  have hk016 : Keeps w w16 noB := hk08.on hk816
  have hbx16 := hsx16.lt
  have hb816 := hs16.lt
  have hB116 := hac16.lt
  have hB216 := had16.lt
  have hw016 := hk016.size
  clear hac hac15 hac16 had had16 hgc hgd hk815 hk15 hk16 hk8 hk9 hk10 ha9 ha10
  refine Cw_fr [(2, .string nm), (4, .pointer (some ⟨bx, 0, none⟩)), (7, p), (8, .pointer (some ⟨b8, 0, none⟩)), (9, .slice (some ⟨B1, 0, none⟩) (i + 1) (i + 1)), (10, .slice (some ⟨B2, 0, none⟩) (i + 1) (i + 1))] ⟨rfl, rfl, rfl, rfl, rfl, rfl, trivial⟩ (fun g => ?_)
  -- the three answers
  refine Cw_seq (Cw_region (by kernel_rfl) ?_)
  refine s_move (s_move (s_cv (by kernel_rfl) rfl (find_any w16 p i R nm hm16 (by omega)) fun v17 w17 h17 => ?_))
  obtain ⟨o1, hF1, rfl, hk17⟩ := h17
  refine s_move (s_extract rfl rfl (s_extract rfl rfl (s_allocV (cs := atL z0) (by kernel_rfl) fun w18 hs18 hk18 hz18 => s_storeV (cs := atL z0) (cs' := atL (o1.getD z0)) rfl rfl (by kernel_rfl) rfl (oc_at _) hs18 fun w19 hs19 hk19 hz19 => s_assign (Fl_nil (th_n ?_)))))
  obtain ⟨b12, hb12⟩ : ∃ b, b = w17.heap.size := ⟨_, rfl⟩
  rw [← hb12] at hs19 ⊢
  have hz17 := hk17.size
  have hk1619 : Keeps w16 w19 noB := (hk17.on hk18).into (b := w17.heap.size) (by omega) hk19
  refine Cw_fr [(2, .string nm), (4, .pointer (some ⟨bx, 0, none⟩)), (8, .pointer (some ⟨b8, 0, none⟩)), (9, .slice (some ⟨B1, 0, none⟩) (i + 1) (i + 1)), (10, .slice (some ⟨B2, 0, none⟩) (i + 1) (i + 1)), (12, .pointer (some ⟨b12, 0, none⟩)), (13, .bool o1.isSome)] ⟨rfl, rfl, rfl, rfl, rfl, rfl, rfl, trivial⟩ (fun g => ?_)
  refine Cw_seq (Cw_region (by kernel_rfl) ?_)
  refine s_move (s_build (v := .agg (mdL (.slice (some ⟨B1, 0, none⟩) (i + 1) (i + 1))).toArray) (by kernel_rfl) (s_boxV (cs := mdL (.slice (some ⟨B1, 0, none⟩) (i + 1) (i + 1))) rfl fun w20 hs20 hk20 hz20 => s_move (s_cv (by kernel_rfl) rfl (find_any w20 _ (i + 1) (aftA R i X) nm ⟨_, _, rfl, hs20.cell (k := 4) rfl, hA1.keep (hk1619.on hk20)⟩ (by omega)) fun v21 w21 h21 => ?_)))
  obtain ⟨o2, hF2, rfl, hk21⟩ := h21
  refine s_move (s_extract rfl rfl (s_extract rfl rfl (s_allocV (cs := atL z0) (by kernel_rfl) fun w22 hs22 hk22 hz22 => s_storeV (cs := atL z0) (cs' := atL (o2.getD z0)) rfl rfl (by kernel_rfl) rfl (oc_at _) hs22 fun w23 hs23 hk23 hz23 => s_assign (Fl_nil (th_n ?_)))))
  obtain ⟨b14, hb14⟩ : ∃ b, b = w21.heap.size := ⟨_, rfl⟩
  rw [← hb14] at hs23 ⊢
  have hz21 := hk21.size
  have hk1923 : Keeps w19 w23 noB := (hk20.on (hk21.on hk22)).into (b := w21.heap.size) (by omega) hk23
  have hk1623 := hk1619.on hk1923
  have hs19_23 := hs19.keep hk1923 (fun h => h)
  refine Cw_fr [(2, .string nm), (4, .pointer (some ⟨bx, 0, none⟩)), (8, .pointer (some ⟨b8, 0, none⟩)), (10, .slice (some ⟨B2, 0, none⟩) (i + 1) (i + 1)), (12, .pointer (some ⟨b12, 0, none⟩)), (13, .bool o1.isSome), (14, .pointer (some ⟨b14, 0, none⟩)), (15, .bool o2.isSome)] ⟨rfl, rfl, rfl, rfl, rfl, rfl, rfl, rfl, trivial⟩ (fun g => ?_)
  refine Cw_seq (Cw_region (by kernel_rfl) ?_)
  refine s_move (s_build (v := .agg (mdL (.slice (some ⟨B2, 0, none⟩) (i + 1) (i + 1))).toArray) (by kernel_rfl) (s_boxV (cs := mdL (.slice (some ⟨B2, 0, none⟩) (i + 1) (i + 1))) rfl fun w24 hs24 hk24' hz24 => s_move (s_cv (by kernel_rfl) rfl (find_any w24 _ (i + 1) (befA R X) nm ⟨_, _, rfl, hs24.cell (k := 4) rfl, hA2.keep (hk1623.on hk24')⟩ (by omega)) fun v25 w25 h25 => ?_)))
  obtain ⟨o3, hF3, rfl, hk25⟩ := h25
  refine s_move (s_extract rfl rfl (s_extract rfl rfl (s_allocV (cs := atL z0) (by kernel_rfl) fun w26 hs26 hk26 hz26 => s_storeV (cs := atL z0) (cs' := atL (o3.getD z0)) rfl rfl (by kernel_rfl) rfl (oc_at _) hs26 fun w27 hs27 hk27 hz27 => s_assign (Fl_nil (th_n ?_)))))
  obtain ⟨b16, hb16⟩ : ∃ b, b = w25.heap.size := ⟨_, rfl⟩
  rw [← hb16] at hs27 ⊢
  have hz25 := hk25.size
  have hz23' := hk1623.size
  have hk2327 : Keeps w23 w27 noB := (hk24'.on (hk25.on hk26)).into (b := w25.heap.size) (by omega) hk27
  have g12 := hs19_23.keep hk2327 (fun h => h)
  have g14 := hs23.keep hk2327 (fun h => h)
  have g8 := hs16.keep (hk1623.on hk2327) (fun h => h)
  have gx := hsx16.keep (hk1623.on hk2327) (fun h => h)
  have hk027 : Keeps w w27 noB := hk016.on (hk1623.on hk2327)
  clear hs18 hk18 hk19 hs20 hk20 hk21 hk22 hk23 hs22 hs24 hk24' hk25 hk26 hk27 hs26
  refine Cw_fr [(2, .string nm), (4, .pointer (some ⟨bx, 0, none⟩)), (8, .pointer (some ⟨b8, 0, none⟩)), (12, .pointer (some ⟨b12, 0, none⟩)), (13, .bool o1.isSome), (14, .pointer (some ⟨b14, 0, none⟩)), (15, .bool o2.isSome), (16, .pointer (some ⟨b16, 0, none⟩)), (17, .bool o3.isSome)] ⟨rfl, rfl, rfl, rfl, rfl, rfl, rfl, rfl, rfl, trivial⟩ (fun g => ?_)
  obtain ⟨hit, hh⟩ : ∃ hit, decide (X.nm = nm) = hit := ⟨_, rfl⟩
  refine Cw_seq (Cw_region (by kernel_rfl) ?_)
  refine s_field rfl (by kernel_rfl) (s_load rfl (by kernel_rfl) (gx.cell rfl) (s_move (Fl_val rfl (r_eqlStrB hh rfl rfl) (s_assign (Fl_nil (th_n ?_))))))
  refine Cw_seq (Cw_meet (fun f' w' => w' = w27 ∧ ∃ g, f' = sets [(8, .pointer (some ⟨b8, 0, none⟩)), (12, .pointer (some ⟨b12, 0, none⟩)), (13, .bool o1.isSome), (16, .pointer (some ⟨b16, 0, none⟩)), (17, .bool o3.isSome), (18, .bool hit)] g) ?_ ?_)
  · refine Cw_seq (Cw_region (by kernel_rfl) ?_)
    refine s_move (Fl_nil (th_n ?_))
    cases o1 with
    | some r =>
      obtain rfl := aft_some hF1 hF2
      refine Cw_true rfl rfl rfl (Cw_seq (Cw_region (by kernel_rfl) ?_))
      refine s_move (s_not rfl (s_move (Fl_val rfl (r_loadV rfl (by kernel_rfl) g14) (Fl_val rfl (r_loadV rfl (by kernel_rfl) g12) (Fl_val rfl (r_neqA (by kernel_rfl) (by kernel_rfl) rfl rfl) (s_pick rfl (Fl_nil (th_n ?_))))))))
      exact Cw_false rfl rfl rfl (Cw_skip (th_n ⟨rfl, _, sets_known ⟨rfl, rfl, rfl, rfl, rfl, rfl, trivial⟩⟩))
    | none =>
      refine Cw_false rfl rfl rfl (Cw_seq (Cw_region (by kernel_rfl) ?_))
      refine s_move (Fl_nil (th_n ?_))
      cases hit with
      | true =>
        obtain rfl := aft_hit hF1 (of_decide_eq_true hh) hF2
        refine Cw_true rfl rfl rfl (Cw_seq (Cw_region (by kernel_rfl) ?_))
        refine s_move (s_not rfl (s_move (Fl_val rfl (r_loadV rfl (by kernel_rfl) g14) (Fl_val rfl (r_loadV rfl (by kernel_rfl) g8) (Fl_val rfl (r_neqA (by kernel_rfl) (by kernel_rfl) rfl rfl) (s_pick rfl (Fl_nil (th_n ?_))))))))
        exact Cw_false rfl rfl rfl (Cw_skip (th_n ⟨rfl, _, sets_known ⟨rfl, rfl, rfl, rfl, rfl, rfl, trivial⟩⟩))
      | false =>
        obtain rfl := aft_miss hF1 (of_decide_eq_false hh) hF2
        refine Cw_false rfl rfl rfl (Cw_seq (Cw_region (by kernel_rfl) ?_))
        refine s_move (s_move (Fl_val rfl (r_loadV rfl (by kernel_rfl) g14) (Fl_val rfl (r_build (v := .agg (atL z0).toArray) (by kernel_rfl)) (Fl_val rfl (r_neqA (by kernel_rfl) (by kernel_rfl) rfl rfl) (s_pick rfl (Fl_nil (th_n ?_)))))))
        exact Cw_false rfl rfl rfl (Cw_skip (th_n ⟨rfl, _, sets_known ⟨rfl, rfl, rfl, rfl, rfl, rfl, trivial⟩⟩))
  rintro f' w' ⟨rfl, g, rfl⟩
  refine Cw_seq (Cw_seq (Cw_region (by kernel_rfl) ?_))
  refine s_move (Fl_nil (th_n ?_))
  cases hit with
  | true =>
    obtain rfl := bef_hit (of_decide_eq_true hh) hF3
    refine Cw_true rfl rfl rfl (Cw_seq (Cw_region (by kernel_rfl) ?_))
    refine s_move (s_move (Fl_val rfl (r_loadV rfl (by kernel_rfl) hs27) (Fl_val rfl (r_loadV rfl (by kernel_rfl) g8) (Fl_val rfl (r_eqlA (by kernel_rfl) (by kernel_rfl) rfl rfl) (s_pick rfl (s_assign (Fl_nil (th_n ?_))))))))
    exact Cw_ret ⟨rfl, hk027⟩
  | false =>
    obtain rfl := bef_miss hF1 (of_decide_eq_false hh) hF3
    refine Cw_false rfl rfl rfl (Cw_skip (th_n ?_))
    refine Cw_seq (Cw_region (by kernel_rfl) ?_)
    refine s_move (s_move (Fl_val rfl (r_eqlBT (by kernel_rfl) rfl rfl) (s_move (Fl_val rfl (r_loadV rfl (by kernel_rfl) hs27) (Fl_val rfl (r_loadV rfl (by kernel_rfl) g12) (Fl_val rfl (r_eqlA (by kernel_rfl) (by kernel_rfl) rfl rfl) (s_pick rfl (s_assign (Fl_nil (th_n ?_))))))))))
    exact Cw_ret ⟨rfl, hk027⟩
end Go.Proofs.Qxb6000102a

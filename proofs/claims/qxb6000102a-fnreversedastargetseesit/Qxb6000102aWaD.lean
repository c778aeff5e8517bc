/-
  WALKS, D: the law FnReversedTwiceRestoresLinks. Own work.
-/
import Derived.Test.Qxb6000102aWaC
import Derived.Test.Qxb6000102aFwI
namespace Go.Proofs.Qxb6000102a
open Go.Fw Go.RowKit
set_option maxRecDepth 10000

def asL (a : As) : List Value := [.string a.nm, .int .i64 a.ty, .pointer a.src, .pointer a.tgt, .int .i64 a.ks, .pointer a.kin, .string a.tk, .string a.sk, .string a.rv, .string a.lb, .string a.sb, .string e0, .string e0, .string e0]
theorem as_cells {w : World} {B : Nat} {a : As} (h : arr w B 54 14 (asF a)) (j : Nat) (v : Value) (hj : (asL a)[j]? = some v) : w.cell? ⟨B, 0 + j, none⟩ = some v := by
  have hl : j < 14 := (List.getElem?_eq_some_iff.1 hj).1
  rw [Nat.zero_add, h.cell hl]
  match j, hl with
  | 0, _ | 1, _ | 2, _ | 3, _ | 4, _ | 5, _ | 6, _ | 7, _ | 8, _ | 9, _ | 10, _ | 11, _ | 12, _ | 13, _ => exact hj
theorem pk_arr {w : World} {B n : Nat} {e : TypeId} {g : Nat → Value} (h : arr w B e n g) : pk w (some ⟨B, 0, none⟩) := fun a ha => by
  cases ha
  obtain ⟨c, hc, _⟩ := h
  exact ⟨B, c, e, rfl, hc⟩
theorem pk_ext {w w' : World} {p : Option Addr} (h : pk w p) (he : Ext w w') : pk w' p := fun a ha => by
  obtain ⟨b, c, t, h1, h2⟩ := h a ha
  exact ⟨b, c, t, h1, (he b (Array.getElem?_eq_some_iff.1 h2).1).trans h2⟩
/-- The ways that go on meet; the others keep their end. -/
theorem Cw_meetQ {P : Program} {N : Nat} {c : Code} {K : (Nat → Value) → World → Prop} {Q : Exit → (Nat → Value) → World → Prop} {f : Nat → Value} {w : World} (M : (Nat → Value) → World → Prop) (h : Cw P N c (thn M Q) f w) (hk : ∀ f w, M f w → K f w) : Cw P N c (thn K Q) f w := by
  refine Cw_mono h ?_
  intro e f' w' hh
  cases e with
  | normal => exact hk _ _ hh
  | _ => exact hh
/-- Twice reversed. -/
theorem rev_rev (a : As) (h1 : a.ks ≠ 3 → a.ks ≠ 4 → a.sk = e0) (h2 : a.ks = 4 → a.kin = a.src) : revA (revA a) = { { a with lb := e0 } with sb := e0 } := by
  obtain ⟨nm, ty, src, tgt, ks, kin, tk, sk, rv, lb, sb⟩ := a
  simp only at h1 h2
  simp only [revA, As.mk.injEq, true_and, and_true]
  refine ⟨?_, ?_, ?_, ?_, ?_⟩
  · by_cases ha : ty = 3
    · simp [ha]
    · by_cases hb : ty = 2
      · simp [hb]
      · simp [ha, hb]
  · by_cases ha : ks = 1
    · simp [ha]
    · by_cases hb : ks = 2
      · simp [hb]
      · simp [ha, hb]
  · by_cases ha : ks = 1
    · simp [ha]
    · by_cases hb : ks = 2
      · simp [hb]
      · by_cases hc : ks = 4
        · simp [hc, h2 hc]
        · simp [ha, hb, hc]
  · by_cases ha : ks = 1
    · simp [ha]
    · by_cases hb : ks = 2
      · simp [hb]
      · by_cases hc : ks = 3 ∨ ks = 4
        · simp [ha, hb, hc]
        · simp [ha, hb, hc]
  · by_cases ha : ks = 1
    · have := h1 (by omega) (by omega); simp [ha, this]
    · by_cases hb : ks = 2
      · have := h1 (by omega) (by omega); simp [hb, this]
      · by_cases hc : ks = 3 ∨ ks = 4
        · simp [ha, hb, hc]
        · have := h1 (by omega) (by omega); simp [ha, hb, hc, this]

set_option maxHeartbeats 2000000 in
theorem f7_any (nm rv : ByteArray) (ty ks : Int) (tk sk lb sb : ByteArray) (sn : Bool) (ts kn : Int) (w : World) :
    Calls Try.prog 7 #[.string nm, .string rv, .int .i64 ty, .int .i64 ks, .string tk, .string sk, .string lb, .string sb, .bool sn, .int .i64 ts, .int .i64 kn] w fun e w' => ∃ v, e = .returned v ∧ (v = .bool true ∧ Keeps w w' noB) := by
  refine enter1 (args := [_, _, _, _, _, _, _, _, _, _, _]) (R := fun v w' => v = .bool true ∧ Keeps w w' noB) Try.func7 rfl Try.ntmps7 Try.results7 rfl rfl ?_
  refine Cw_seq (Cw_region (by kernel_rfl) ?_)
  refine s_assign (Fl_nil (th_n ?_))
  -- the bound
  refine Cw_seq (Cw_seq (Cw_region (by kernel_rfl) ?_))
  refine s_move (s_move (s_move (s_move (s_move (s_move (s_move (s_move (s_move (s_move (s_move ?_))))))))))
  refine s_cv (by kernel_rfl) rfl (bytes24_any nm rv tk sk lb sb _ _ _ _ _ w) ?_
  rintro v1 w1 ⟨⟨b1, rfl⟩, rfl⟩
  refine s_not rfl (Fl_nil (th_n ?_))
  refine Cw_cond rfl rfl (fun hb => ?_) (fun hb => ?_)
  · refine Cw_seq (Cw_region (by kernel_rfl) ?_)
    refine s_assign (Fl_nil (th_n ?_))
    exact Cw_ret ⟨rfl, Keeps.refl _ _⟩
  clear hb
  refine Cw_skip (th_n ?_)
  refine Cw_seq (Cw_seq (Cw_region (by kernel_rfl) ?_))
  refine s_move (s_move (s_move (s_move (s_move (s_move ?_)))))
  refine s_cv (by kernel_rfl) rfl (strs_any nm rv tk sk lb sb w1) ?_
  rintro v2 w2 ⟨⟨z, rfl⟩, rfl⟩
  refine s_gtr rfl rfl (Fl_nil (th_n ?_))
  refine Cw_cond rfl rfl (fun hb => ?_) (fun hb => ?_)
  · refine Cw_seq (Cw_region (by kernel_rfl) ?_)
    refine s_assign (Fl_nil (th_n ?_))
    exact Cw_ret ⟨rfl, Keeps.refl _ _⟩
  clear hb
  refine Cw_skip (th_n ?_)
  -- a
  refine Cw_seq (Cw_region (by kernel_rfl) ?_)
  refine s_move (s_move (s_move (s_move (s_move (s_move (s_move (s_move (s_move (s_move (s_move ?_))))))))))
  refine s_cv (by kernel_rfl) rfl (assoc_any nm rv ty ks tk sk lb sb sn ts kn w2) ?_
  rintro v3 w3 ⟨B, src, tgt, kin, rfl, hB, hs, ht, hn, hk3⟩
  refine s_assign (Fl_nil (th_n ?_))
  refine Cw_fr [(3, .int .i64 ks), (5, .string sk), (23, .pointer (some ⟨B, 0, none⟩))] ⟨rfl, rfl, rfl, trivial⟩ (fun g => ?_)
  refine Cw_seq (Cw_region (by kernel_rfl) ?_)
  refine s_move (s_assign (Fl_nil (th_n ?_)))
  -- the domain
  refine Cw_seq (Cw_meetQ (fun f' w' => (∃ g, f' = sets [(23, .pointer (some ⟨B, 0, none⟩)), (24, .int .i64 ks)] g) ∧ w3 = w' ∧ (ks ≠ 3 → ks ≠ 4 → sk = e0)) ?_ ?_)
  · refine Cw_seq (Cw_region (by kernel_rfl) ?_)
    by_cases h3 : ks = 3
    · refine s_move (Fl_val rfl (r_neqF rfl rfl h3) (s_move (Fl_pass rfl (Fl_pass rfl (s_pick rfl (s_move (Fl_pass rfl (Fl_pass rfl (s_pick rfl (Fl_nil (th_n ?_)))))))))))
      exact Cw_false rfl rfl rfl (Cw_skip (th_n ⟨sets_ex _ ⟨rfl, rfl, trivial⟩, rfl, fun h => (h h3).elim⟩))
    by_cases h4 : ks = 4
    · refine s_move (Fl_val rfl (r_neqT rfl rfl h3) (s_move (Fl_val rfl r_move (Fl_val rfl (r_neqF rfl rfl h4) (s_pick rfl (s_move (Fl_pass rfl (Fl_pass rfl (s_pick rfl (Fl_nil (th_n ?_)))))))))))
      exact Cw_false rfl rfl rfl (Cw_skip (th_n ⟨sets_ex _ ⟨rfl, rfl, trivial⟩, rfl, fun _ h => (h h4).elim⟩))
    refine s_move (Fl_val rfl (r_neqT rfl rfl h3) (s_move (Fl_val rfl r_move (Fl_val rfl (r_neqT rfl rfl h4) (s_pick rfl (s_move (Fl_val rfl r_move (Fl_val rfl (r_neqStr (b := e0) rfl rfl) (s_pick rfl (Fl_nil (th_n ?_)))))))))))
    refine Cw_cond rfl rfl (fun hb => ?_) (fun hb => ?_)
    · refine Cw_seq (Cw_region (by kernel_rfl) ?_)
      refine s_assign (Fl_nil (th_n ?_))
      exact Cw_ret ⟨rfl, hk3⟩
    · have hb' : (!decide (sk = e0)) = false := hb
      exact Cw_skip (th_n ⟨sets_ex _ ⟨rfl, rfl, trivial⟩, rfl, fun _ _ => by simpa using hb'⟩)
  rintro f w4 ⟨⟨g, rfl⟩, rfl, hd1⟩
  refine Cw_seq (Cw_meetQ (fun f' w' => (∃ g, f' = sets [(23, .pointer (some ⟨B, 0, none⟩))] g) ∧ w3.drew = w' ∧ (ks = 4 → kin = src)) ?_ ?_)
  · refine Cw_seq ?_
    refine Cw_drawn [(0, 0), (1, 0), (2, 0), (3, 0), (4, 0), (5, 0), (6, 1), (7, 0), (8, 0), (9, 0), (10, 1), (11, 1), (12, 0)] [0, 1, 2, 3, 4, 5, 6, 7, 8, 9, 10, 12] (Ext w3) (by kernel_rfl) (by kernel_rfl) (by kernel_rfl) (by kernel_rfl) ?_
    have hS : Ext w3 w3.drew := fun _ _ => rfl
    by_cases h4 : ks = 4
    · refine o0 rfl rfl (fun _ => r_move) (o0 rfl rfl (fun _ => r_eqlT rfl rfl h4) (o0 rfl rfl (fun _ => r_move) (o0 rfl rfl (fun _ => r_move) (o0 rfl rfl (fun _ => r_nilP rfl) (o0 rfl rfl (fun _ => r_field0 rfl (by kernel_rfl)) (o1 rfl hS rfl (fun _ hw => r_load rfl (by kernel_rfl) (hw.cell (hB.cellv (i := 5) (v := .pointer kin) (by omega) rfl))) (o0 rfl rfl (fun _ => r_move) (o0 rfl rfl (fun _ => r_nilP rfl) (o0 rfl rfl (fun _ => r_field0 rfl (by kernel_rfl)) (o1 rfl hS rfl (fun _ hw => r_load rfl (by kernel_rfl) (hw.cell (hB.cellv (i := 2) (v := .pointer src) (by omega) rfl))) (o1 rfl hS rfl (fun _ hw => r_neqP (by kernel_rfl) rfl rfl (pk_ext hn hw) (pk_ext hs hw)) (o0 rfl rfl (fun _ => r_pick rfl) (Fo_nil (th_n ?_))))))))))))))
      refine Cw_cond rfl rfl (fun hb => ?_) (fun hb => ?_)
      · refine Cw_seq (Cw_region (by kernel_rfl) ?_)
        refine s_assign (Fl_nil (th_n ?_))
        exact Cw_ret ⟨rfl, hk3.trans (Keeps.drew w3 noB) (fun _ _ h => h) (fun _ _ h => h)⟩
      · have hb' : (!decide (kin = src)) = false := hb
        exact Cw_skip (th_n ⟨sets_ex _ ⟨rfl, trivial⟩, rfl, fun _ => by simpa using hb'⟩)
    · refine o0 rfl rfl (fun _ => r_move) (o0 rfl rfl (fun _ => r_eqlF rfl rfl h4) (o0 rfl rfl (fun _ => r_move) (o0g rfl rfl (o0g rfl rfl (o0g rfl rfl (o1g rfl hS rfl (o0g rfl rfl (o0g rfl rfl (o0g rfl rfl (o1g rfl hS rfl (o1g rfl hS rfl (o0 rfl rfl (fun _ => r_pick rfl) (Fo_nil (th_n ?_))))))))))))))
      exact Cw_false rfl rfl rfl (Cw_skip (th_n ⟨sets_ex _ ⟨rfl, trivial⟩, rfl, fun h => (h4 h).elim⟩))
  rintro f w4 ⟨⟨g, rfl⟩, rfl, hd2⟩
  have hk4 : Keeps w2 w3.drew noB := hk3.trans (Keeps.drew w3 noB) (fun _ _ h => h) (fun _ _ h => h)
  have hB4 := hB.drew
  generalize w3.drew = w4 at hk4 hB4 ⊢
  clear hB hs ht hn hk3
  -- rr
  refine Cw_seq (Cw_region (by kernel_rfl) ?_)
  refine s_move ?_
  refine s_c1 (by kernel_rfl) rfl (reversed_any _ w4 B hB4) ?_
  rintro v5 w5 ⟨rfl, hR5, hk5⟩
  refine s_c1 (by kernel_rfl) rfl (reversed_any _ w5 w4.heap.size hR5) ?_
  rintro v6 w6 ⟨rfl, hR6, hk6⟩
  refine s_assign (Fl_nil (th_n ?_))
  rw [rev_rev _ hd1 hd2] at hR6
  have hB6 := (hB4.keep hk5 (fun h => h)).keep hk6 (fun h => h)
  have hk46 : Keeps w2 w6 noB := (hk4.trans hk5 (fun _ _ h => h) (fun _ _ h => h)).trans hk6 (fun _ _ h => h) (fun _ _ h => h)
  have hne : w5.heap.size ≠ B := by have := hB4.lt; have := hk5.size; omega
  have hlt6 := hR6.lt
  generalize w5.heap.size = C at *
  -- want
  refine Cw_seq (Cw_region (by kernel_rfl) ?_)
  refine s_move (s_nilP rfl (Fl_val rfl (r_loadA (cs := asL ⟨nm, ty, src, tgt, ks, kin, tk, sk, rv, lb, sb⟩) (o := 0) rfl (by kernel_rfl) (as_cells hB6)) ?_))
  refine s_alloc (v := .agg (asV ⟨e0, 0, none, none, 0, none, e0, e0, e0, e0, e0⟩)) (by kernel_rfl) ?_
  have hW := arr_as w6 ⟨e0, 0, none, none, 0, none, e0, e0, e0, e0, e0⟩
  refine Fl_skip rfl (r_storeA (cs := asL ⟨nm, ty, src, tgt, ks, kin, tk, sk, rv, lb, sb⟩) (o := 0) rfl rfl (by kernel_rfl) (hW.there (by show 0 + 14 ≤ 14; omega)) (fun v hv => ?_)) (Fl_nil (th_n ?_))
  · simp [asL] at hv
    rcases hv with rfl | rfl | rfl | rfl | rfl | rfl | rfl | rfl | rfl | rfl | rfl | rfl <;> rfl
  have hW2 : arr (World.setCells (w6.alloc (.cells (asV ⟨e0, 0, none, none, 0, none, e0, e0, e0, e0, e0⟩) 54)) w6.heap.size 0 (asL ⟨nm, ty, src, tgt, ks, kin, tk, sk, rv, lb, sb⟩)) w6.heap.size 54 14 (asF ⟨nm, ty, src, tgt, ks, kin, tk, sk, rv, lb, sb⟩) := by
    refine (arr_setCells (asL ⟨nm, ty, src, tgt, ks, kin, tk, sk, rv, lb, sb⟩) 0 _ _ hW).congr (fun i hi => ?_)
    rw [if_pos (by show 0 ≤ i ∧ i < 0 + 14; omega)]
    match i, hi with
    | 0, _ | 1, _ | 2, _ | 3, _ | 4, _ | 5, _ | 6, _ | 7, _ | 8, _ | 9, _ | 10, _ | 11, _ | 12, _ | 13, _ => rfl
  have hkW : Keeps w6 (World.setCells (w6.alloc (.cells (asV ⟨e0, 0, none, none, 0, none, e0, e0, e0, e0, e0⟩) 54)) w6.heap.size 0 (asL ⟨nm, ty, src, tgt, ks, kin, tk, sk, rv, lb, sb⟩)) noB := (Keeps.alloc w6 _ noB).trans (keeps_setCells _ _ _ _) (fun _ _ h => h) (fun q hq h => by have h : q = w6.heap.size := h; omega)
  show Cw _ _ _ _ _ (World.setCells (w6.alloc (.cells (asV ⟨e0, 0, none, none, 0, none, e0, e0, e0, e0, e0⟩) 54)) w6.heap.size 0 (asL ⟨nm, ty, src, tgt, ks, kin, tk, sk, rv, lb, sb⟩))
  generalize World.setCells (w6.alloc (.cells (asV ⟨e0, 0, none, none, 0, none, e0, e0, e0, e0, e0⟩) 54)) w6.heap.size 0 (asL ⟨nm, ty, src, tgt, ks, kin, tk, sk, rv, lb, sb⟩) = w7 at hW2 hkW ⊢
  have hR7 := hR6.keep hkW (fun h => h)
  have hB7 := hB6.keep hkW (fun h => h)
  have hk7 : Keeps w2 w7 noB := hk46.trans hkW (fun _ _ h => h) (fun _ _ h => h)
  have hneW : C ≠ w6.heap.size := by omega
  have hnB : B ≠ w6.heap.size := by have := hB6.lt; omega
  have hw26 := hk46.size
  generalize w6.heap.size = W at *
  clear hW hkW hR6 hB6 hk46 hR5 hk5 hk6 hB4 hk4
  refine Cw_fr [(23, .pointer (some ⟨B, 0, none⟩)), (25, .pointer (some ⟨C, 0, none⟩)), (26, .pointer (some ⟨W, 0, none⟩))] ⟨rfl, rfl, rfl, trivial⟩ (fun g => ?_)
  refine Cw_seq (Cw_region (by kernel_rfl) ?_)
  refine s_field rfl (by kernel_rfl) (s_store (v := .string e0) rfl rfl (by kernel_rfl) rfl (hW2.cell (i := 9) (by omega)) (hW2.frozen 9) (Fl_nil (th_n ?_)))
  have hW3 := as_lb hW2 e0
  have hks := Keeps.setCell w7 ⟨W, 9, none⟩ (.string e0)
  have hR8 := hR7.keep hks (fun h => hneW h)
  have hB8 := hB7.keep hks (fun h => hnB h)
  have hk8 : Keeps w2 (w7.setCell ⟨W, 9, none⟩ (.string e0)) noB := hk7.trans hks (fun _ _ h => h) (fun q hq h => by have h : q = W := h; show False; omega)
  generalize w7.setCell ⟨W, 9, none⟩ (.string e0) = w8 at hW3 hR8 hB8 hk8 ⊢
  refine Cw_seq (Cw_region (by kernel_rfl) ?_)
  refine s_field rfl (by kernel_rfl) (s_store (v := .string e0) rfl rfl (by kernel_rfl) rfl (hW3.cell (i := 10) (by omega)) (hW3.frozen 10) (Fl_nil (th_n ?_)))
  have hW4 := as_sb hW3 e0
  have hks2 := Keeps.setCell w8 ⟨W, 10, none⟩ (.string e0)
  have hR9 := hR8.keep hks2 (fun h => hneW h)
  have hB9 := hB8.keep hks2 (fun h => hnB h)
  have hk9 : Keeps w2 (w8.setCell ⟨W, 10, none⟩ (.string e0)) noB := hk8.trans hks2 (fun _ _ h => h) (fun q hq h => by have h : q = W := h; show False; omega)
  generalize w8.setCell ⟨W, 10, none⟩ (.string e0) = w9 at hW4 hR9 hB9 hk9 ⊢
  clear hks hks2 hR7 hR8 hB7 hB8 hk7 hk8 hW2 hW3
  -- rr != a && *rr == want
  refine Cw_seq ?_
  refine Cw_drawn [(0, 0), (1, 0), (2, 1), (3, 0), (4, 0), (5, 0), (6, 1), (7, 1), (8, 0), (9, 0), (10, 0)] [0, 1, 2, 3, 4, 5, 6, 7, 8, 9, 10] (Ext w9) (by kernel_rfl) (by kernel_rfl) (by kernel_rfl) (by kernel_rfl) ?_
  have hS : Ext w9 w9.drew := fun _ _ => rfl
  refine o0 rfl rfl (fun _ => r_move) (o0 rfl rfl (fun _ => r_move) (o1 rfl hS rfl (fun _ hw => r_neqP (by kernel_rfl) rfl rfl (pk_ext (pk_arr hR9) hw) (pk_ext (pk_arr hB9) hw)) ?_))
  rw [decide_eq_false (fun e => by cases e; exact hne rfl : ¬ (some (⟨C, 0, none⟩ : Addr) = some ⟨B, 0, none⟩))]
  refine o0 rfl rfl (fun _ => r_move) (o0 rfl rfl (fun _ => r_move) (o0 rfl rfl (fun _ => r_nilP rfl) (o1 rfl hS rfl (fun _ hw => r_loadA (cs := asL ⟨nm, ty, src, tgt, ks, kin, tk, sk, rv, e0, e0⟩) (o := 0) rfl (by kernel_rfl) (fun j v hj => hw.cell (as_cells hR9 j v hj))) (o1 rfl hS rfl (fun _ hw => r_loadA (cs := asL ⟨nm, ty, src, tgt, ks, kin, tk, sk, rv, e0, e0⟩) (o := 0) rfl (by kernel_rfl) (fun j v hj => hw.cell (as_cells hW4 j v hj))) ?_))))
  refine o0 rfl rfl (fun _ => r_eqlA (cs := (asL ⟨nm, ty, src, tgt, ks, kin, tk, sk, rv, e0, e0⟩).toArray) (by kernel_rfl) (by kernel_rfl) rfl rfl) (o0 rfl rfl (fun _ => r_pick rfl) (o0 rfl rfl (fun _ => r_assign) (Fo_nil (th_n ?_))))
  exact Cw_ret ⟨rfl, hk9.trans (Keeps.drew w9 noB) (fun _ _ h => h) (fun _ _ h => h)⟩
end Go.Proofs.Qxb6000102a

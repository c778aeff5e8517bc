/-
  WALKS, C: (*Association).Reversed. Own work.
-/
import Derived.Test.Qxb6000102aWaB
namespace Go.Proofs.Qxb6000102a
open Go.Fw Go.RowKit
set_option maxRecDepth 10000

theorem r_boxA {P : Program} {f : Nat → Value} {w : World} {ty : TypeId} {pos : String} {af : Array Edge} {gu : Option (Nat × Bool)} {dst : Option Tmp} {x : Operand} {e : TypeId} {cs : Array Value} (hx : ev f x = .agg cs) :
    (execOp (ev f) ⟨dst, .box e x, ty, pos, af, gu⟩).run P w = .ok (.value (.pointer (some ⟨w.heap.size, 0, none⟩))) (w.alloc (.cells cs e)) := r_box hx
def revA (a : As) : As := ⟨a.rv, if a.ty = 3 then 2 else if a.ty = 2 then 3 else a.ty, a.tgt, a.src, if a.ks = 1 then 2 else if a.ks = 2 then 1 else a.ks, if a.ks = 4 then a.tgt else a.kin,
  if a.ks = 3 ∨ a.ks = 4 then a.sk else a.tk, if a.ks = 3 ∨ a.ks = 4 then a.tk else e0, a.nm, e0, e0⟩
theorem as_ty {w : World} {B : Nat} {a : As} (h : arr w B 54 14 (asF a)) (z : Int) : arr (w.setCell ⟨B, 1, none⟩ (.int .i64 z)) B 54 14 (asF { a with ty := z }) := by
  refine (h.set 1 _).congr (fun i hi => ?_)
  match i, hi with
  | 0, _ | 1, _ | 2, _ | 3, _ | 4, _ | 5, _ | 6, _ | 7, _ | 8, _ | 9, _ | 10, _ | 11, _ | 12, _ | 13, _ => rfl
theorem as_ks {w : World} {B : Nat} {a : As} (h : arr w B 54 14 (asF a)) (z : Int) : arr (w.setCell ⟨B, 4, none⟩ (.int .i64 z)) B 54 14 (asF { a with ks := z }) := by
  refine (h.set 4 _).congr (fun i hi => ?_)
  match i, hi with
  | 0, _ | 1, _ | 2, _ | 3, _ | 4, _ | 5, _ | 6, _ | 7, _ | 8, _ | 9, _ | 10, _ | 11, _ | 12, _ | 13, _ => rfl
theorem as_kin {w : World} {B : Nat} {a : As} (h : arr w B 54 14 (asF a)) (z : Option Addr) : arr (w.setCell ⟨B, 5, none⟩ (.pointer z)) B 54 14 (asF { a with kin := z }) := by
  refine (h.set 5 _).congr (fun i hi => ?_)
  match i, hi with
  | 0, _ | 1, _ | 2, _ | 3, _ | 4, _ | 5, _ | 6, _ | 7, _ | 8, _ | 9, _ | 10, _ | 11, _ | 12, _ | 13, _ => rfl
theorem as_tk {w : World} {B : Nat} {a : As} (h : arr w B 54 14 (asF a)) (z : ByteArray) : arr (w.setCell ⟨B, 6, none⟩ (.string z)) B 54 14 (asF { a with tk := z }) := by
  refine (h.set 6 _).congr (fun i hi => ?_)
  match i, hi with
  | 0, _ | 1, _ | 2, _ | 3, _ | 4, _ | 5, _ | 6, _ | 7, _ | 8, _ | 9, _ | 10, _ | 11, _ | 12, _ | 13, _ => rfl
theorem as_sk {w : World} {B : Nat} {a : As} (h : arr w B 54 14 (asF a)) (z : ByteArray) : arr (w.setCell ⟨B, 7, none⟩ (.string z)) B 54 14 (asF { a with sk := z }) := by
  refine (h.set 7 _).congr (fun i hi => ?_)
  match i, hi with
  | 0, _ | 1, _ | 2, _ | 3, _ | 4, _ | 5, _ | 6, _ | 7, _ | 8, _ | 9, _ | 10, _ | 11, _ | 12, _ | 13, _ => rfl
theorem as_lb {w : World} {B : Nat} {a : As} (h : arr w B 54 14 (asF a)) (z : ByteArray) : arr (w.setCell ⟨B, 9, none⟩ (.string z)) B 54 14 (asF { a with lb := z }) := by
  refine (h.set 9 _).congr (fun i hi => ?_)
  match i, hi with
  | 0, _ | 1, _ | 2, _ | 3, _ | 4, _ | 5, _ | 6, _ | 7, _ | 8, _ | 9, _ | 10, _ | 11, _ | 12, _ | 13, _ => rfl
theorem as_sb {w : World} {B : Nat} {a : As} (h : arr w B 54 14 (asF a)) (z : ByteArray) : arr (w.setCell ⟨B, 10, none⟩ (.string z)) B 54 14 (asF { a with sb := z }) := by
  refine (h.set 10 _).congr (fun i hi => ?_)
  match i, hi with
  | 0, _ | 1, _ | 2, _ | 3, _ | 4, _ | 5, _ | 6, _ | 7, _ | 8, _ | 9, _ | 10, _ | 11, _ | 12, _ | 13, _ => rfl

set_option maxHeartbeats 1000000 in
theorem reversed_any (a : As) (w : World) (B : Nat) (hB : arr w B 54 14 (asF a)) :
    Calls Try.prog 21 #[.pointer (some ⟨B, 0, none⟩)] w fun e w' => ∃ v, e = .returned v ∧ (v = .pointer (some ⟨w.heap.size, 0, none⟩) ∧ arr w' w.heap.size 54 14 (asF (revA a)) ∧ Keeps w w' noB) := by
  have hBl := hB.lt
  refine enter1 (args := [_]) (R := fun v w' => v = .pointer (some ⟨w.heap.size, 0, none⟩) ∧ arr w' w.heap.size 54 14 (asF (revA a)) ∧ Keeps w w' noB) Try.func21 rfl Try.ntmps21 Try.results21 rfl rfl ?_
  refine Cw_seq (Cw_region (by kernel_rfl) ?_)
  refine s_assign (Fl_nil (th_n ?_))
  refine Cw_seq ?_
  refine Cw_drawn [(0, 0), (1, 0), (2, 0), (3, 1), (4, 0), (5, 0), (6, 0), (7, 1), (8, 0), (9, 0), (10, 0), (11, 1), (12, 0), (13, 0), (14, 0), (15, 1), (16, 0), (17, 0), (18, 0), (19, 1), (20, 0), (21, 0), (22, 0), (23, 1), (24, 0), (25, 0), (26, 0), (27, 1), (28, 0), (29, 0), (30, 0), (31, 1), (32, 0), (33, 2), (34, 0)] [0, 1, 2, 3, 4, 5, 6, 7, 8, 9, 10, 11, 12, 13, 14, 15, 16, 17, 18, 19, 20, 21, 22, 23, 24, 25, 26, 27, 28, 29, 30, 31, 33] (Ext w) (by kernel_rfl) (by kernel_rfl) (by kernel_rfl) (by kernel_rfl) ?_
  have hS : Ext w w.drew := fun _ _ => rfl
  refine o0 rfl rfl (fun _ => r_move) (o0 rfl rfl (fun _ => r_nilP rfl) (o0 rfl rfl (fun _ => r_field0 rfl (by kernel_rfl)) (o1 rfl hS rfl (fun _ hw => r_load rfl (by kernel_rfl) (hw.cell (hB.cellv (i := 8) (v := .string a.rv) (by omega) rfl))) ?_)))
  refine o0 rfl rfl (fun _ => r_move) (o0 rfl rfl (fun _ => r_nilP rfl) (o0 rfl rfl (fun _ => r_field0 rfl (by kernel_rfl)) (o1 rfl hS rfl (fun _ hw => r_load rfl (by kernel_rfl) (hw.cell (hB.cellv (i := 1) (v := .int .i64 a.ty) (by omega) rfl))) ?_)))
  refine o0 rfl rfl (fun _ => r_move) (o0 rfl rfl (fun _ => r_nilP rfl) (o0 rfl rfl (fun _ => r_field0 rfl (by kernel_rfl)) (o1 rfl hS rfl (fun _ hw => r_load rfl (by kernel_rfl) (hw.cell (hB.cellv (i := 3) (v := .pointer a.tgt) (by omega) rfl))) ?_)))
  refine o0 rfl rfl (fun _ => r_move) (o0 rfl rfl (fun _ => r_nilP rfl) (o0 rfl rfl (fun _ => r_field0 rfl (by kernel_rfl)) (o1 rfl hS rfl (fun _ hw => r_load rfl (by kernel_rfl) (hw.cell (hB.cellv (i := 2) (v := .pointer a.src) (by omega) rfl))) ?_)))
  refine o0 rfl rfl (fun _ => r_move) (o0 rfl rfl (fun _ => r_nilP rfl) (o0 rfl rfl (fun _ => r_field0 rfl (by kernel_rfl)) (o1 rfl hS rfl (fun _ hw => r_load rfl (by kernel_rfl) (hw.cell (hB.cellv (i := 4) (v := .int .i64 a.ks) (by omega) rfl))) ?_)))
  refine o0 rfl rfl (fun _ => r_move) (o0 rfl rfl (fun _ => r_nilP rfl) (o0 rfl rfl (fun _ => r_field0 rfl (by kernel_rfl)) (o1 rfl hS rfl (fun _ hw => r_load rfl (by kernel_rfl) (hw.cell (hB.cellv (i := 5) (v := .pointer a.kin) (by omega) rfl))) ?_)))
  refine o0 rfl rfl (fun _ => r_move) (o0 rfl rfl (fun _ => r_nilP rfl) (o0 rfl rfl (fun _ => r_field0 rfl (by kernel_rfl)) (o1 rfl hS rfl (fun _ hw => r_load rfl (by kernel_rfl) (hw.cell (hB.cellv (i := 6) (v := .string a.tk) (by omega) rfl))) ?_)))
  refine o0 rfl rfl (fun _ => r_move) (o0 rfl rfl (fun _ => r_nilP rfl) (o0 rfl rfl (fun _ => r_field0 rfl (by kernel_rfl)) (o1 rfl hS rfl (fun _ hw => r_load rfl (by kernel_rfl) (hw.cell (hB.cellv (i := 0) (v := .string a.nm) (by omega) rfl))) ?_)))
  refine o0 rfl rfl (fun _ => r_build (v := .agg (asV ⟨a.rv, a.ty, a.tgt, a.src, a.ks, a.kin, a.tk, e0, a.nm, e0, e0⟩)) (by kernel_rfl)) (o2 rfl rfl (r_boxA (cs := asV ⟨a.rv, a.ty, a.tgt, a.src, a.ks, a.kin, a.tk, e0, a.nm, e0, e0⟩) rfl) (fun _ hw k hk => ?_) (o0 rfl rfl (fun _ => r_assign) (Fo_nil (th_n ?_))))
  · exact (Below.heap_alloc _ _ k (by have : w.drew.heap.size = w.heap.size := rfl; omega)).trans (hw k hk)
  have hR := arr_as w.drew ⟨a.rv, a.ty, a.tgt, a.src, a.ks, a.kin, a.tk, e0, a.nm, e0, e0⟩
  have hk1 : Keeps w (w.drew.alloc (.cells (asV ⟨a.rv, a.ty, a.tgt, a.src, a.ks, a.kin, a.tk, e0, a.nm, e0, e0⟩) 54)) noB := (Keeps.drew w noB).trans (Keeps.alloc w.drew _ noB) (fun _ _ h => h) (fun _ _ h => h)
  have hB1 := hB.keep hk1 (fun h => h)
  refine Cw_fr [(0, .pointer (some ⟨B, 0, none⟩)), (3, .pointer (some ⟨w.heap.size, 0, none⟩))] ⟨rfl, rfl, trivial⟩ (fun g => ?_)
  have hRs : w.drew.heap.size = w.heap.size := rfl
  rw [hRs] at hR
  generalize w.drew.alloc (.cells (asV ⟨a.rv, a.ty, a.tgt, a.src, a.ks, a.kin, a.tk, e0, a.nm, e0, e0⟩) 54) = w1 at hR hk1 hB1 ⊢
  -- the type
  refine Cw_seq (Cw_seq (Cw_region (by kernel_rfl) ?_))
  refine s_move (s_nilP rfl (s_field rfl (by kernel_rfl) (s_load rfl (by kernel_rfl) (hB1.cellv (i := 1) (v := .int .i64 a.ty) (by omega) rfl) (Fl_nil (th_n ?_)))))
  refine Cw_block (Cw_seq (Cw_region (by kernel_rfl) ?_))
  refine s_eql rfl rfl (s_assign (Fl_nil (th_n ?_)))
  refine Cw_meetN (fun f' w' => ∃ g, f' = sets [(0, .pointer (some ⟨B, 0, none⟩)), (3, .pointer (some ⟨w.heap.size, 0, none⟩))] g ∧ arr w' w.heap.size 54 14 (asF ⟨a.rv, if a.ty = 3 then 2 else if a.ty = 2 then 3 else a.ty, a.tgt, a.src, a.ks, a.kin, a.tk, e0, a.nm, e0, e0⟩) ∧ Keeps w w' noB) ?_ ?_
  · refine Cw_cond rfl rfl (fun hb => ?_) (fun hb => ?_)
    · have h1 := of_decide_eq_true hb
      refine Cw_region (by kernel_rfl) ?_
      refine s_move (s_nilP rfl (s_field rfl (by kernel_rfl) (s_store (v := .int .i64 2) rfl rfl (by kernel_rfl) rfl (hR.cell (i := 1) (by omega)) (hR.frozen 1) (Fl_nil (th_n ?_)))))
      refine ⟨_, sets_known ⟨rfl, rfl, trivial⟩, ?_, hk1.trans (Keeps.setCell _ _ _) (fun _ _ h => h) (fun q hq h => by have h : q = w.heap.size := h; omega)⟩
      rw [if_pos h1]
      exact as_ty hR 2
    · have h1 := of_decide_eq_false hb
      refine Cw_seq (Cw_region (by kernel_rfl) ?_)
      refine s_eql rfl rfl (s_assign (Fl_nil (th_n ?_)))
      refine Cw_cond rfl rfl (fun hb => ?_) (fun hb => ?_)
      · have h2 := of_decide_eq_true hb
        refine Cw_region (by kernel_rfl) ?_
        refine s_move (s_nilP rfl (s_field rfl (by kernel_rfl) (s_store (v := .int .i64 3) rfl rfl (by kernel_rfl) rfl (hR.cell (i := 1) (by omega)) (hR.frozen 1) (Fl_nil (th_n ?_)))))
        refine ⟨_, sets_known ⟨rfl, rfl, trivial⟩, ?_, hk1.trans (Keeps.setCell _ _ _) (fun _ _ h => h) (fun q hq h => by have h : q = w.heap.size := h; omega)⟩
        rw [if_neg h1, if_pos h2]
        exact as_ty hR 3
      · have h2 := of_decide_eq_false hb
        refine Cw_skip (th_n ⟨_, sets_known ⟨rfl, rfl, trivial⟩, ?_, hk1⟩)
        rw [if_neg h1, if_neg h2]
        exact hR
  rintro f w2 ⟨g, rfl, hR2, hk2⟩
  have hB2 := hB.keep hk2 (fun h => h)
  clear hR hk1 hB1
  refine ib_n (th_n ?_)
  generalize hty2 : (if a.ty = 3 then 2 else if a.ty = 2 then 3 else a.ty) = ty2 at hR2
  -- the keys
  refine Cw_seq (Cw_seq (Cw_region (by kernel_rfl) ?_))
  refine s_move (s_nilP rfl (s_field rfl (by kernel_rfl) (s_load rfl (by kernel_rfl) (hB2.cellv (i := 4) (v := .int .i64 a.ks) (by omega) rfl) (Fl_nil (th_n ?_)))))
  refine Cw_block (Cw_seq (Cw_region (by kernel_rfl) ?_))
  refine s_eql rfl rfl (s_assign (Fl_nil (th_n ?_)))
  refine Cw_meetN (fun f' w' => ∃ g, f' = sets [(3, .pointer (some ⟨w.heap.size, 0, none⟩))] g ∧ arr w' w.heap.size 54 14 (asF ⟨a.rv, ty2, a.tgt, a.src, if a.ks = 1 then 2 else if a.ks = 2 then 1 else a.ks, if a.ks = 4 then a.tgt else a.kin,
    if a.ks = 3 ∨ a.ks = 4 then a.sk else a.tk, if a.ks = 3 ∨ a.ks = 4 then a.tk else e0, a.nm, e0, e0⟩) ∧ Keeps w w' noB) ?_ ?_
  · refine Cw_cond rfl rfl (fun hb => ?_) (fun hb => ?_)
    · have h1 := of_decide_eq_true hb
      refine Cw_region (by kernel_rfl) ?_
      refine s_move (s_nilP rfl (s_field rfl (by kernel_rfl) (s_store (v := .int .i64 2) rfl rfl (by kernel_rfl) rfl (hR2.cell (i := 4) (by omega)) (hR2.frozen 4) (Fl_nil (th_n ?_)))))
      refine ⟨_, sets_known ⟨rfl, trivial⟩, ?_, hk2.trans (Keeps.setCell _ _ _) (fun _ _ h => h) (fun q hq h => by have h : q = w.heap.size := h; omega)⟩
      rw [if_pos h1, if_neg (by omega), if_neg (by omega), if_neg (by omega)]
      exact as_ks hR2 2
    · have h1 := of_decide_eq_false hb
      refine Cw_seq (Cw_region (by kernel_rfl) ?_)
      refine s_eql rfl rfl (s_assign (Fl_nil (th_n ?_)))
      refine Cw_cond rfl rfl (fun hb => ?_) (fun hb => ?_)
      · have h2 := of_decide_eq_true hb
        refine Cw_region (by kernel_rfl) ?_
        refine s_move (s_nilP rfl (s_field rfl (by kernel_rfl) (s_store (v := .int .i64 1) rfl rfl (by kernel_rfl) rfl (hR2.cell (i := 4) (by omega)) (hR2.frozen 4) (Fl_nil (th_n ?_)))))
        refine ⟨_, sets_known ⟨rfl, trivial⟩, ?_, hk2.trans (Keeps.setCell _ _ _) (fun _ _ h => h) (fun q hq h => by have h : q = w.heap.size := h; omega)⟩
        rw [if_neg h1, if_pos h2, if_neg (by omega), if_neg (by omega), if_neg (by omega)]
        exact as_ks hR2 1
      · have h2 := of_decide_eq_false hb
        refine Cw_seq (Cw_region (by kernel_rfl) ?_)
        refine s_eql rfl rfl (s_assign (Fl_nil (th_n ?_)))
        refine Cw_cond rfl rfl (fun hb => ?_) (fun hb => ?_)
        · have h3 := of_decide_eq_true hb
          refine Cw_drawn [(0, 0), (1, 0), (2, 0), (3, 0), (4, 0), (5, 1), (6, 0), (7, 0), (8, 0), (9, 1), (10, 0), (11, 0), (12, 2), (13, 0), (14, 0), (15, 2)] [0, 1, 2, 3, 4, 5, 6, 7, 8, 9] (Ext w2) (by kernel_rfl) (by kernel_rfl) (by kernel_rfl) (by kernel_rfl) ?_
          have hS : Ext w2 w2.drew := fun _ _ => rfl
          have hs6 := as_tk hR2.drew a.sk
          refine o0 rfl rfl (fun _ => r_move) (o0 rfl rfl (fun _ => r_move) (o0 rfl rfl (fun _ => r_move) (o0 rfl rfl (fun _ => r_nilP rfl) (o0 rfl rfl (fun _ => r_field0 rfl (by kernel_rfl)) (o1 rfl hS rfl (fun _ hw => r_load rfl (by kernel_rfl) (hw.cell (hB2.cellv (i := 7) (v := .string a.sk) (by omega) rfl))) (o0 rfl rfl (fun _ => r_move) (o0 rfl rfl (fun _ => r_nilP rfl) (o0 rfl rfl (fun _ => r_field0 rfl (by kernel_rfl)) (o1 rfl hS rfl (fun _ hw => r_load rfl (by kernel_rfl) (hw.cell (hB2.cellv (i := 6) (v := .string a.tk) (by omega) rfl))) ?_)))))))))
          refine o0 rfl rfl (fun _ => r_nilP rfl) (o0 rfl rfl (fun _ => r_field0 rfl (by kernel_rfl)) (o2s rfl rfl (r_store (v := .string a.sk) rfl rfl (by kernel_rfl) rfl (hR2.drew.cell (i := 6) (by omega)) (hR2.drew.frozen 6)) (fun h => by cases h) (o0 rfl rfl (fun _ => r_nilP rfl) (o0 rfl rfl (fun _ => r_field0 rfl (by kernel_rfl)) (o2s rfl rfl (r_store (v := .string a.tk) rfl rfl (by kernel_rfl) rfl (hs6.cell (i := 7) (by omega)) (hs6.frozen 7)) (fun h => by cases h) (Fo_nil (th_n ?_)))))))
          refine ⟨_, sets_known ⟨rfl, trivial⟩, ?_, ((hk2.trans (Keeps.drew w2 noB) (fun _ _ h => h) (fun _ _ h => h)).trans (Keeps.setCell _ _ _) (fun _ _ h => h) (fun q hq h => by have h : q = w.heap.size := h; omega)).trans (Keeps.setCell _ _ _) (fun _ _ h => h) (fun q hq h => by have h : q = w.heap.size := h; omega)⟩
          rw [if_neg h1, if_neg h2, if_neg (by omega), if_pos (Or.inl h3), if_pos (Or.inl h3)]
          exact as_sk hs6 a.tk
        · have h3 := of_decide_eq_false hb
          refine Cw_seq (Cw_region (by kernel_rfl) ?_)
          refine s_eql rfl rfl (s_assign (Fl_nil (th_n ?_)))
          refine Cw_cond rfl rfl (fun hb => ?_) (fun hb => ?_)
          · have h4 := of_decide_eq_true hb
            refine Cw_drawn [(0, 0), (1, 0), (2, 0), (3, 0), (4, 0), (5, 0), (6, 1), (7, 0), (8, 0), (9, 0), (10, 1), (11, 0), (12, 0), (13, 0), (14, 1), (15, 0), (16, 0), (17, 2), (18, 0), (19, 0), (20, 2), (21, 0), (22, 0), (23, 2)] [0, 1, 2, 3, 4, 5, 6, 7, 8, 9, 10, 11, 12, 13, 14] (Ext w2) (by kernel_rfl) (by kernel_rfl) (by kernel_rfl) (by kernel_rfl) ?_
            have hS : Ext w2 w2.drew := fun _ _ => rfl
            have hs5 := as_kin hR2.drew a.tgt
            have hs6 := as_tk hs5 a.sk
            refine o0 rfl rfl (fun _ => r_move) (o0 rfl rfl (fun _ => r_move) (o0 rfl rfl (fun _ => r_move) (o0 rfl rfl (fun _ => r_move) (o0 rfl rfl (fun _ => r_nilP rfl) (o0 rfl rfl (fun _ => r_field0 rfl (by kernel_rfl)) (o1 rfl hS rfl (fun _ hw => r_load rfl (by kernel_rfl) (hw.cell (hB2.cellv (i := 3) (v := .pointer a.tgt) (by omega) rfl))) ?_))))))
            refine o0 rfl rfl (fun _ => r_move) (o0 rfl rfl (fun _ => r_nilP rfl) (o0 rfl rfl (fun _ => r_field0 rfl (by kernel_rfl)) (o1 rfl hS rfl (fun _ hw => r_load rfl (by kernel_rfl) (hw.cell (hB2.cellv (i := 7) (v := .string a.sk) (by omega) rfl))) (o0 rfl rfl (fun _ => r_move) (o0 rfl rfl (fun _ => r_nilP rfl) (o0 rfl rfl (fun _ => r_field0 rfl (by kernel_rfl)) (o1 rfl hS rfl (fun _ hw => r_load rfl (by kernel_rfl) (hw.cell (hB2.cellv (i := 6) (v := .string a.tk) (by omega) rfl))) ?_)))))))
            refine o0 rfl rfl (fun _ => r_nilP rfl) (o0 rfl rfl (fun _ => r_field0 rfl (by kernel_rfl)) (o2s rfl rfl (r_store (v := .pointer a.tgt) rfl rfl (by kernel_rfl) rfl (hR2.drew.cell (i := 5) (by omega)) (hR2.drew.frozen 5)) (fun h => by cases h) (o0 rfl rfl (fun _ => r_nilP rfl) (o0 rfl rfl (fun _ => r_field0 rfl (by kernel_rfl)) (o2s rfl rfl (r_store (v := .string a.sk) rfl rfl (by kernel_rfl) rfl (hs5.cell (i := 6) (by omega)) (hs5.frozen 6)) (fun h => by cases h) (o0 rfl rfl (fun _ => r_nilP rfl) (o0 rfl rfl (fun _ => r_field0 rfl (by kernel_rfl)) (o2s rfl rfl (r_store (v := .string a.tk) rfl rfl (by kernel_rfl) rfl (hs6.cell (i := 7) (by omega)) (hs6.frozen 7)) (fun h => by cases h) (Fo_nil (th_n ?_))))))))))
            refine ⟨_, sets_known ⟨rfl, trivial⟩, ?_, (((hk2.trans (Keeps.drew w2 noB) (fun _ _ h => h) (fun _ _ h => h)).trans (Keeps.setCell _ _ _) (fun _ _ h => h) (fun q hq h => by have h : q = w.heap.size := h; omega)).trans (Keeps.setCell _ _ _) (fun _ _ h => h) (fun q hq h => by have h : q = w.heap.size := h; omega)).trans (Keeps.setCell _ _ _) (fun _ _ h => h) (fun q hq h => by have h : q = w.heap.size := h; omega)⟩
            rw [if_neg h1, if_neg h2, if_pos h4, if_pos (Or.inr h4), if_pos (Or.inr h4)]
            exact as_sk hs6 a.tk
          · have h4 := of_decide_eq_false hb
            refine Cw_skip (th_n ⟨_, sets_known ⟨rfl, trivial⟩, ?_, hk2⟩)
            rw [if_neg h1, if_neg h2, if_neg h4, if_neg (by omega), if_neg (by omega)]
            exact hR2
  rintro f w3 ⟨g, rfl, hR3, hk3⟩
  refine ib_n (th_n ?_)
  refine Cw_seq (Cw_region (by kernel_rfl) ?_)
  refine s_move (s_assign (Fl_nil (th_n ?_)))
  refine Cw_ret ⟨rfl, ?_, hk3⟩
  rw [← hty2] at hR3
  exact hR3
end Go.Proofs.Qxb6000102a

/-
  WALKS, B: b1Assoc, Reversed. Own work.
-/
import Derived.Test.Qxb6000102aWaA
namespace Go.Proofs.Qxb6000102a
open Go.Fw
set_option maxRecDepth 10000

def e0 : ByteArray := ⟨#[]⟩
/-- An association's fields. -/
structure As where
  nm : ByteArray
  ty : Int
  src : Option Addr
  tgt : Option Addr
  ks : Int
  kin : Option Addr
  tk : ByteArray
  sk : ByteArray
  rv : ByteArray
  lb : ByteArray
  sb : ByteArray
def asF (a : As) : Nat → Value
  | 0 => .string a.nm | 1 => .int .i64 a.ty | 2 => .pointer a.src | 3 => .pointer a.tgt | 4 => .int .i64 a.ks | 5 => .pointer a.kin | 6 => .string a.tk | 7 => .string a.sk | 8 => .string a.rv | 9 => .string a.lb | 10 => .string a.sb | _ => .string e0
def asV (a : As) : Array Value := #[.string a.nm, .int .i64 a.ty, .pointer a.src, .pointer a.tgt, .int .i64 a.ks, .pointer a.kin, .string a.tk, .string a.sk, .string a.rv, .string a.lb, .string a.sb, .string e0, .string e0, .string e0]
theorem arr_as (w : World) (a : As) : arr (w.alloc (.cells (asV a) 54)) w.heap.size 54 14 (asF a) := by
  refine arr.new w (asV a) 54 (asF a) (fun i hi => ?_)
  have hi : i < 14 := hi
  match i, hi with
  | 0, _ | 1, _ | 2, _ | 3, _ | 4, _ | 5, _ | 6, _ | 7, _ | 8, _ | 9, _ | 10, _ | 11, _ | 12, _ | 13, _ => rfl
theorem pk_new (w : World) (c : Array Value) (t : TypeId) : pk (w.alloc (.cells c t)) (some ⟨w.heap.size, 0, none⟩) := fun a ha => by
  cases ha
  exact ⟨w.heap.size, c, t, rfl, heap_alloc_new w _⟩

set_option maxHeartbeats 1000000 in
theorem assoc_any (nm rv : ByteArray) (ty ks : Int) (tk sk lb sb : ByteArray) (sn : Bool) (ts kn : Int) (w : World) :
    Calls Try.prog 20 #[.string nm, .string rv, .int .i64 ty, .int .i64 ks, .string tk, .string sk, .string lb, .string sb, .bool sn, .int .i64 ts, .int .i64 kn] w fun e w' => ∃ v, e = .returned v ∧ (∃ B src tgt kin, v = .pointer (some ⟨B, 0, none⟩) ∧ arr w' B 54 14 (asF ⟨nm, ty, src, tgt, ks, kin, tk, sk, rv, lb, sb⟩) ∧ pk w' src ∧ pk w' tgt ∧ pk w' kin ∧ Keeps w w' noB) := by
  refine enter1 (args := [_, _, _, _, _, _, _, _, _, _, _]) (R := fun v w' => ∃ B src tgt kin, v = .pointer (some ⟨B, 0, none⟩) ∧ arr w' B 54 14 (asF ⟨nm, ty, src, tgt, ks, kin, tk, sk, rv, lb, sb⟩) ∧ pk w' src ∧ pk w' tgt ∧ pk w' kin ∧ Keeps w w' noB) Try.func20 rfl Try.ntmps20 Try.results20 rfl rfl ?_
  refine Cw_seq (Cw_region (by kernel_rfl) ?_)
  refine s_assign (Fl_nil (th_n ?_))
  refine Cw_seq (Cw_region (by kernel_rfl) ?_)
  refine s_assign (Fl_nil (th_n ?_))
  -- src
  refine Cw_seq (Cw_seq (Cw_region (by kernel_rfl) ?_))
  refine s_move (s_not rfl (Fl_nil (th_n ?_)))
  refine Cw_meet (fun f' w' => ∃ g src, f' = sets [(0, .string nm), (1, .string rv), (2, .int .i64 ty), (3, .int .i64 ks), (4, .string tk), (5, .string sk), (6, .string lb), (7, .string sb), (8, .bool sn), (9, .int .i64 ts), (10, .int .i64 kn), (23, .pointer src)] g ∧ pk w' src ∧ Keeps w w' noB) ?_ ?_
  · refine Cw_cond rfl rfl (fun hb => ?_) (fun hb => ?_)
    · refine Cw_region (by kernel_rfl) ?_
      refine s_build (v := .agg #[.string ⟨#[115, 111, 117, 114, 99, 101]⟩, .string e0, .string e0, .string e0, .slice none 0 0, .string e0, .slice none 0 0, .slice none 0 0]) (by kernel_rfl) (s_box rfl (s_assign (Fl_nil (th_n ?_))))
      exact ⟨_, _, sets_known ⟨rfl, rfl, rfl, rfl, rfl, rfl, rfl, rfl, rfl, rfl, rfl, rfl, trivial⟩, pk_new w _ _, Keeps.alloc w _ noB⟩
    · exact Cw_skip (th_n ⟨_, none, sets_known ⟨rfl, rfl, rfl, rfl, rfl, rfl, rfl, rfl, rfl, rfl, rfl, rfl, trivial⟩, pk_none w, Keeps.refl _ _⟩)
  rintro f w1 ⟨g, src, rfl, hs, hk1⟩
  -- tgt
  refine Cw_seq (Cw_region (by kernel_rfl) ?_)
  refine s_assign (Fl_nil (th_n ?_))
  refine Cw_seq (Cw_seq (Cw_region (by kernel_rfl) ?_))
  refine s_move (s_eql rfl rfl (Fl_nil (th_n ?_)))
  refine Cw_meet (fun f' w' => ∃ g tgt, f' = sets [(0, .string nm), (1, .string rv), (2, .int .i64 ty), (3, .int .i64 ks), (4, .string tk), (5, .string sk), (6, .string lb), (7, .string sb), (8, .bool sn), (9, .int .i64 ts), (10, .int .i64 kn), (23, .pointer src), (24, .pointer tgt)] g ∧ pk w' src ∧ pk w' tgt ∧ Keeps w w' noB) ?_ ?_
  · refine Cw_cond rfl rfl (fun hb => ?_) (fun hb => ?_)
    · refine Cw_region (by kernel_rfl) ?_
      refine s_move (s_assign (Fl_nil (th_n ?_)))
      exact ⟨_, src, sets_known ⟨rfl, rfl, rfl, rfl, rfl, rfl, rfl, rfl, rfl, rfl, rfl, rfl, rfl, trivial⟩, hs, hs, hk1⟩
    · refine Cw_seq (Cw_region (by kernel_rfl) ?_)
      refine s_move (s_neq rfl rfl (Fl_nil (th_n ?_)))
      refine Cw_cond rfl rfl (fun hb => ?_) (fun hb => ?_)
      · refine Cw_region (by kernel_rfl) ?_
        refine s_build (v := .agg #[.string ⟨#[116, 97, 114, 103, 101, 116]⟩, .string e0, .string e0, .string e0, .slice none 0 0, .string e0, .slice none 0 0, .slice none 0 0]) (by kernel_rfl) (s_box rfl (s_assign (Fl_nil (th_n ?_))))
        exact ⟨_, _, sets_known ⟨rfl, rfl, rfl, rfl, rfl, rfl, rfl, rfl, rfl, rfl, rfl, rfl, rfl, trivial⟩, hs.keep (Keeps.alloc w1 _ noB) (fun _ _ h => h), pk_new w1 _ _, hk1.trans (Keeps.alloc w1 _ noB) (fun _ _ h => h) (fun _ _ h => h)⟩
      · exact Cw_skip (th_n ⟨_, none, sets_known ⟨rfl, rfl, rfl, rfl, rfl, rfl, rfl, rfl, rfl, rfl, rfl, rfl, rfl, trivial⟩, hs, pk_none w1, hk1⟩)
  rintro f w2 ⟨g, tgt, rfl, hs2, ht2, hk2⟩
  -- kin
  refine Cw_seq (Cw_region (by kernel_rfl) ?_)
  refine s_assign (Fl_nil (th_n ?_))
  refine Cw_seq (Cw_seq (Cw_region (by kernel_rfl) ?_))
  refine s_move (s_eql rfl rfl (Fl_nil (th_n ?_)))
  refine Cw_meet (fun f' w' => ∃ g kin, f' = sets [(0, .string nm), (1, .string rv), (2, .int .i64 ty), (3, .int .i64 ks), (4, .string tk), (5, .string sk), (6, .string lb), (7, .string sb), (8, .bool sn), (9, .int .i64 ts), (10, .int .i64 kn), (23, .pointer src), (24, .pointer tgt), (25, .pointer kin)] g ∧ pk w' src ∧ pk w' tgt ∧ pk w' kin ∧ Keeps w w' noB) ?_ ?_
  · refine Cw_cond rfl rfl (fun hb => ?_) (fun hb => ?_)
    · refine Cw_region (by kernel_rfl) ?_
      refine s_move (s_assign (Fl_nil (th_n ?_)))
      exact ⟨_, src, sets_known ⟨rfl, rfl, rfl, rfl, rfl, rfl, rfl, rfl, rfl, rfl, rfl, rfl, rfl, rfl, trivial⟩, hs2, ht2, hs2, hk2⟩
    · refine Cw_seq (Cw_region (by kernel_rfl) ?_)
      refine s_move (s_eql rfl rfl (Fl_nil (th_n ?_)))
      refine Cw_cond rfl rfl (fun hb => ?_) (fun hb => ?_)
      · refine Cw_region (by kernel_rfl) ?_
        refine s_move (s_assign (Fl_nil (th_n ?_)))
        exact ⟨_, tgt, sets_known ⟨rfl, rfl, rfl, rfl, rfl, rfl, rfl, rfl, rfl, rfl, rfl, rfl, rfl, rfl, trivial⟩, hs2, ht2, ht2, hk2⟩
      · refine Cw_seq (Cw_region (by kernel_rfl) ?_)
        refine s_move (s_neq rfl rfl (Fl_nil (th_n ?_)))
        refine Cw_cond rfl rfl (fun hb => ?_) (fun hb => ?_)
        · refine Cw_region (by kernel_rfl) ?_
          refine s_build (v := .agg #[.string ⟨#[99, 114, 111, 115, 115]⟩, .string e0, .string e0, .string e0, .slice none 0 0, .string e0, .slice none 0 0, .slice none 0 0]) (by kernel_rfl) (s_box rfl (s_assign (Fl_nil (th_n ?_))))
          exact ⟨_, _, sets_known ⟨rfl, rfl, rfl, rfl, rfl, rfl, rfl, rfl, rfl, rfl, rfl, rfl, rfl, rfl, trivial⟩, hs2.keep (Keeps.alloc w2 _ noB) (fun _ _ h => h), ht2.keep (Keeps.alloc w2 _ noB) (fun _ _ h => h), pk_new w2 _ _, hk2.trans (Keeps.alloc w2 _ noB) (fun _ _ h => h) (fun _ _ h => h)⟩
        · exact Cw_skip (th_n ⟨_, none, sets_known ⟨rfl, rfl, rfl, rfl, rfl, rfl, rfl, rfl, rfl, rfl, rfl, rfl, rfl, rfl, trivial⟩, hs2, ht2, pk_none w2, hk2⟩)
  rintro f w3 ⟨g, kin, rfl, hs3, ht3, hn3, hk3⟩
  refine Cw_seq (Cw_region (by kernel_rfl) ?_)
  refine s_move (s_move (s_move (s_move (s_move (s_move (s_move (s_move (s_move (s_move (s_move ?_))))))))))
  refine s_build (v := .agg (asV ⟨nm, ty, src, tgt, ks, kin, tk, sk, rv, lb, sb⟩)) (by kernel_rfl) (s_box rfl (s_assign (Fl_nil (th_n ?_))))
  exact Cw_ret ⟨_, src, tgt, kin, rfl, arr_as w3 _, hs3.keep (Keeps.alloc w3 _ noB) (fun _ _ h => h), ht3.keep (Keeps.alloc w3 _ noB) (fun _ _ h => h), hn3.keep (Keeps.alloc w3 _ noB) (fun _ _ h => h), hk3.trans (Keeps.alloc w3 _ noB) (fun _ _ h => h) (fun _ _ h => h)⟩
end Go.Proofs.Qxb6000102a

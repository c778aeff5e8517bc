/-
  WALKS, I: FnAttributeIsFirstOfName. Own work.
-/
import Derived.Test.Qxb6000102aWaH
namespace Go.Proofs.Qxb6000102a
open Go.Fw
set_option maxRecDepth 10000

theorem r_eqlBT {P : Program} {f : Nat → Value} {w : World} {dst : Option Tmp} {ty : TypeId} {pos : String} {af : Array Edge} {gu : Option (Nat × Bool)} {x y : Operand} {t t' : TypeId} {a : Bool} (ht : P.underlying t = some .bool) (hx : ev f x = .bool a) (hy : ev f y = .bool a) :
    (execOp (ev f) ⟨dst, .binOp .eql t x y t', ty, pos, af, gu⟩).run P w = .ok (.value (.bool true)) w := by
  rw [r_eqlB ht hx hy]
  simp

/-- The first of the name from i on, if there is one. -/
def Lst (A : Nat → Rw) (n : Nat) (nm : ByteArray) (i : Nat) : Option Rw → Prop
  | none => ∀ j, i ≤ j → j < n → (A j).nm ≠ nm
  | some r => ∃ k, i ≤ k ∧ k < n ∧ (A k).nm = nm ∧ (∀ j, i ≤ j → j < k → (A j).nm ≠ nm) ∧ r = A k
theorem Fst_one {A : Nat → Rw} {n : Nat} {nm : ByteArray} {o o' : Option Rw} (h : Fst A n nm o) (h' : Fst A n nm o') : o = o' := by
  cases o with
  | none => cases o' with
    | none => rfl
    | some r' =>
      obtain ⟨i, hi, hnm, _⟩ := h'
      exact absurd hnm (h i hi)
  | some r =>
    obtain ⟨i, hi, hnm, hno, rfl⟩ := h
    cases o' with
    | none => exact absurd hnm (h' i hi)
    | some r' =>
      obtain ⟨i', hi', hnm', hno', rfl⟩ := h'
      have : i = i' := by
        rcases Nat.lt_trichotomy i i' with h | h | h
        · exact absurd hnm (hno' i h)
        · exact h
        · exact absurd hnm' (hno i' h)
      rw [this]
theorem Lst_zero {A : Nat → Rw} {n : Nat} {nm : ByteArray} {o : Option Rw} (h : Lst A n nm 0 o) : Fst A n nm o := by
  cases o with
  | none => exact fun j hj => h j (Nat.zero_le _) hj
  | some r =>
    obtain ⟨k, _, hk, hnm, hno, hr⟩ := h
    exact ⟨k, hk, hnm, fun j hj => hno j (Nat.zero_le _) hj, hr⟩
theorem Lst_hit {A : Nat → Rw} {n : Nat} {nm : ByteArray} {i : Nat} (hi : i < n) (h : (A i).nm = nm) : Lst A n nm i (some (A i)) := ⟨i, Nat.le_refl _, hi, h, (fun j h1 h2 => by omega), rfl⟩
theorem Lst_miss {A : Nat → Rw} {n : Nat} {nm : ByteArray} {i : Nat} {o : Option Rw} (h : (A i).nm ≠ nm) (hl : Lst A n nm (i + 1) o) : Lst A n nm i o := by
  have key : ∀ j, i ≤ j → j = i ∨ i + 1 ≤ j := fun j hj => by omega
  cases o with
  | none =>
    intro j h1 h2
    rcases key j h1 with rfl | h3
    · exact h
    · exact hl j h3 h2
  | some r =>
    obtain ⟨k, h1, h2, h3, h4, h5⟩ := hl
    refine ⟨k, by omega, h2, h3, fun j h6 h7 => ?_, h5⟩
    rcases key j h6 with rfl | h8
    · exact h
    · exact h4 j h8 h7

theorem f3_any (w : World) (v : Value) (n : Nat) (R : Nat → Rw) (h : rowsA w v n R) (nm : ByteArray) : Calls Try.prog 3 #[v, .string nm] w fun e w' => ∃ v, e = .returned v ∧ (v = .bool true ∧ Keeps w w' noB) := by
  have h' := h
  obtain ⟨a, cap, rfl, hnn, hr⟩ := h'
  refine enter1 (args := [_, _]) (R := fun v w' => v = .bool true ∧ Keeps w w' noB) Try.func3 rfl Try.ntmps3 Try.results3 rfl rfl ?_
  refine Cw_seq (Cw_region (by kernel_rfl) ?_)
  refine s_assign (Fl_nil (th_n ?_))
  refine Cw_seq (Cw_seq (Cw_region (by kernel_rfl) ?_))
  refine s_move (s_move (s_cv (by kernel_rfl) rfl (bytes9_any w _ n R h nm) fun v1 w1 h1 => ?_))
  obtain ⟨⟨b1, rfl⟩, hk1⟩ := h1
  refine s_not rfl (Fl_nil (th_n ?_))
  refine Cw_cond rfl rfl (fun hb => ?_) (fun hb => ?_)
  · refine Cw_seq (Cw_region (by kernel_rfl) ?_)
    refine s_assign (Fl_nil (th_n ?_))
    exact Cw_ret ⟨rfl, hk1⟩
  refine Cw_skip (th_n ?_)
  refine Cw_seq (Cw_seq (Cw_region (by kernel_rfl) ?_))
  by_cases h0 : (65536 : Int) < (n : Int)
  · refine s_move (s_lenS rfl (by kernel_rfl) (Fl_val rfl (r_gtrT rfl rfl h0) (s_move (Fl_pass rfl (Fl_pass rfl (Fl_pass rfl (s_pick rfl (Fl_nil (th_n ?_)))))))))
    refine Cw_true rfl rfl rfl (Cw_seq (Cw_region (by kernel_rfl) ?_))
    refine s_assign (Fl_nil (th_n ?_))
    exact Cw_ret ⟨rfl, hk1⟩
  refine s_move (s_lenS rfl (by kernel_rfl) (Fl_val rfl (r_gtrF rfl rfl h0) (s_move (Fl_val rfl r_move (Fl_val rfl (r_lenStr rfl (by kernel_rfl)) (Fl_val rfl (r_gtr rfl rfl) (s_pick rfl (Fl_nil (th_n ?_)))))))))
  have hn : n ≤ 65536 := by omega
  refine Cw_cond rfl rfl (fun hb => ?_) (fun hb => ?_)
  · refine Cw_seq (Cw_region (by kernel_rfl) ?_)
    refine s_assign (Fl_nil (th_n ?_))
    exact Cw_ret ⟨rfl, hk1⟩
  refine Cw_skip (th_n ?_)
  refine Cw_fr [(0, .slice a n cap), (1, .string nm)] ⟨rfl, rfl, trivial⟩ (fun g => ?_)
  refine Cw_seq (Cw_seq (Cw_region (by kernel_rfl) ?_))
  refine s_move (s_cv (by kernel_rfl) rfl (rowsBytes_any w1 _ n R (h.keep hk1) hn) fun v2 w2 h2 => ?_)
  obtain ⟨⟨z, rfl⟩, hk2⟩ := h2
  refine s_move (s_lenStr rfl (by kernel_rfl) (s_addX rfl rfl fun z' => s_gtr rfl rfl (Fl_nil (th_n ?_))))
  refine Cw_cond rfl rfl (fun hb => ?_) (fun hb => ?_)
  · refine Cw_seq (Cw_region (by kernel_rfl) ?_)
    refine s_assign (Fl_nil (th_n ?_))
    exact Cw_ret ⟨rfl, hk1.on hk2⟩
  refine Cw_skip (th_n ?_)
  refine Cw_seq (Cw_region (by kernel_rfl) ?_)
  refine s_move (s_cv (by kernel_rfl) rfl (model_any w2 _ n R (h.keep (hk1.on hk2)) hn) fun p w3 h3 => ?_)
  obtain ⟨hm, hk3⟩ := h3
  refine s_assign (Fl_nil (th_n ?_))
  have hk03 : Keeps w w3 noB := (hk1.on hk2).on hk3
  refine Cw_seq (Cw_region (by kernel_rfl) ?_)
  refine s_build (v := .agg (atL z0).toArray) (by kernel_rfl) (s_allocV (cs := atL z0) (by kernel_rfl) fun w4 hs4 hk4 hz4 => s_storeV (cs := atL z0) (cs' := atL z0) rfl rfl (by kernel_rfl) rfl (oc_at _) hs4 fun w5 hs5 hk5 hz5 => Fl_nil (th_n ?_))
  have hk35 : Keeps w3 w5 noB := hk4.into (Nat.le_refl _) hk5
  refine Cw_seq (Cw_region (by kernel_rfl) ?_)
  refine s_assign (Fl_nil (th_n ?_))
  refine Cw_seq (Cw_seq (Cw_region (by kernel_rfl) ?_))
  refine s_move (s_lenS rfl (by kernel_rfl) (s_sub rfl rfl (by omega) (s_assign (Fl_nil (th_n ?_)))))
  refine Cw_block (Cw_loop (fun m f w' => ∃ g o, f = sets [(0, .slice a n cap), (1, .string nm), (5, p), (6, .pointer (some ⟨w3.heap.size, 0, none⟩)), (7, .bool (Option.isSome o)), (8, .int .i64 ((m : Int) - 1))] g ∧ m ≤ n ∧ Keeps w3 w' noB ∧ w3.heap.size < w'.heap.size ∧ sv w' w3.heap.size 31 (atL (o.getD z0)) ∧ Lst R n nm m o) n ⟨_, none, sets_known ⟨rfl, rfl, rfl, rfl, rfl, rfl, trivial⟩, Nat.le_refl _, hk35, by omega, hs5, (fun j h1 h2 => by omega)⟩ ?_)
  rintro m f w' ⟨g, o, rfl, hmn, hk, hsz, hs, hl⟩
  refine Cw_seq (Cw_seq (Cw_region (by kernel_rfl) ?_))
  refine s_move (s_geq rfl rfl (Fl_nil (th_n ?_)))
  refine Cw_cond rfl rfl (fun hb => ?_) (fun hb => ?_)
  · have hm1 : 1 ≤ m := by have := of_decide_eq_true hb; omega
    obtain ⟨i, rfl⟩ : ∃ i, m = i + 1 := ⟨m - 1, by omega⟩
    have hi : i < n := by omega
    have hiz : ((i + 1 : Nat) : Int) - 1 = (i : Int) := by omega
    refine Cw_skip (th_n ?_)
    refine Cw_seq (Cw_block (Cw_seq (Cw_region (by kernel_rfl) ?_)))
    obtain ⟨b, oo, rfl, hc⟩ := hr i hi
    refine s_move (s_move (s_indexS rfl rfl hiz hi (by kernel_rfl) (s_fieldO rfl (by kernel_rfl) (s_load rfl (by kernel_rfl) (keep_cell (hk03.on hk) (fun h => h) (hc 0 _ rfl)) (s_move (Fl_val rfl (r_eqlStr rfl rfl) (Fl_nil (th_n ?_))))))))
    refine Cw_cond rfl rfl (fun hb => ?_) (fun hb => ?_)
    · have hnm := of_decide_eq_true hb
      refine Cw_seq (Cw_region (by kernel_rfl) ?_)
      refine s_move (s_move (s_indexS rfl rfl hiz hi (by kernel_rfl) (s_loadA (cs := rowL (R i)) rfl (by kernel_rfl) (fun j u hu => keep_cell (hk03.on hk) (fun h => h) (hc j u hu)) (s_cv (by kernel_rfl) rfl (attr_any (R i) w') fun v6 w6 h6 => ?_))))
      obtain ⟨rfl, hk6⟩ := h6
      refine s_storeV (cs := atL (o.getD z0)) (cs' := atL (R i)) rfl rfl (by kernel_rfl) rfl (oc_at _) (hs.keep hk6 (fun h => h)) fun w7 hs7 hk7 hz7 => Fl_nil (th_n ?_)
      have hz6 := hk6.size
      refine Cw_region (by kernel_rfl) ?_
      refine s_assign (Fl_nil (ib_n (th_n ?_)))
      refine Cw_region (by kernel_rfl) ?_
      refine s_move (s_sub rfl rfl (by omega) (s_assign (Fl_nil (th_n ?_))))
      refine ⟨i, by omega, _, some (R i), sets_known ⟨rfl, rfl, rfl, rfl, rfl, ?_, trivial⟩, by omega, (hk.on hk6).into (Nat.le_refl _) hk7, by omega, hs7, Lst_hit hi hnm⟩
      show Value.int .i64 (((i + 1 : Nat) : Int) - 1 - 1) = _
      rw [hiz]
    · have hnm := of_decide_eq_false hb
      refine Cw_skip (ib_n (th_n ?_))
      refine Cw_region (by kernel_rfl) ?_
      refine s_move (s_sub rfl rfl (by omega) (s_assign (Fl_nil (th_n ?_))))
      refine ⟨i, by omega, _, o, sets_known ⟨rfl, rfl, rfl, rfl, rfl, ?_, trivial⟩, by omega, hk, hsz, hs, Lst_miss hnm hl⟩
      show Value.int .i64 (((i + 1 : Nat) : Int) - 1 - 1) = _
      rw [hiz]
  · have hm0 : m = 0 := by have := of_decide_eq_false hb; omega
    subst hm0
    refine Cw_exit (ex_th (ex_th (ex_in (th_n ?_))))
    refine Cw_seq (Cw_region (by kernel_rfl) ?_)
    refine s_move (s_move (s_cv (by kernel_rfl) rfl (find_any w' p n R nm (hm.keep hk) (by omega)) fun v8 w8 h8 => ?_))
    obtain ⟨o2, hF, rfl, hk8⟩ := h8
    obtain rfl : o2 = o := Fst_one hF (Lst_zero hl)
    have hz8 := hk8.size
    refine s_move (s_extract rfl rfl (s_extract rfl rfl (s_allocV (cs := atL z0) (by kernel_rfl) fun w9 hs9 hk9 hz9 => s_storeV (cs := atL z0) (cs' := atL (o2.getD z0)) rfl rfl (by kernel_rfl) rfl (oc_at _) hs9 fun w10 hs10 hk10 hz10 => s_assign (Fl_nil (th_n ?_)))))
    have hw10 : sv w10 w3.heap.size 31 (atL (o2.getD z0)) := ((hs.keep hk8 (fun h => h)).keep hk9 (fun h => h)).keep hk10 (by omega)
    have hk010 : Keeps w w10 noB := ((hk03.on hk).on (hk8.on hk9)).into (by have := hk03.size; omega) hk10
    refine Cw_seq (Cw_region (by kernel_rfl) ?_)
    refine s_move (s_move (Fl_val rfl (r_eqlBT (by kernel_rfl) rfl rfl) (s_move (Fl_val rfl (r_loadV rfl (by kernel_rfl) hs10) (Fl_val rfl (r_loadV rfl (by kernel_rfl) hw10) (Fl_val rfl (r_eqlA (by kernel_rfl) (by kernel_rfl) rfl rfl) (s_pick rfl (s_assign (Fl_nil (th_n ?_))))))))))
    exact Cw_ret ⟨rfl, hk010⟩
end Go.Proofs.Qxb6000102a

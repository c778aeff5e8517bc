/-
  WALKS, G: b1Model, Attribute. Own work.
-/
import Derived.Test.Qxb6000102aWaF
namespace Go.Proofs.Qxb6000102a
open Go.Fw
set_option maxRecDepth 10000

def mdL (v : Value) : List Value := [.string e0, .string e0, .string e0, .string e0, v, .string e0, .slice none 0 0, .slice none 0 0]

theorem model_any (w : World) (v : Value) (n : Nat) (R : Nat → Rw) (h : rowsA w v n R) (hn : n ≤ 65536) : Calls Try.prog 11 #[v] w fun e w' => ∃ p, e = .returned p ∧ (modA w' p n R ∧ Keeps w w' noB) := by
  obtain ⟨a, cap, rfl, hnn, hr⟩ := h
  refine enter1 (args := [_]) (R := fun p w' => modA w' p n R ∧ Keeps w w' noB) Try.func11 rfl Try.ntmps11 Try.results11 rfl rfl ?_
  refine Cw_seq (Cw_region (by kernel_rfl) ?_)
  refine s_assign (Fl_nil (th_n ?_))
  refine Cw_seq (Cw_seq (Cw_region (by kernel_rfl) ?_))
  refine s_move (s_eqlNilS rfl (by kernel_rfl) (Fl_nil (th_n ?_)))
  refine Cw_cond rfl rfl (fun hb => ?_) (fun hb => ?_)
  · have hn0 : n = 0 := hnn (by simpa using hb)
    subst hn0
    refine Cw_seq (Cw_region (by kernel_rfl) ?_)
    refine s_build (v := .agg (mdL (.slice none 0 0)).toArray) (by kernel_rfl) (s_boxV (cs := mdL (.slice none 0 0)) rfl fun w1 hs hk _ => s_assign (Fl_nil (th_n ?_)))
    exact Cw_ret ⟨⟨_, _, rfl, hs.cell (k := 4) rfl, none, 0, rfl, fun i hi => by omega⟩, hk⟩
  refine Cw_skip (th_n ?_)
  refine Cw_seq (Cw_region (by kernel_rfl) ?_)
  refine s_move (s_lenS rfl (by kernel_rfl) (s_makeS (e := 31) (s := 9) (by' := 104) (z := .agg (atL z0).toArray) rfl rfl rfl rfl (Nat.le_refl _) (by kernel_rfl) (by omega) (by omega) fun w1 g1 ha1 hk1 hz1 => s_assign (Fl_nil (th_n ?_))))
  refine Cw_seq (Cw_seq (Cw_region (by kernel_rfl) ?_))
  refine s_assign (Fl_nil (th_n ?_))
  refine Cw_block (Cw_loop (fun m f w' => ∃ g i c, f = sets [(0, .slice a n cap), (3, .slice (some ⟨w.heap.size, 0, none⟩) n n), (4, .int .i64 ((i : Nat) : Int))] g ∧ m + i = n ∧ Keeps w w' noB ∧ arr w' w.heap.size 31 (n * 9) c ∧ ∀ k, k < i → ∀ j, j < 9 → c (k * 9 + j) = (atL (R k)).getD j undef) n ⟨_, 0, _, sets_known ⟨rfl, rfl, rfl, trivial⟩, rfl, hk1, ha1, (fun k hk => by omega)⟩ ?_)
  rintro m f w' ⟨g, i, c, rfl, hm, hk, ha, hg⟩
  refine Cw_seq (Cw_seq (Cw_region (by kernel_rfl) ?_))
  refine s_move (s_move (s_lenS rfl (by kernel_rfl) (s_lss rfl rfl (Fl_nil (th_n ?_)))))
  refine Cw_cond rfl rfl (fun hb => ?_) (fun hb => ?_)
  · have hi : i < n := by have := of_decide_eq_true hb; omega
    refine Cw_skip (th_n ?_)
    refine Cw_seq (Cw_block (Cw_region (by kernel_rfl) ?_))
    obtain ⟨b, o, rfl, hc⟩ := hr i hi
    refine s_move (s_move (s_move (s_move (s_indexS rfl rfl rfl hi (by kernel_rfl) (s_loadA (cs := rowL (R i)) rfl (by kernel_rfl) (fun j u hu => keep_cell hk (fun h => h) (hc j u hu)) (s_cv (by kernel_rfl) rfl (attr_any (R i) w') fun v1 w2 h1 => ?_))))))
    obtain ⟨rfl, hk2⟩ := h1
    refine s_indexS rfl rfl rfl hi (by kernel_rfl) (s_storeS (cs := atL (R i)) rfl rfl (by kernel_rfl) (ha.keep hk2 (fun h => h)) (by show 0 + i * 9 + 9 ≤ n * 9; omega) (oc_at _) fun w3 ha3 hk3 => Fl_nil (ib_n (th_n ?_)))
    refine Cw_region (by kernel_rfl) ?_
    refine s_move (s_add rfl rfl (by omega) (s_assign (Fl_nil (th_n ?_))))
    refine ⟨m - 1, by omega, _, i + 1, _, sets_known ⟨rfl, rfl, rfl, trivial⟩, by omega, (hk.on hk2).into (Nat.le_refl _) hk3, ha3, fun k hk j hj => ?_⟩
    have hl : (atL (R i)).length = 9 := rfl
    rw [hl]
    by_cases hki : k = i
    · subst hki
      rw [if_pos (by omega), show k * 9 + j - (0 + k * 9) = j by omega]
    · rw [if_neg (by omega)]
      exact hg k (by omega) j hj
  · have hi : i = n := by have := of_decide_eq_false hb; omega
    subst hi
    refine Cw_exit (ex_th (ex_th (ex_in (th_n ?_))))
    refine Cw_seq (Cw_region (by kernel_rfl) ?_)
    refine s_move (s_build (v := .agg (mdL (.slice (some ⟨w.heap.size, 0, none⟩) i i)).toArray) (by kernel_rfl) (s_boxV (cs := mdL (.slice (some ⟨w.heap.size, 0, none⟩) i i)) rfl fun w1 hs hk2 _ => s_assign (Fl_nil (th_n ?_))))
    exact Cw_ret ⟨⟨_, _, rfl, hs.cell (k := 4) rfl, atsA_of (ha.keep hk2 (fun h => h)) (Nat.le_refl _) hg i⟩, hk.on hk2⟩

/-- The first of the name, if there is one. -/
def Fst (A : Nat → Rw) (n : Nat) (nm : ByteArray) : Option Rw → Prop
  | none => ∀ j, j < n → (A j).nm ≠ nm
  | some r => ∃ i, i < n ∧ (A i).nm = nm ∧ (∀ j, j < i → (A j).nm ≠ nm) ∧ r = A i

theorem find_any (w : World) (p : Value) (n : Nat) (A : Nat → Rw) (nm : ByteArray) (h : modA w p n A) (hn : n ≤ 65537) : Calls Try.prog 13 #[p, .string nm] w fun e w' => ∃ v, e = .returned v ∧ (∃ o, Fst A n nm o ∧ v = .tuple #[.agg (atL (o.getD z0)).toArray, .bool o.isSome] ∧ Keeps w w' noB) := by
  obtain ⟨b, v, rfl, hc4, a, cap, rfl, hr⟩ := h
  refine enterR (args := [_, _]) (R := fun v w' => ∃ o, Fst A n nm o ∧ v = .tuple #[.agg (atL (o.getD z0)).toArray, .bool o.isSome] ∧ Keeps w w' noB) Try.func13 rfl Try.ntmps13 rfl ?_
  refine Cw_seq (Cw_region (by kernel_rfl) ?_)
  refine s_allocV (cs := atL z0) (by kernel_rfl) fun w1 ht1 hk1 hz1 => s_assign (Fl_nil (th_n ?_))
  refine Cw_seq (Cw_seq (Cw_region (by kernel_rfl) ?_))
  refine s_move (s_nilP rfl (s_field rfl (by kernel_rfl) (s_load rfl (by kernel_rfl) (keep_cell hk1 (fun h => h) hc4) (s_lenS rfl (by kernel_rfl) (s_move (Fl_nil (th_n ?_)))))))
  refine Cw_block (Cw_loop (fun m f w' => ∃ g i, f = sets [(1, .string nm), (4, .pointer (some ⟨w.heap.size, 0, none⟩)), (11, .slice a n cap), (12, .int .i64 (n : Int)), (13, .int .i64 ((i : Nat) : Int))] g ∧ m + i = n ∧ Keeps w w' noB ∧ w.heap.size < w'.heap.size ∧ sv w' w.heap.size 31 (atL z0) ∧ ∀ j, j < i → (A j).nm ≠ nm) n ⟨_, 0, sets_known ⟨rfl, rfl, rfl, rfl, rfl, trivial⟩, rfl, hk1, by omega, ht1, (fun j hj => by omega)⟩ ?_)
  rintro m f w' ⟨g, i, rfl, hm, hk, hsz, hs, hno⟩
  refine Cw_seq (Cw_region (by kernel_rfl) ?_)
  refine s_lss rfl rfl (Fl_nil (th_n ?_))
  refine Cw_seq ?_
  refine Cw_cond rfl rfl (fun hb => ?_) (fun hb => ?_)
  · have hi : i < n := by have := of_decide_eq_true hb; omega
    refine Cw_skip (th_n ?_)
    refine Cw_seq (Cw_block (Cw_seq (Cw_region (by kernel_rfl) ?_)))
    obtain ⟨b', rfl, hc⟩ := hr i hi
    refine s_indexS rfl rfl rfl hi (by kernel_rfl) (s_loadA (cs := atL (A i)) rfl (by kernel_rfl) (fun j u hu => by rw [Nat.zero_add]; exact keep_cell hk (fun h => h) (hc j u hu)) (s_allocV (cs := atL z0) (by kernel_rfl) fun w2 ht2 hk2 hz2 => s_storeV (cs := atL z0) (cs' := atL (A i)) rfl rfl (by kernel_rfl) rfl (oc_at _) ht2 fun w3 ht3 hk3 hz3 => Fl_nil (th_n ?_)))
    have hk03 : Keeps w w3 noB := (hk.on hk2).into (by omega) hk3
    have hs3 : sv w3 w.heap.size 31 (atL z0) := (hs.keep hk2 (fun h => h)).keep hk3 (by omega)
    refine Cw_seq (Cw_region (by kernel_rfl) ?_)
    refine s_field rfl (by kernel_rfl) (s_load rfl (by kernel_rfl) (ht3.cell rfl) (s_move (Fl_val rfl (r_eqlStr rfl rfl) (Fl_nil (th_n ?_)))))
    refine Cw_cond rfl rfl (fun hb => ?_) (fun hb => ?_)
    · have hnm := of_decide_eq_true hb
      refine Cw_seq (Cw_region (by kernel_rfl) ?_)
      refine s_loadV rfl (by kernel_rfl) ht3 (s_storeV (cs := atL z0) (cs' := atL (A i)) rfl rfl (by kernel_rfl) rfl (oc_at _) hs3 fun w4 hs4 hk4 _ => s_assign (Fl_nil (th_n ?_)))
      exact Cw_ret ⟨_, resC2 Try.results13 rfl rfl rfl (by kernel_rfl) hs4, some (A i), ⟨i, hi, hnm, hno, rfl⟩, rfl, hk03.into (Nat.le_refl _) hk4⟩
    · have hnm := of_decide_eq_false hb
      refine Cw_skip (ib_n (th_n ?_))
      refine Cw_region (by kernel_rfl) ?_
      refine s_add rfl rfl (by omega) (s_move (Fl_nil (th_n ?_)))
      refine ⟨m - 1, by omega, _, i + 1, sets_known ⟨rfl, rfl, rfl, rfl, rfl, trivial⟩, by omega, hk03, by omega, hs3, fun j hj => ?_⟩
      by_cases hji : j = i
      · subst hji; exact hnm
      · exact hno j (by omega)
  · have hi : i = n := by have := of_decide_eq_false hb; omega
    subst hi
    refine Cw_exit (ex_th (ex_th (ex_in (th_n ?_))))
    refine Cw_seq (Cw_region (by kernel_rfl) ?_)
    refine s_build (v := .agg (atL z0).toArray) (by kernel_rfl) (s_storeV (cs := atL z0) (cs' := atL z0) rfl rfl (by kernel_rfl) rfl (oc_at _) hs fun w4 hs4 hk4 _ => s_assign (Fl_nil (th_n ?_)))
    exact Cw_ret ⟨_, resC2 Try.results13 rfl rfl rfl (by kernel_rfl) hs4, none, hno, rfl, hk.into (Nat.le_refl _) hk4⟩
end Go.Proofs.Qxb6000102a

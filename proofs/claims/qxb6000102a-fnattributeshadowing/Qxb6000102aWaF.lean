/-
  WALKS, F: rows of attributes: b1RowBytes, b1RowsBytes, b1Attr. Own work.
-/
import Derived.Test.Qxb6000102aWaB
import Derived.Test.Qxb6000102aFwK
namespace Go.Proofs.Qxb6000102a
open Go.Fw
set_option maxRecDepth 10000

/-- A row: the plain fields of an attribute. -/
structure Rw where
  nm : ByteArray
  sc : Int
  li : Bool
  de : ByteArray
  ge : Bool
  un : Bool
  pw : ByteArray
  mi : ByteArray
def rowL (r : Rw) : List Value := [.string r.nm, .int .i64 r.sc, .bool r.li, .string r.de, .bool r.ge, .bool r.un, .string r.pw, .string r.mi]
def atL (r : Rw) : List Value := [.string r.nm, .int .i64 r.sc, .bool r.li, .string r.de, .bool r.ge, .pointer none, .bool r.un, .string r.pw, .string r.mi]
def z0 : Rw := ⟨e0, 0, false, e0, false, false, e0, e0⟩
theorem oc_at (r : Rw) : ∀ v ∈ atL r, oc v = true := by
  intro v hv
  simp only [atL, List.mem_cons, List.not_mem_nil, or_false] at hv
  rcases hv with rfl | rfl | rfl | rfl | rfl | rfl | rfl | rfl | rfl <;> rfl
/-- A slice of n rows. -/
def rowsA (w : World) (v : Value) (n : Nat) (R : Nat → Rw) : Prop :=
  ∃ a cap, v = .slice a n cap ∧ (a = none → n = 0) ∧ ∀ i, i < n → ∃ b o, a = some ⟨b, o, none⟩ ∧ ∀ (j : Nat) u, (rowL (R i))[j]? = some u → w.cell? ⟨b, o + i * 8 + j, none⟩ = some u
theorem rowsA.keep {w w' : World} {v : Value} {n : Nat} {R : Nat → Rw} (h : rowsA w v n R) (hk : Keeps w w' noB) : rowsA w' v n R := by
  obtain ⟨a, cap, hv, hn, hr⟩ := h
  refine ⟨a, cap, hv, hn, fun i hi => ?_⟩
  obtain ⟨b, o, ha, hc⟩ := hr i hi
  exact ⟨b, o, ha, fun j u hu => keep_cell hk (fun h => h) (hc j u hu)⟩
/-- A slice of n attributes, each out of a row. -/
def atsA (w : World) (v : Value) (n : Nat) (A : Nat → Rw) : Prop :=
  ∃ a cap, v = .slice a n cap ∧ ∀ i, i < n → ∃ b, a = some ⟨b, 0, none⟩ ∧ ∀ (j : Nat) u, (atL (A i))[j]? = some u → w.cell? ⟨b, i * 9 + j, none⟩ = some u
theorem atsA.keep {w w' : World} {v : Value} {n : Nat} {A : Nat → Rw} (h : atsA w v n A) (hk : Keeps w w' noB) : atsA w' v n A := by
  obtain ⟨a, cap, hv, hr⟩ := h
  refine ⟨a, cap, hv, fun i hi => ?_⟩
  obtain ⟨b, ha, hc⟩ := hr i hi
  exact ⟨b, ha, fun j u hu => keep_cell hk (fun h => h) (hc j u hu)⟩
theorem atsA_of {w : World} {b n m : Nat} {e : TypeId} {g : Nat → Value} {A : Nat → Rw} (h : arr w b e m g) (hm : n * 9 ≤ m) (hg : ∀ i, i < n → ∀ j, j < 9 → g (i * 9 + j) = (atL (A i)).getD j undef) (cap : Nat) : atsA w (.slice (some ⟨b, 0, none⟩) n cap) n A := by
  refine ⟨_, cap, rfl, fun i hi => ⟨b, rfl, fun j u hu => ?_⟩⟩
  have hj : j < 9 := (List.getElem?_eq_some_iff.1 hu).1
  refine h.cellv (by omega) ?_
  rw [hg i hi j hj]
  simp [List.getD, hu]
/-- A model over n attributes. -/
def modA (w : World) (p : Value) (n : Nat) (A : Nat → Rw) : Prop := ∃ b v, p = .pointer (some ⟨b, 0, none⟩) ∧ w.cell? ⟨b, 4, none⟩ = some v ∧ atsA w v n A
theorem modA.keep {w w' : World} {p : Value} {n : Nat} {A : Nat → Rw} (h : modA w p n A) (hk : Keeps w w' noB) : modA w' p n A := by
  obtain ⟨b, v, hp, hc, ha⟩ := h
  exact ⟨b, v, hp, keep_cell hk (fun h => h) hc, ha.keep hk⟩

theorem rowBytes_any (r : Rw) (w : World) : Calls Try.prog 15 #[.agg (rowL r).toArray] w fun e w' => ∃ v, e = .returned v ∧ ((∃ z, v = .int .i64 z) ∧ Keeps w w' noB) := by
  refine enter1 (args := [_]) (R := fun v w' => (∃ z, v = .int .i64 z) ∧ Keeps w w' noB) Try.func15 rfl Try.ntmps15 Try.results15 rfl rfl ?_
  refine Cw_seq (Cw_region (by kernel_rfl) ?_)
  refine s_boxV (cs := rowL r) rfl fun w1 hs hk _ => s_assign (Fl_nil (th_n ?_))
  refine Cw_seq (Cw_seq (Cw_region (by kernel_rfl) ?_))
  by_cases h0 : (1048576 : Int) < (r.nm.size : Int)
  · refine s_field rfl (by kernel_rfl) (s_load rfl (by kernel_rfl) (hs.cell rfl) (s_lenStr rfl (by kernel_rfl) (Fl_val rfl (r_gtrT rfl rfl h0) ?_)))
    refine s_move (Fl_pass rfl (Fl_pass rfl (Fl_pass rfl (Fl_pass rfl (s_pick rfl ?_)))))
    refine s_move (Fl_pass rfl (Fl_pass rfl (Fl_pass rfl (Fl_pass rfl (s_pick rfl ?_)))))
    refine s_move (Fl_pass rfl (Fl_pass rfl (Fl_pass rfl (Fl_pass rfl (s_pick rfl ?_)))))
    refine Fl_nil (th_n ?_)
    refine Cw_true rfl rfl rfl (Cw_seq (Cw_region (by kernel_rfl) ?_))
    refine s_assign (Fl_nil (th_n ?_))
    exact Cw_ret ⟨⟨_, rfl⟩, hk⟩
  refine s_field rfl (by kernel_rfl) (s_load rfl (by kernel_rfl) (hs.cell rfl) (s_lenStr rfl (by kernel_rfl) (Fl_val rfl (r_gtrF rfl rfl h0) ?_)))
  by_cases h1 : (1048576 : Int) < (r.de.size : Int)
  · refine s_move (Fl_val rfl (r_field0 rfl (by kernel_rfl)) (Fl_val rfl (r_load rfl (by kernel_rfl) (hs.cell (k := 3) rfl)) (Fl_val rfl (r_lenStr rfl (by kernel_rfl)) (Fl_val rfl (r_gtrT rfl rfl h1) (s_pick rfl ?_)))))
    refine s_move (Fl_pass rfl (Fl_pass rfl (Fl_pass rfl (Fl_pass rfl (s_pick rfl ?_)))))
    refine s_move (Fl_pass rfl (Fl_pass rfl (Fl_pass rfl (Fl_pass rfl (s_pick rfl ?_)))))
    refine Fl_nil (th_n ?_)
    refine Cw_true rfl rfl rfl (Cw_seq (Cw_region (by kernel_rfl) ?_))
    refine s_assign (Fl_nil (th_n ?_))
    exact Cw_ret ⟨⟨_, rfl⟩, hk⟩
  refine s_move (Fl_val rfl (r_field0 rfl (by kernel_rfl)) (Fl_val rfl (r_load rfl (by kernel_rfl) (hs.cell (k := 3) rfl)) (Fl_val rfl (r_lenStr rfl (by kernel_rfl)) (Fl_val rfl (r_gtrF rfl rfl h1) (s_pick rfl ?_)))))
  by_cases h2 : (1048576 : Int) < (r.pw.size : Int)
  · refine s_move (Fl_val rfl (r_field0 rfl (by kernel_rfl)) (Fl_val rfl (r_load rfl (by kernel_rfl) (hs.cell (k := 6) rfl)) (Fl_val rfl (r_lenStr rfl (by kernel_rfl)) (Fl_val rfl (r_gtrT rfl rfl h2) (s_pick rfl ?_)))))
    refine s_move (Fl_pass rfl (Fl_pass rfl (Fl_pass rfl (Fl_pass rfl (s_pick rfl ?_)))))
    refine Fl_nil (th_n ?_)
    refine Cw_true rfl rfl rfl (Cw_seq (Cw_region (by kernel_rfl) ?_))
    refine s_assign (Fl_nil (th_n ?_))
    exact Cw_ret ⟨⟨_, rfl⟩, hk⟩
  refine s_move (Fl_val rfl (r_field0 rfl (by kernel_rfl)) (Fl_val rfl (r_load rfl (by kernel_rfl) (hs.cell (k := 6) rfl)) (Fl_val rfl (r_lenStr rfl (by kernel_rfl)) (Fl_val rfl (r_gtrF rfl rfl h2) (s_pick rfl ?_)))))
  by_cases h3 : (1048576 : Int) < (r.mi.size : Int)
  · refine s_move (Fl_val rfl (r_field0 rfl (by kernel_rfl)) (Fl_val rfl (r_load rfl (by kernel_rfl) (hs.cell (k := 7) rfl)) (Fl_val rfl (r_lenStr rfl (by kernel_rfl)) (Fl_val rfl (r_gtrT rfl rfl h3) (s_pick rfl ?_)))))
    refine Fl_nil (th_n ?_)
    refine Cw_true rfl rfl rfl (Cw_seq (Cw_region (by kernel_rfl) ?_))
    refine s_assign (Fl_nil (th_n ?_))
    exact Cw_ret ⟨⟨_, rfl⟩, hk⟩
  refine s_move (Fl_val rfl (r_field0 rfl (by kernel_rfl)) (Fl_val rfl (r_load rfl (by kernel_rfl) (hs.cell (k := 7) rfl)) (Fl_val rfl (r_lenStr rfl (by kernel_rfl)) (Fl_val rfl (r_gtrF rfl rfl h3) (s_pick rfl ?_)))))
  refine Fl_nil (th_n ?_)
  refine Cw_false rfl rfl rfl (Cw_skip (th_n ?_))
  refine Cw_fr [(1, .pointer (some ⟨w.heap.size, 0, none⟩))] ⟨rfl, trivial⟩ (fun g => ?_)
  refine Cw_seq (Cw_region (by kernel_rfl) ?_)
  refine s_field rfl (by kernel_rfl) (s_load rfl (by kernel_rfl) (hs.cell rfl) (s_lenStr rfl (by kernel_rfl) (s_addX rfl rfl fun z0 => ?_)))
  refine s_field rfl (by kernel_rfl) (s_load rfl (by kernel_rfl) (hs.cell rfl) (s_lenStr rfl (by kernel_rfl) (s_addX rfl rfl fun z1 => ?_)))
  refine s_field rfl (by kernel_rfl) (s_load rfl (by kernel_rfl) (hs.cell rfl) (s_lenStr rfl (by kernel_rfl) (s_addX rfl rfl fun z2 => ?_)))
  refine s_field rfl (by kernel_rfl) (s_load rfl (by kernel_rfl) (hs.cell rfl) (s_lenStr rfl (by kernel_rfl) (s_addX rfl rfl fun z3 => ?_)))
  refine s_assign (Fl_nil (th_n ?_))
  exact Cw_ret ⟨⟨_, rfl⟩, hk⟩

theorem attr_any (r : Rw) (w : World) : Calls Try.prog 12 #[.agg (rowL r).toArray] w fun e w' => ∃ v, e = .returned v ∧ (v = .agg (atL r).toArray ∧ Keeps w w' noB) := by
  refine enterR (args := [_]) (R := fun v w' => v = .agg (atL r).toArray ∧ Keeps w w' noB) Try.func12 rfl Try.ntmps12 rfl ?_
  refine Cw_seq (Cw_region (by kernel_rfl) ?_)
  refine s_boxV (cs := rowL r) rfl fun w1 hs hk1 hz1 => s_allocV (cs := atL z0) (by kernel_rfl) fun w2 ht hk2 _ => Fl_nil (th_n ?_)
  have hs2 := hs.keep hk2 (fun h => h)
  refine Cw_seq (Cw_region (by kernel_rfl) ?_)
  refine s_field rfl (by kernel_rfl) (s_load rfl (by kernel_rfl) (hs2.cell rfl) ?_)
  refine s_field rfl (by kernel_rfl) (s_load rfl (by kernel_rfl) (hs2.cell rfl) ?_)
  refine s_field rfl (by kernel_rfl) (s_load rfl (by kernel_rfl) (hs2.cell rfl) ?_)
  refine s_build (v := .agg #[.int .i64 r.sc, .bool r.li]) (by kernel_rfl) ?_
  refine s_field rfl (by kernel_rfl) (s_load rfl (by kernel_rfl) (hs2.cell rfl) ?_)
  refine s_field rfl (by kernel_rfl) (s_load rfl (by kernel_rfl) (hs2.cell rfl) ?_)
  refine s_field rfl (by kernel_rfl) (s_load rfl (by kernel_rfl) (hs2.cell rfl) ?_)
  refine s_field rfl (by kernel_rfl) (s_load rfl (by kernel_rfl) (hs2.cell rfl) ?_)
  refine s_field rfl (by kernel_rfl) (s_load rfl (by kernel_rfl) (hs2.cell rfl) ?_)
  refine s_build (v := .agg (atL r).toArray) (by kernel_rfl) ?_
  refine s_storeV (cs := atL z0) (cs' := atL r) rfl rfl (by kernel_rfl) rfl (oc_at r) ht fun w3 ht3 hk3 _ => Fl_nil (th_n ?_)
  refine Cw_ret ⟨_, resC Try.results12 rfl rfl (by kernel_rfl) ht3, rfl, ?_⟩
  exact (hk1.on hk2).into (by omega) hk3

theorem rowsBytes_any (w : World) (v : Value) (n : Nat) (R : Nat → Rw) (h : rowsA w v n R) (hn : n ≤ 65536) : Calls Try.prog 10 #[v] w fun e w' => ∃ v, e = .returned v ∧ ((∃ z, v = .int .i64 z) ∧ Keeps w w' noB) := by
  obtain ⟨a, cap, rfl, hnn, hr⟩ := h
  refine enter1 (args := [_]) (R := fun v w' => (∃ z, v = .int .i64 z) ∧ Keeps w w' noB) Try.func10 rfl Try.ntmps10 Try.results10 rfl rfl ?_
  refine Cw_seq (Cw_region (by kernel_rfl) ?_)
  refine s_assign (Fl_nil (th_n ?_))
  refine Cw_seq (Cw_region (by kernel_rfl) ?_)
  refine s_assign (Fl_nil (th_n ?_))
  refine Cw_seq (Cw_seq (Cw_region (by kernel_rfl) ?_))
  refine s_assign (Fl_nil (th_n ?_))
  refine Cw_block (Cw_loop (fun m f w' => ∃ g i z, f = sets [(0, .slice a n cap), (3, .int .i64 z), (4, .int .i64 ((i : Nat) : Int))] g ∧ m + i = n ∧ Keeps w w' noB) n ⟨_, 0, 0, sets_known ⟨rfl, rfl, rfl, trivial⟩, rfl, Keeps.refl _ _⟩ ?_)
  rintro m f w' ⟨g, i, z, rfl, hm, hk⟩
  refine Cw_seq (Cw_seq (Cw_region (by kernel_rfl) ?_))
  refine s_move (s_move (s_lenS rfl (by kernel_rfl) (s_lss rfl rfl (Fl_nil (th_n ?_)))))
  refine Cw_cond rfl rfl (fun hb => ?_) (fun hb => ?_)
  · have hi : i < n := by have := of_decide_eq_true hb; omega
    refine Cw_skip (th_n ?_)
    refine Cw_seq (Cw_block (Cw_seq (Cw_region (by kernel_rfl) ?_)))
    obtain ⟨b, o, rfl, hc⟩ := hr i hi
    refine s_move (s_move (s_move (s_indexS rfl rfl rfl hi (by kernel_rfl) (s_loadA (cs := rowL (R i)) rfl (by kernel_rfl) (fun j u hu => keep_cell hk (fun h => h) (hc j u hu)) (s_cv (by kernel_rfl) rfl (rowBytes_any (R i) w') fun v1 w2 h1 => ?_)))))
    obtain ⟨⟨z1, rfl⟩, hk2⟩ := h1
    refine s_addX rfl rfl fun z2 => s_assign (Fl_nil (th_n ?_))
    refine Cw_seq (Cw_region (by kernel_rfl) ?_)
    refine s_move (s_gtr rfl rfl (Fl_nil (th_n ?_)))
    refine Cw_cond rfl rfl (fun hb => ?_) (fun hb => ?_)
    · refine Cw_seq (Cw_region (by kernel_rfl) ?_)
      refine s_move (s_assign (Fl_nil (th_n ?_)))
      exact Cw_ret ⟨⟨_, rfl⟩, hk.on hk2⟩
    · refine Cw_skip (ib_n (th_n ?_))
      refine Cw_region (by kernel_rfl) ?_
      refine s_move (s_add rfl rfl (by omega) (s_assign (Fl_nil (th_n ?_))))
      exact ⟨m - 1, by omega, _, i + 1, z2, sets_known ⟨rfl, rfl, rfl, trivial⟩, by omega, hk.on hk2⟩
  · refine Cw_exit (ex_th (ex_th (ex_in (th_n ?_))))
    refine Cw_seq (Cw_region (by kernel_rfl) ?_)
    refine s_move (s_assign (Fl_nil (th_n ?_)))
    exact Cw_ret ⟨⟨_, rfl⟩, hk⟩
end Go.Proofs.Qxb6000102a

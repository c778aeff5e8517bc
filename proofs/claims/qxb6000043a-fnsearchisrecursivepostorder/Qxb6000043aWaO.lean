/-
  WALKS, O: ZZSearch, ZZOrder, ZZLeft, zzReachable. Own work.
-/
import Derived.Test.Qxb6000043aWaN
namespace Go.Proofs.Qxb6000043a
open Go.Fw Go.Proofs.Qxb6000043a.Pl Go.RowKit
set_option maxRecDepth 10000

theorem zzsearch_any (a b c : Value) (w : World) (R : World → Prop) (h : Calls Try.prog 39 #[a, b, c] w fun e w' => ∃ v, e = .returned v ∧ R w') :
    Calls Try.prog 21 #[a, b, c] w fun e w' => ∃ v, e = .returned v ∧ R w' := by
  refine enter0 (args := [_, _, _]) (R := R) Try.func21 rfl Try.ntmps21 Try.results21 rfl ?_
  refine Cw_region (by kernel_rfl) ?_
  refine s_move (s_move (s_move ?_))
  refine s_c3 (R := fun _ w' => R w') (by kernel_rfl) rfl rfl rfl h ?_
  intro v1 w1 h1
  exact Fl_nil h1

/-- ZZOrder: a copy. -/
theorem zzorder_any (w : World) (B : Nat) (vO : Value) (L : List Nat) (hO : w.cell? ⟨B, 6, none⟩ = some vO) (hL : w.ownsRow 0 54 1 vO L.length (i32s L)) (hn : L.length ≤ 1048576) :
    Calls Try.prog 22 #[.pointer (some ⟨B, 0, none⟩)] w fun e w' => ∃ r, e = .returned r ∧ (r = whole w.heap.size L.length ∧ arr w' w.heap.size 21 L.length (fun i => .int .i32 ((L.getD i 0 : Nat) : Int)) ∧ Keeps w w' noB) := by
  refine enter1 (args := [_]) (R := fun r w' => r = whole w.heap.size L.length ∧ arr w' w.heap.size 21 L.length (fun i => .int .i32 ((L.getD i 0 : Nat) : Int)) ∧ Keeps w w' noB) Try.func22 rfl Try.ntmps22 Try.results22 rfl rfl ?_
  obtain ⟨a, cap, rfl, hcap⟩ := own_val hL
  refine Cw_seq (Cw_region (by kernel_rfl) ?_)
  refine s_assign (Fl_nil (th_n ?_))
  refine Cw_seq (Cw_region (by kernel_rfl) ?_)
  refine s_move (s_nilP rfl (s_field rfl (by kernel_rfl) (s_load rfl (by kernel_rfl) hO (s_lenS rfl (by kernel_rfl) (s_make rfl rfl rfl rfl (Nat.le_refl _) slz35 rfl (by omega) (by omega) fun w1 ha1 hk1 hz1 => (s_assign (Fl_nil (th_n ?_))))))))
  refine Cw_seq (Cw_seq (Cw_region (by kernel_rfl) ?_))
  refine s_assign (Fl_nil (th_n ?_))
  refine Cw_block ?_
  refine Cw_loop (fun m f w' => ∃ g j G, f = sets [(0, .pointer (some ⟨B, 0, none⟩)), (3, .slice (some ⟨w.heap.size, 0, none⟩) L.length L.length), (4, .int .i64 ((j : Nat) : Int))] g ∧ j ≤ L.length ∧ arr w' w.heap.size 21 L.length G ∧ (∀ i, i < j → G i = .int .i32 ((L.getD i 0 : Nat) : Int)) ∧ Keeps w w' noB ∧ m = L.length - j) (L.length - 0)
    ⟨_, 0, _, sets_known ⟨rfl, rfl, rfl, trivial⟩, by omega, ha1, fun i hi => by omega, hk1, rfl⟩ ?_
  clear ha1 hk1 hz1
  rintro m f w' ⟨g, j, G, rfl, hj, hG, hGi, hk, rfl⟩
  have hO' := keep_cell hk (fun h => h) hO
  refine Cw_seq (Cw_seq (Cw_region (by kernel_rfl) ?_))
  refine s_move (s_move (s_nilP rfl (s_field rfl (by kernel_rfl) (s_load rfl (by kernel_rfl) hO' (s_lenS rfl (by kernel_rfl) (s_lss rfl rfl (Fl_nil (th_n ?_))))))))
  refine Cw_cond rfl rfl (fun hb => ?_) (fun hb => ?_)
  · have hj' : j < L.length := by have := of_decide_eq_true hb; omega
    obtain ⟨gO, capO, he, _⟩ := own_some hL (by omega)
    simp only [Value.slice.injEq, true_and] at he
    obtain ⟨rfl, rfl⟩ := he
    have hc := own_cell (own_keep hL hk (fun _ _ h => h)) (j := j) (u := .int .i32 ((L.getD j 0 : Nat) : Int)) (by omega) (by simp [i32s, hj'])
    refine Cw_skip (th_n ?_)
    refine Cw_seq (Cw_block (Cw_region (by kernel_rfl) ?_))
    refine s_move (s_move (s_move (s_nilP rfl (s_field rfl (by kernel_rfl) (s_load rfl (by kernel_rfl) hO' (s_move (s_index rfl rfl rfl hj' (by kernel_rfl) (s_load rfl (by kernel_rfl) hc (s_index rfl rfl rfl hj' (by kernel_rfl) (s_store (v := .int .i32 ((L.getD j 0 : Nat) : Int)) rfl rfl (by kernel_rfl) rfl (hG.cell hj') (hG.frozen j) (Fl_nil (ib_n (th_n ?_)))))))))))))
    refine Cw_region (by kernel_rfl) ?_
    refine s_move (s_add rfl rfl (by omega) (s_assign (Fl_nil (th_n ?_))))
    refine ⟨L.length - (j + 1), by omega, _, j + 1, _, sets_known ⟨rfl, rfl, rfl, trivial⟩, by omega, hG.set j _, fun i hi => ?_, hk.trans (Keeps.setCell _ _ _) (fun _ _ h => h) (fun q hq h => by have h : q = w.heap.size := h; omega), rfl⟩
    by_cases hij : i = j
    · subst hij; rw [upd_same]
    · rw [upd_ne _ _ hij]; exact hGi i (by omega)
  · have hj' : j = L.length := by have := of_decide_eq_false hb; omega
    subst hj'
    refine Cw_exit (ex_th (ex_th (ex_in (th_n ?_))))
    refine Cw_seq (Cw_region (by kernel_rfl) ?_)
    refine s_move (s_assign (Fl_nil (th_n ?_)))
    exact Cw_ret ⟨rfl, hG.congr hGi, hk⟩

/-- ZZLeft: a copy. -/
theorem zzleft_any (w : World) (B BL n : Nat) (z : Nat → Int) (hO : w.cell? ⟨B, 5, none⟩ = some (whole BL n)) (hL : arr w BL 21 n (fun i => .int .i32 (z i))) (hn : n ≤ 1048576) :
    Calls Try.prog 23 #[.pointer (some ⟨B, 0, none⟩)] w fun e w' => ∃ r, e = .returned r ∧ (r = whole w.heap.size n ∧ arr w' w.heap.size 21 n (fun i => .int .i32 (z i)) ∧ Keeps w w' noB) := by
  refine enter1 (args := [_]) (R := fun r w' => r = whole w.heap.size n ∧ arr w' w.heap.size 21 n (fun i => .int .i32 (z i)) ∧ Keeps w w' noB) Try.func23 rfl Try.ntmps23 Try.results23 rfl rfl ?_
  refine Cw_seq (Cw_region (by kernel_rfl) ?_)
  refine s_assign (Fl_nil (th_n ?_))
  refine Cw_seq (Cw_region (by kernel_rfl) ?_)
  refine s_move (s_nilP rfl (s_field rfl (by kernel_rfl) (s_load rfl (by kernel_rfl) hO (s_lenS rfl (by kernel_rfl) (s_make rfl rfl rfl rfl (Nat.le_refl _) slz35 rfl (by omega) (by omega) fun w1 ha1 hk1 hz1 => (s_assign (Fl_nil (th_n ?_))))))))
  refine Cw_seq (Cw_seq (Cw_region (by kernel_rfl) ?_))
  refine s_assign (Fl_nil (th_n ?_))
  refine Cw_block ?_
  refine Cw_loop (fun m f w' => ∃ g j G, f = sets [(0, .pointer (some ⟨B, 0, none⟩)), (3, .slice (some ⟨w.heap.size, 0, none⟩) n n), (4, .int .i64 ((j : Nat) : Int))] g ∧ j ≤ n ∧ arr w' w.heap.size 21 n G ∧ (∀ i, i < j → G i = .int .i32 (z i)) ∧ Keeps w w' noB ∧ m = n - j) (n - 0)
    ⟨_, 0, _, sets_known ⟨rfl, rfl, rfl, trivial⟩, by omega, ha1, fun i hi => by omega, hk1, rfl⟩ ?_
  clear ha1 hk1 hz1
  rintro m f w' ⟨g, j, G, rfl, hj, hG, hGi, hk, rfl⟩
  have hO' := keep_cell hk (fun h => h) hO
  have hL' := hL.keep hk (fun h => h)
  refine Cw_seq (Cw_seq (Cw_region (by kernel_rfl) ?_))
  refine s_move (s_move (s_nilP rfl (s_field rfl (by kernel_rfl) (s_load rfl (by kernel_rfl) hO' (s_lenS rfl (by kernel_rfl) (s_lss rfl rfl (Fl_nil (th_n ?_))))))))
  refine Cw_cond rfl rfl (fun hb => ?_) (fun hb => ?_)
  · have hj' : j < n := by have := of_decide_eq_true hb; omega
    refine Cw_skip (th_n ?_)
    refine Cw_seq (Cw_block (Cw_region (by kernel_rfl) ?_))
    refine s_move (s_move (s_move (s_nilP rfl (s_field rfl (by kernel_rfl) (s_load rfl (by kernel_rfl) hO' (s_move (s_index rfl rfl rfl hj' (by kernel_rfl) (s_load rfl (by kernel_rfl) (hL'.cell hj') (s_index rfl rfl rfl hj' (by kernel_rfl) (s_store (v := .int .i32 (z j)) rfl rfl (by kernel_rfl) rfl (hG.cell hj') (hG.frozen j) (Fl_nil (ib_n (th_n ?_)))))))))))))
    refine Cw_region (by kernel_rfl) ?_
    refine s_move (s_add rfl rfl (by omega) (s_assign (Fl_nil (th_n ?_))))
    refine ⟨n - (j + 1), by omega, _, j + 1, _, sets_known ⟨rfl, rfl, rfl, trivial⟩, by omega, hG.set j _, fun i hi => ?_, hk.trans (Keeps.setCell _ _ _) (fun _ _ h => h) (fun q hq h => by have h : q = w.heap.size := h; omega), rfl⟩
    by_cases hij : i = j
    · subst hij; rw [upd_same]
    · rw [upd_ne _ _ hij]; exact hGi i (by omega)
  · have hj' : j = n := by have := of_decide_eq_false hb; omega
    subst hj'
    refine Cw_exit (ex_th (ex_th (ex_in (th_n ?_))))
    refine Cw_seq (Cw_region (by kernel_rfl) ?_)
    refine s_move (s_assign (Fl_nil (th_n ?_)))
    exact Cw_ret ⟨rfl, hG.congr hGi, hk⟩

/-! ### zzReachable -/
def setB (f : Nat → Bool) (d : Nat) (x : Bool) (i : Nat) : Bool := if i = d then x else f i
theorem arr_setB {w : World} {b n : Nat} {e : TypeId} {ps : Nat → Bool} (h : arr w b e n (fun v => .bool (ps v))) (d : Nat) (x : Bool) : arr (w.setCell ⟨b, d, none⟩ (.bool x)) b e n (fun v => .bool (setB ps d x v)) :=
  (h.set d _).congr (fun i _ => by
    by_cases hi : i = d
    · subst hi; rw [upd_same]; simp [setB]
    · rw [upd_ne _ _ hi]; simp [setB, hi])
/-- The queue before the t-th edge of its h-th. -/
structure Bq (G : Gr) (r : Nat) (q : List Nat) (rc : Nat → Bool) (h t : Nat) : Prop where
  lt : ∀ x, x ∈ q → x < G.n
  nd : q.Nodup
  rt : r ∈ q
  mem : ∀ x, rc x = true ↔ x ∈ q
  rch : ∀ x, x ∈ q → Pl.Reach G r x
  dn : ∀ i x, i < h → q[i]? = some x → ∀ j, j < G.len x → G.e x j ∈ q
  cur : ∀ x, q[h]? = some x → ∀ j, j < t → G.e x j ∈ q
theorem Bq.len {G : Gr} {r : Nat} {q : List Nat} {rc : Nat → Bool} {h t : Nat} (H : Bq G r q rc h t) : q.length ≤ G.n := by
  have := H.nd.length_le_of_subset (l₂ := List.range G.n) (fun x hx => List.mem_range.2 (H.lt x hx))
  simpa using this
theorem Bq.init {G : Gr} {r : Nat} (hr : r < G.n) : Bq G r [r] (setB (fun _ => false) r true) 0 0 := by
  refine ⟨fun x hx => ?_, by simp, by simp, fun x => ?_, fun x hx => ?_, fun i x hi => by omega, fun x _ j hj => by omega⟩
  · simp at hx; omega
  · simp [setB]
  · simp at hx; subst hx; exact ⟨0, rfl⟩
theorem Bq.skip {G : Gr} {r x : Nat} {q : List Nat} {rc : Nat → Bool} {h t : Nat} (H : Bq G r q rc h t) (hx : q[h]? = some x) (hm : rc (G.e x t) = true) : Bq G r q rc h (t + 1) := by
  refine ⟨H.lt, H.nd, H.rt, H.mem, H.rch, H.dn, fun y hy j hj => ?_⟩
  rw [hx] at hy; cases hy
  by_cases he : j = t
  · subst he; exact (H.mem _).1 hm
  · exact H.cur x hx j (by omega)
theorem Bq.push {G : Gr} {r x : Nat} {q : List Nat} {rc : Nat → Bool} {h t : Nat} (H : Bq G r q rc h t) (hx : q[h]? = some x) (ht : t < G.len x) (hn : G.e x t < G.n) (hm : rc (G.e x t) = false) : Bq G r (q ++ [G.e x t]) (setB rc (G.e x t) true) h (t + 1) := by
  have hxq : x ∈ q := List.mem_of_getElem? hx
  have hh : h < q.length := (List.getElem?_eq_some_iff.1 hx).1
  have hnm : G.e x t ∉ q := fun h => by have := (H.mem _).2 h; rw [hm] at this; cases this
  refine ⟨fun y hy => ?_, ?_, by simp [H.rt], fun y => ?_, fun y hy => ?_, fun i y hi hy j hj => ?_, fun y hy j hj => ?_⟩
  · simp at hy
    rcases hy with hy | rfl
    · exact H.lt y hy
    · exact hn
  · rw [List.nodup_append]
    exact ⟨H.nd, by simp, fun a ha b hb e => by simp at hb; subst hb; subst e; exact hnm ha⟩
  · unfold setB
    split
    · rename_i e; subst e; simp
    · rename_i e; rw [H.mem]; simp [e]
  · simp at hy
    rcases hy with hy | rfl
    · exact H.rch y hy
    · exact (H.rch x hxq).edge ht
  · rw [List.getElem?_append_left (by omega)] at hy
    simp [H.dn i y hi hy j hj]
  · rw [List.getElem?_append_left hh, hx] at hy
    cases hy
    by_cases he : j = t
    · subst he; simp
    · simp [H.cur x hx j (by omega)]
theorem Bq.next {G : Gr} {r x : Nat} {q : List Nat} {rc : Nat → Bool} {h t : Nat} (H : Bq G r q rc h t) (hx : q[h]? = some x) (ht : t = G.len x) : Bq G r q rc (h + 1) 0 := by
  refine ⟨H.lt, H.nd, H.rt, H.mem, H.rch, fun i y hi hy j hj => ?_, fun y _ j hj => by omega⟩
  by_cases he : i = h
  · subst he
    rw [hx] at hy; cases hy
    exact H.cur x hx j (by omega)
  · exact H.dn i y (by omega) hy j hj
theorem Bq.done {G : Gr} {r : Nat} {q : List Nat} {rc : Nat → Bool} {h t : Nat} (H : Bq G r q rc h t) (hh : q.length ≤ h) : ∀ x, rc x = true ↔ Pl.Reach G r x := by
  intro x
  rw [H.mem]
  refine ⟨H.rch x, ?_⟩
  rintro ⟨n, hn⟩
  induction n generalizing x with
  | zero => simp only [reachN] at hn; subst hn; exact H.rt
  | succ n ih =>
    obtain ⟨u, i, h1, h2, rfl⟩ := hn
    obtain ⟨k, hk⟩ := List.mem_iff_getElem?.1 (ih u h1)
    have := (List.getElem?_eq_some_iff.1 hk).1
    exact H.dn k u (by omega) hk i h2

set_option maxHeartbeats 1000000 in
theorem reachable_any (G : Gr) (hG : G.Ok) (r : Nat) (hr : r < G.n) (hn : G.n ≤ 4096) (hlen : ∀ i, i < G.n → G.len i ≤ 1048576) (R : Nat → Prop) (w : World) (v : Value) (hE : irows R w v G.n G.len (fun x i => (G.e x i : Int))) :
    Calls Try.prog 28 #[v, .int .i32 (r : Int)] w fun e w' => ∃ u, e = .returned u ∧ (∃ rc : Nat → Bool, u = whole w.heap.size G.n ∧ arr w' w.heap.size 4 G.n (fun x => .bool (rc x)) ∧ (∀ x, rc x = true ↔ Pl.Reach G r x) ∧ Keeps w w' noB) := by
  obtain ⟨b, o, cap, hRb, rfl, hcell⟩ := hE.form hr
  refine enter1 (args := [_, _]) (R := fun u w' => ∃ rc : Nat → Bool, u = whole w.heap.size G.n ∧ arr w' w.heap.size 4 G.n (fun x => .bool (rc x)) ∧ (∀ x, rc x = true ↔ Pl.Reach G r x) ∧ Keeps w w' noB) Try.func28 rfl Try.ntmps28 Try.results28 rfl rfl ?_
  refine Cw_seq (Cw_region (by kernel_rfl) ?_)
  refine s_assign (Fl_nil (th_n ?_))
  refine Cw_seq (Cw_region (by kernel_rfl) ?_)
  refine s_move (s_lenS rfl (by kernel_rfl) (s_make rfl rfl rfl rfl (Nat.le_refl _) slz41 rfl (by omega) (by omega) fun w1 ha1 hk1 hz1 => (s_assign (Fl_nil (th_n ?_)))))
  refine Cw_seq (Cw_region (by kernel_rfl) ?_)
  refine s_move (s_lenS rfl (by kernel_rfl) (s_make (n := 0) rfl rfl rfl rfl (by omega) slz35 rfl (by omega) (by omega) fun w2 ha2 hk2 hz2 => (s_assign (Fl_nil (th_n ?_)))))
  have hr2 := ha1.keep hk2 (fun h => h)
  have hq2 := own0 ha2 (by simp only [maxLen]; omega)
  have hkw2 : Keeps w w2 noB := hk1.trans hk2 (fun _ _ h => h) (fun _ _ h => h)
  have hgq : w.heap.size < w1.heap.size := by omega
  generalize w1.heap.size = g0 at *
  clear ha1 ha2 hk1 hk2
  refine Cw_seq (Cw_region (by kernel_rfl) ?_)
  refine s_move (s_move (s_index rfl rfl rfl hr (by kernel_rfl) (s_store (v := .bool true) rfl rfl (by kernel_rfl) rfl (hr2.cell hr) (hr2.frozen r) (Fl_nil (th_n ?_)))))
  have hr3 := arr_setB (ps := fun _ => false) hr2 r true
  have hks3 := Keeps.setCell w2 ⟨w.heap.size, r, none⟩ (.bool true)
  have hq3 := own_keep hq2 hks3 (fun g hg h => by
    have hg : some g0 = some g := hg
    have h : g = w.heap.size := h
    cases hg; omega)
  have hk3 : Keeps w (w2.setCell ⟨w.heap.size, r, none⟩ (.bool true)) noB := hkw2.trans hks3 (fun _ _ h => h) (fun q hq h => by have h : q = w.heap.size := h; omega)
  generalize w2.setCell ⟨w.heap.size, r, none⟩ (.bool true) = w3 at hr3 hq3 hk3 ⊢
  clear hr2 hq2 hkw2 hks3 hz2
  refine Cw_seq (Cw_region (by kernel_rfl) ?_)
  have hal := hq3.alloc (.cells #[.int .i32 (r : Int)] 21)
  refine s_move (s_move (s_lit1 (v := .int .i32 (r : Int)) rfl slz35 rfl rfl (s_append rfl rfl slz35 (by omega) rfl hal (news := [.int .i32 (r : Int)]) rfl (World.news_of_block (heap_alloc_new w3 _)) (by intro u hu; simp at hu; subst hu; rfl) (by omega) (by omega) (by omega) ?_)))
  intro g5 cap5 w5 ho5 hk5 hg5 _
  refine s_assign (Fl_nil (th_n ?_))
  have hg5' : w.heap.size < g5 := by
    rcases hg5 with h | h
    · have h : some g0 = some g5 := h
      cases h; exact hgq
    · rw [size_alloc] at h; have := hk3.size; omega
  have hk35 : Keeps w3 w5 (fun q => some q = some g0) := (Keeps.alloc w3 _ noB).trans hk5 (fun _ _ h => h.elim) (fun _ _ h => h)
  have hr5 := hr3.keep hk35 (fun h => by cases h; omega)
  have hkw5 : Keeps w w5 noB := hk3.trans hk35 (fun _ _ h => h) (fun q hq h => by cases h; omega)
  clear hk35 hk5 hg5 hr3 hk3 hal hq3
  refine Cw_seq (Cw_seq (Cw_region (by kernel_rfl) ?_))
  refine s_assign (Fl_nil (th_n ?_))
  refine Cw_block ?_
  refine Cw_loop (fun m f w' => ∃ g h q vQ rc, f = sets [(0, .slice (some ⟨b, o, none⟩) G.n cap), (5, .slice (some ⟨w.heap.size, 0, none⟩) G.n G.n), (6, vQ), (7, .int .i64 ((h : Nat) : Int))] g ∧ Bq G r q rc h 0 ∧ h ≤ q.length ∧ w'.ownsRow 0 21 1 vQ q.length (i32s q) ∧ (∀ g, vQ.ownBlock = some g → w.heap.size < g) ∧
    arr w' w.heap.size 4 G.n (fun x => .bool (rc x)) ∧ Keeps w w' noB ∧ m = G.n - h) (G.n - 0)
    ⟨_, 0, [r], _, _, sets_known ⟨rfl, rfl, rfl, rfl, trivial⟩, Bq.init hr, Nat.zero_le _, ho5, fun g hg => by
      have hg : some g5 = some g := hg
      cases hg; exact hg5', hr5, hkw5, rfl⟩ ?_
  clear ho5 hr5 hkw5 hg5'
  rintro m f w' ⟨g, h, q, vQ, rc, rfl, hB, hh, hown, hob, hrc, hk, rfl⟩
  have hql := hB.len
  obtain ⟨aQ, capQ, rfl, _⟩ := own_val hown
  refine Cw_seq (Cw_seq (Cw_region (by kernel_rfl) ?_))
  refine s_move (s_move (s_lenS rfl (by kernel_rfl) (s_lss rfl rfl (Fl_nil (th_n ?_)))))
  refine Cw_cond rfl rfl (fun hb => ?_) (fun hb => ?_)
  · have hh' : h < q.length := by have := of_decide_eq_true hb; omega
    obtain ⟨gQ, capQ', he, _⟩ := own_some hown (by omega)
    simp only [Value.slice.injEq, true_and] at he
    obtain ⟨rfl, rfl⟩ := he
    obtain ⟨x, hx⟩ : ∃ x, q[h]? = some x := ⟨q[h], List.getElem?_eq_getElem hh'⟩
    have hxn := hB.lt x (List.mem_of_getElem? hx)
    have hc := own_cell hown (j := h) (u := .int .i32 (x : Int)) (by omega) (by simp [i32s, hx])
    refine Cw_skip (th_n ?_)
    refine Cw_seq (Cw_block ?_)
    refine Cw_seq (Cw_region (by kernel_rfl) ?_)
    refine s_move (s_move (s_index rfl rfl rfl hh' (by kernel_rfl) (s_load rfl (by kernel_rfl) hc (s_assign (Fl_nil (th_n ?_))))))
    refine Cw_seq (Cw_region (by kernel_rfl) ?_)
    refine s_assign (Fl_nil (th_n ?_))
    refine Cw_block ?_
    obtain ⟨u, hu, hur⟩ := hcell x hxn
    obtain ⟨a2, cap2, rfl⟩ := hur.val
    have hlx := hlen x hxn
    refine Cw_loop (fun m f w' => ∃ g t q vQ rc, f = sets [(0, .slice (some ⟨b, o, none⟩) G.n cap), (5, .slice (some ⟨w.heap.size, 0, none⟩) G.n G.n), (6, vQ), (7, .int .i64 ((h : Nat) : Int)), (8, .int .i32 (x : Int)), (9, .int .i64 ((t : Nat) : Int))] g ∧ t ≤ G.len x ∧ Bq G r q rc h t ∧ q[h]? = some x ∧ w'.ownsRow 0 21 1 vQ q.length (i32s q) ∧ (∀ g, vQ.ownBlock = some g → w.heap.size < g) ∧
      arr w' w.heap.size 4 G.n (fun x => .bool (rc x)) ∧ Keeps w w' noB ∧ m = G.len x - t) (G.len x - 0)
      ⟨_, 0, q, _, rc, sets_known ⟨rfl, rfl, rfl, rfl, rfl, rfl, trivial⟩, Nat.zero_le _, hB, hx, hown, hob, hrc, hk, rfl⟩ ?_
    clear hB hx hown hob hrc hk hc hh hh' hql hb
    rintro m f w' ⟨g, t, q, vQ, rc, rfl, ht, hB, hx, hown, hob, hrc, hk, rfl⟩
    have hql := hB.len
    refine Cw_seq (Cw_seq (Cw_region (by kernel_rfl) ?_))
    refine s_move (s_move (s_move (s_indexO rfl rfl rfl hxn (by kernel_rfl) (s_load rfl (by kernel_rfl) (keep_cell hk (fun h => h) hu) (s_lenS rfl (by kernel_rfl) (s_lss rfl rfl (Fl_nil (th_n ?_))))))))
    refine Cw_cond rfl rfl (fun hb => ?_) (fun hb => ?_)
    · have ht' : t < G.len x := by have := of_decide_eq_true hb; omega
      obtain ⟨b4, o4, cap4, _, he4, hc4⟩ := (hur.keep hk (fun _ _ _ h => h)).form ht'
      simp only [Value.slice.injEq, true_and] at he4
      obtain ⟨rfl, rfl⟩ := he4
      have hen := hG x t hxn ht'
      refine Cw_skip (th_n ?_)
      refine Cw_seq (Cw_block ?_)
      refine Cw_seq (Cw_region (by kernel_rfl) ?_)
      refine s_move (s_move (s_indexO rfl rfl rfl hxn (by kernel_rfl) (s_load rfl (by kernel_rfl) (keep_cell hk (fun h => h) hu) (s_move (s_indexO rfl rfl rfl ht' (by kernel_rfl) (s_load rfl (by kernel_rfl) (hc4 t ht') (s_assign (Fl_nil (th_n ?_)))))))))
      refine Cw_seq (Cw_region (by kernel_rfl) ?_)
      refine s_move (s_move (s_index rfl rfl rfl hen (by kernel_rfl) (s_load rfl (by kernel_rfl) (hrc.cell hen) (s_not rfl (Fl_nil (th_n ?_))))))
      refine Cw_meetN (fun f' w' => ∃ g q vQ rc, f' = sets [(0, .slice (some ⟨b, o, none⟩) G.n cap), (5, .slice (some ⟨w.heap.size, 0, none⟩) G.n G.n), (6, vQ), (7, .int .i64 ((h : Nat) : Int)), (8, .int .i32 (x : Int)), (9, .int .i64 ((t : Nat) : Int))] g ∧ Bq G r q rc h (t + 1) ∧ q[h]? = some x ∧ w'.ownsRow 0 21 1 vQ q.length (i32s q) ∧ (∀ g, vQ.ownBlock = some g → w.heap.size < g) ∧
        arr w' w.heap.size 4 G.n (fun x => .bool (rc x)) ∧ Keeps w w' noB) ?_ ?_
      · refine Cw_cond rfl rfl (fun hd => ?_) (fun hd => ?_)
        · have hd' : rc (G.e x t) = false := by simpa using hd
          have hB' := hB.push hx ht' hen hd'
          refine Cw_seq (Cw_region (by kernel_rfl) ?_)
          refine s_move (s_move (s_index rfl rfl rfl hen (by kernel_rfl) (s_store (v := .bool true) rfl rfl (by kernel_rfl) rfl (hrc.cell hen) (hrc.frozen _) (Fl_nil (th_n ?_)))))
          have hr3 := arr_setB hrc (G.e x t) true
          have hks3 := Keeps.setCell w' ⟨w.heap.size, G.e x t, none⟩ (.bool true)
          have hq3 := own_keep hown hks3 (fun g hg h => by
            have := hob g hg
            have h : g = w.heap.size := h
            omega)
          have hk3 : Keeps w (w'.setCell ⟨w.heap.size, G.e x t, none⟩ (.bool true)) noB := hk.trans hks3 (fun _ _ h => h) (fun q hq h => by have h : q = w.heap.size := h; omega)
          generalize w'.setCell ⟨w.heap.size, G.e x t, none⟩ (.bool true) = w3 at hr3 hq3 hk3 ⊢
          clear hks3
          have hal := hq3.alloc (.cells #[.int .i32 ((G.e x t : Nat) : Int)] 21)
          refine Cw_region (by kernel_rfl) ?_
          refine s_move (s_move (s_lit1 (v := .int .i32 ((G.e x t : Nat) : Int)) rfl slz35 rfl rfl (s_append rfl rfl slz35 (by omega) rfl hal (news := [.int .i32 ((G.e x t : Nat) : Int)]) rfl (World.news_of_block (heap_alloc_new w3 _)) (by intro u hu; simp at hu; subst hu; rfl) (by omega) (by omega) (by omega) ?_)))
          intro g5 cap5 w5 ho5 hk5 hg5 _
          refine s_assign (Fl_nil (th_n ?_))
          have hs0 := hk3.size
          have hg5' : w.heap.size < g5 := by
            rcases hg5 with h | h
            · exact hob g5 h
            · rw [size_alloc] at h
              have := hr3.lt
              omega
          have hk35 : Keeps w3 w5 (fun q => some q = vQ.ownBlock) := (Keeps.alloc w3 _ noB).trans hk5 (fun _ _ h => h.elim) (fun _ _ h => h)
          refine ⟨_, q ++ [G.e x t], _, _, sets_known ⟨rfl, rfl, rfl, rfl, rfl, rfl, trivial⟩, hB', ?_, ?_, fun g hg => ?_, hr3.keep hk35 (fun h => by have := hob _ h.symm; omega), hk3.trans hk35 (fun _ _ h => h) (fun q hq h => by have := hob _ h.symm; omega)⟩
          · rw [List.getElem?_append_left (List.getElem?_eq_some_iff.1 hx).1]; exact hx
          · have e : i32s (q ++ [G.e x t]) = i32s q ++ [.int .i32 ((G.e x t : Nat) : Int)] := by simp [i32s]
            rw [e, List.length_append]
            exact ho5
          · have hg : some g5 = some g := hg
            cases hg; exact hg5'
        · have hd' : rc (G.e x t) = true := by simpa using hd
          exact Cw_skip (th_n ⟨_, q, _, _, sets_known ⟨rfl, rfl, rfl, rfl, rfl, rfl, trivial⟩, hB.skip hx hd', hx, hown, hob, hrc, hk⟩)
      · rintro f w6 ⟨g, q, vQ, rc, rfl, hB, hx, hown, hob, hrc, hk⟩
        refine ib_n (th_n ?_)
        refine Cw_region (by kernel_rfl) ?_
        refine s_move (s_add rfl rfl (by omega) (s_assign (Fl_nil (th_n ?_))))
        exact ⟨G.len x - (t + 1), by omega, _, t + 1, q, vQ, rc, sets_known ⟨rfl, rfl, rfl, rfl, rfl, rfl, trivial⟩, ht', hB, hx, hown, hob, hrc, hk, rfl⟩
    · have ht' : t = G.len x := by have := of_decide_eq_false hb; omega
      refine Cw_exit (ex_th (ex_th (ex_in (ib_n (th_n ?_)))))
      have hhl := (List.getElem?_eq_some_iff.1 hx).1
      refine Cw_region (by kernel_rfl) ?_
      refine s_move (s_add rfl rfl (by omega) (s_assign (Fl_nil (th_n ?_))))
      exact ⟨G.n - (h + 1), by omega, _, h + 1, q, vQ, rc, sets_known ⟨rfl, rfl, rfl, rfl, trivial⟩, hB.next hx ht', by omega, hown, hob, hrc, hk, rfl⟩
  · have hh' : h = q.length := by have := of_decide_eq_false hb; omega
    refine Cw_exit (ex_th (ex_th (ex_in (th_n ?_))))
    refine Cw_seq (Cw_region (by kernel_rfl) ?_)
    refine s_move (s_assign (Fl_nil (th_n ?_)))
    exact Cw_ret ⟨rc, rfl, hrc, hB.done (by omega), hk⟩
end Go.Proofs.Qxb6000043a

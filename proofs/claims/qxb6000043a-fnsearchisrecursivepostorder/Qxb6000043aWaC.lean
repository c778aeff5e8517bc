/-
  WALKS, C: zzReverse. Own work.
-/
import Derived.Test.Qxb6000043aTab
namespace Go.Proofs.Qxb6000043a
open Go.Fw
set_option maxRecDepth 10000

def i32s (l : List Nat) : List Value := l.map fun (y : Nat) => Value.int .i32 (y : Int)
theorem i32s_oc (l : List Nat) : ∀ u ∈ i32s l, oc u = true := by
  intro u hu
  simp only [i32s, List.mem_map] at hu
  obtain ⟨y, _, rfl⟩ := hu
  rfl
/-- Rows of the call's own behind the cells of block bw, apart from one another. -/
structure OwnRows (w : World) (bw n : Nat) (V : Nat → Value) (L : Nat → List Nat) : Prop where
  outer : arr w bw 35 n V
  own : ∀ x, x < n → w.ownsRow 0 21 1 (V x) (L x).length (i32s (L x))
  above : ∀ x, x < n → ∀ g, (V x).ownBlock = some g → bw < g
  apart : ∀ x y g, x < n → y < n → x ≠ y → (V x).ownBlock = some g → (V y).ownBlock ≠ some g
def lset (L : Nat → List Nat) (x : Nat) (l : List Nat) (z : Nat) : List Nat := if z = x then l else L z

/-- append to row x, and the new value stored. -/
theorem OwnRows.append {w w2 : World} {bw n x y g cap : Nat} {V : Nat → Value} {L : Nat → List Nat} {o : Obj} (h : OwnRows w bw n V L) (hx : x < n)
    (ho : w2.ownsRow 0 21 1 (.slice (some ⟨g, 0, none⟩) ((L x).length + 1) cap) ((L x).length + 1) (i32s (L x) ++ [.int .i32 (y : Int)])) (hk : Keeps (w.alloc o) w2 (fun k => some k = (V x).ownBlock))
    (hg : (V x).ownBlock = some g ∨ g = (w.alloc o).heap.size) :
    OwnRows (w2.setCell ⟨bw, x, none⟩ (.slice (some ⟨g, 0, none⟩) ((L x).length + 1) cap)) bw n (upd V x (.slice (some ⟨g, 0, none⟩) ((L x).length + 1) cap)) (lset L x (L x ++ [y])) ∧
    Keeps w (w2.setCell ⟨bw, x, none⟩ (.slice (some ⟨g, 0, none⟩) ((L x).length + 1) cap)) (fun k => k = bw ∨ some k = (V x).ownBlock) := by
  have hbw := h.outer.lt
  have hkw : Keeps w w2 (fun k => some k = (V x).ownBlock) := (Keeps.alloc w o noB).trans hk (fun _ _ h => h.elim) (fun _ _ h => h)
  have hnb : ¬ some bw = (V x).ownBlock := fun e => by have := h.above x hx bw e.symm; omega
  have hgb : bw < g := by
    rcases hg with hg | hg
    · exact h.above x hx g hg
    · rw [size_alloc] at hg; omega
  have hks := Keeps.setCell w2 ⟨bw, x, none⟩ (.slice (some ⟨g, 0, none⟩) ((L x).length + 1) cap)
  refine ⟨⟨(h.outer.keep hkw hnb).set x _, fun z hz => ?_, fun z hz g' hg' => ?_, fun z z' g' hz hz' hne hg' => ?_⟩, ?_⟩
  · by_cases hzx : z = x
    · subst hzx
      rw [upd_same]
      have e1 : (lset L z (L z ++ [y]) z) = L z ++ [y] := by simp [lset]
      rw [e1]
      have e2 : i32s (L z ++ [y]) = i32s (L z) ++ [.int .i32 (y : Int)] := by simp [i32s]
      have e3 : (L z ++ [y]).length = (L z).length + 1 := by simp
      rw [e2, e3]
      exact own_keep ho hks (fun g' hg' h' => by simp [Value.ownBlock] at hg'; subst hg'; have : g = bw := h'; omega)
    · rw [upd_ne _ _ hzx]
      have e1 : (lset L x (L x ++ [y]) z) = L z := by simp [lset, hzx]
      rw [e1]
      refine own_keep (own_keep (h.own z hz) hkw (fun g' hg' h' => ?_)) hks (fun g' hg' h' => ?_)
      · exact h.apart z x g' hz hx hzx hg' h'.symm
      · have := h.above z hz g' hg'
        have : g' = bw := h'
        omega
  · by_cases hzx : z = x
    · subst hzx
      rw [upd_same] at hg'
      simp [Value.ownBlock] at hg'
      omega
    · rw [upd_ne _ _ hzx] at hg'
      exact h.above z hz g' hg'
  · have hlt : ∀ q, q < n → ∀ k, (V q).ownBlock = some k → k < w.heap.size := fun q hq k hk' => own_lt (h.own q hq) hk'
    by_cases hzx : z = x
    · subst hzx
      rw [upd_same] at hg'
      rw [upd_ne _ _ (Ne.symm hne)]
      simp [Value.ownBlock] at hg'
      subst hg'
      intro hz2
      rcases hg with hg | hg
      · exact h.apart z z' g hz hz' hne hg hz2
      · have := hlt z' hz' g hz2
        rw [size_alloc] at hg
        omega
    · rw [upd_ne _ _ hzx] at hg'
      by_cases hz'x : z' = x
      · subst hz'x
        rw [upd_same]
        intro he
        simp [Value.ownBlock] at he
        subst he
        rcases hg with hg | hg
        · exact h.apart z z' g hz hz' hne hg' hg
        · have := hlt z hz g hg'
          rw [size_alloc] at hg
          omega
      · rw [upd_ne _ _ hz'x]
        exact h.apart z z' g' hz hz' hne hg'
  · exact hkw.trans hks (fun _ _ h => .inr h) (fun _ _ h => .inl h)

/-- zzReverse: row x holds those whose rows hold x. -/
theorem reverse_any (R : Nat → Prop) (w : World) (v : Value) (n : Nat) (len : Nat → Nat) (e : Nat → Nat → Nat) (hv : irows R w v n len (fun x i => (e x i : Int))) (hn : n ≤ 4096) (hlen : ∀ i, i < n → len i ≤ 1048576)
    (hval : ∀ x i, x < n → i < len x → e x i < n) :
    Calls Try.prog 14 #[v] w fun ee w' => ∃ r, ee = .returned r ∧ ((∃ L : Nat → List Nat, irows (new w w') w' r n (fun x => (L x).length) (fun x i => ((L x).getD i 0 : Nat)) ∧ (∀ x y, x < n → (y ∈ L x ↔ y < n ∧ ∃ t, t < len y ∧ e y t = x)) ∧ (∀ x, x < n → (L x).length ≤ n * 1048576)) ∧ Keeps w w' noB ∧ w.heap.size < w'.heap.size) := by
  obtain ⟨a0, cap0, rfl⟩ := hv.val
  refine enter1 (args := [_]) (R := fun r w' => (∃ L : Nat → List Nat, irows (new w w') w' r n (fun x => (L x).length) (fun x i => ((L x).getD i 0 : Nat)) ∧ (∀ x y, x < n → (y ∈ L x ↔ y < n ∧ ∃ t, t < len y ∧ e y t = x)) ∧ (∀ x, x < n → (L x).length ≤ n * 1048576)) ∧ Keeps w w' noB ∧ w.heap.size < w'.heap.size) Try.func14 rfl Try.ntmps14 Try.results14 rfl rfl ?_
  refine Cw_seq (Cw_region (by kernel_rfl) ?_)
  refine s_assign (Fl_nil (th_n ?_))
  refine Cw_seq (Cw_region (by kernel_rfl) ?_)
  refine s_move (s_lenS rfl (by kernel_rfl) (s_assign (Fl_nil (th_n ?_))))
  refine Cw_seq (Cw_region (by kernel_rfl) ?_)
  refine s_move (s_make rfl rfl rfl rfl (Nat.le_refl _) slz22 rfl (by omega) (by omega) fun w1 ha1 hk1 hz1 => s_assign (Fl_nil (th_n ?_)))
  refine Cw_seq (Cw_seq (Cw_region (by kernel_rfl) ?_))
  refine s_assign (Fl_nil (th_n ?_))
  refine Cw_block ?_
  refine Cw_loop (fun m f w' => ∃ g j V L, f = sets [(0, .slice a0 n cap0), (3, .int .i64 (n : Int)), (4, .slice (some ⟨w.heap.size, 0, none⟩) n n), (5, .int .i64 ((j : Nat) : Int))] g ∧ j ≤ n ∧ OwnRows w' w.heap.size n V L ∧
    (∀ x y, x < n → (y ∈ L x ↔ y < j ∧ ∃ t, t < len y ∧ e y t = x)) ∧ (∀ x, x < n → (L x).length ≤ j * 1048576) ∧ Keeps w w' noB ∧ w.heap.size < w'.heap.size ∧ m = n - j) (n - 0)
    ⟨_, 0, _, fun _ => [], sets_known ⟨rfl, rfl, rfl, rfl, trivial⟩, by omega, ⟨ha1, fun x hx => World.ownsRow_nil _ _ _ _, fun x hx g hg => by simp [Value.ownBlock] at hg, fun x y g _ _ _ hg => by simp [Value.ownBlock] at hg⟩,
      fun x y hx => by simp, fun x hx => by simp, hk1, by omega, rfl⟩ ?_
  rintro m f w' ⟨g, j, V, L, rfl, hj, hO, hmem, hll, hk, hsz, rfl⟩
  refine Cw_seq (Cw_seq (Cw_region (by kernel_rfl) ?_))
  refine s_move (s_move (s_lss rfl rfl (Fl_nil (th_n ?_))))
  refine Cw_cond rfl rfl (fun hb => ?_) (fun hb => ?_)
  · have hb' : j < n := by have := of_decide_eq_true hb; omega
    have hlj := hlen j hb'
    refine Cw_skip (th_n ?_)
    refine Cw_seq (Cw_block ?_)
    refine Cw_seq (Cw_region (by kernel_rfl) ?_)
    refine s_assign (Fl_nil (th_n ?_))
    refine Cw_block ?_
    have hm0 : ∀ x y, x < n → (y ∈ L x ↔ (y < j ∧ ∃ t, t < len y ∧ e y t = x) ∨ (y = j ∧ ∃ t', t' < 0 ∧ e j t' = x)) := fun x y hx => by rw [hmem x y hx]; simp
    have hl0 : ∀ x, x < n → (L x).length ≤ j * 1048576 + 0 := fun x hx => by rw [Nat.add_zero]; exact hll x hx
    refine Cw_loop (fun m f w' => ∃ g t V L, f = sets [(0, .slice a0 n cap0), (3, .int .i64 (n : Int)), (4, .slice (some ⟨w.heap.size, 0, none⟩) n n), (5, .int .i64 ((j : Nat) : Int)), (6, .int .i64 ((t : Nat) : Int))] g ∧ t ≤ len j ∧ OwnRows w' w.heap.size n V L ∧
      (∀ x y, x < n → (y ∈ L x ↔ (y < j ∧ ∃ t, t < len y ∧ e y t = x) ∨ (y = j ∧ ∃ t', t' < t ∧ e j t' = x))) ∧ (∀ x, x < n → (L x).length ≤ j * 1048576 + t) ∧ Keeps w w' noB ∧ w.heap.size < w'.heap.size ∧ m = len j - t) (len j - 0)
      ⟨_, 0, V, L, sets_known ⟨rfl, rfl, rfl, rfl, rfl, trivial⟩, by omega, hO, hm0, hl0, hk, hsz, rfl⟩ ?_
    clear hO hmem hll hk hsz
    rintro m f w' ⟨g, t, V, L, rfl, ht, hO, hmem, hll, hk, hsz, rfl⟩
    have hsrc : irows R w' (.slice a0 n cap0) n len (fun x i => (e x i : Int)) := hv.keep hk (fun _ _ _ h => h)
    obtain ⟨b, o, cap, hRb, he, hcell⟩ := hsrc.form hb'
    simp only [Value.slice.injEq, true_and] at he
    obtain ⟨rfl, rfl⟩ := he
    obtain ⟨u, hu, hur⟩ := hcell j hb'
    obtain ⟨a2, cap2, rfl⟩ := hur.val
    refine Cw_seq (Cw_seq (Cw_region (by kernel_rfl) ?_))
    refine s_move (s_move (s_move (s_indexO rfl rfl rfl hb' (by kernel_rfl) (s_load rfl (by kernel_rfl) hu (s_lenS rfl (by kernel_rfl) (s_lss rfl rfl (Fl_nil (th_n ?_))))))))
    refine Cw_cond rfl rfl (fun hc => ?_) (fun hc => ?_)
    · have hc' : t < len j := by have := of_decide_eq_true hc; omega
      obtain ⟨b3, o3, cap3, hR3, he3, hcell3⟩ := hur.form hc'
      simp only [Value.slice.injEq, true_and] at he3
      obtain ⟨rfl, rfl⟩ := he3
      have hx := hval j t hb' hc'
      have hlx := hll _ hx
      refine Cw_skip (th_n ?_)
      refine Cw_seq (Cw_block ?_)
      refine Cw_seq (Cw_region (by kernel_rfl) ?_)
      refine s_move (s_move (s_indexO rfl rfl rfl hb' (by kernel_rfl) (s_load rfl (by kernel_rfl) hu (s_move (s_indexO rfl rfl rfl hc' (by kernel_rfl) (s_load rfl (by kernel_rfl) (hcell3 t hc') (s_assign (Fl_nil (th_n ?_)))))))))
      refine Cw_region (by kernel_rfl) ?_
      refine s_move (s_move (s_move (s_move (s_index rfl rfl rfl hx (by kernel_rfl) (s_load rfl (by kernel_rfl) (hO.outer.cell hx) (s_move (s_conv32 rfl (by kernel_rfl) (by kernel_rfl) (by omega) (s_lit1 rfl slz35 rfl rfl ?_))))))))
      refine s_append (xs := i32s (L (e j t))) (news := [.int .i32 (j : Int)]) rfl rfl slz35 (by decide) rfl (own_keep (hO.own _ hx) (Keeps.alloc w' _ noB) (fun _ _ h => h)) rfl
        (World.news_of_block (heap_alloc_new w' _)) (by intro u hu; simp at hu; subst hu; rfl) (by decide) (by omega) (by omega) fun g2 cap2 w2 ho2 hk2 hg2 hlt2 => ?_
      obtain ⟨hO', hk'⟩ := hO.append hx ho2 hk2 hg2
      have hkw : Keeps w' w2 (fun k => some k = (V (e j t)).ownBlock) := (Keeps.alloc w' _ noB).trans hk2 (fun _ _ h => h.elim) (fun _ _ h => h)
      have hb2 : arr w2 w.heap.size 35 n V := hO.outer.keep hkw (fun h => by have := hO.above _ hx _ h.symm; omega)
      refine s_index rfl rfl rfl hx (by kernel_rfl) (s_store rfl rfl (by kernel_rfl) rfl (hb2.cell hx) (hb2.frozen _) (Fl_nil (ib_n (th_n ?_))))
      refine Cw_region (by kernel_rfl) ?_
      refine s_move (s_add rfl rfl (by omega) (s_assign (Fl_nil ?_)))
      refine ⟨len j - (t + 1), by omega, _, t + 1, _, _, sets_known ⟨rfl, rfl, rfl, rfl, rfl, trivial⟩, by omega, hO', fun x y hxn => ?_, fun x hxn => ?_, ?_, ?_, rfl⟩
      · unfold lset
        by_cases hxe : x = e j t
        · subst hxe
          rw [if_pos rfl, List.mem_append, hmem _ _ hxn, List.mem_singleton]
          constructor
          · rintro ((h | ⟨h, t', h1, h2⟩) | h)
            · exact .inl h
            · exact .inr ⟨h, t', by omega, h2⟩
            · exact .inr ⟨h, t, by omega, rfl⟩
          · rintro (h | ⟨h, _⟩)
            · exact .inl (.inl h)
            · exact .inr h
        · rw [if_neg hxe, hmem _ _ hxn]
          constructor
          · rintro (h | ⟨h, t', h1, h2⟩)
            · exact .inl h
            · exact .inr ⟨h, t', by omega, h2⟩
          · rintro (h | ⟨h, t', h1, h2⟩)
            · exact .inl h
            · refine .inr ⟨h, t', ?_, h2⟩
              by_cases htt : t' = t
              · subst htt; exact absurd h2.symm hxe
              · omega
      · unfold lset
        have := hll x hxn
        split
        · rename_i hxe
          subst hxe
          simp
          omega
        · omega
      · refine hk.trans hk' (fun _ _ h => h) (fun k hk3 h => ?_)
        rcases h with h | h
        · omega
        · have := hO.above _ hx _ h.symm
          omega
      · rw [size_setCell]
        have := hkw.size
        omega
    · have hc' : t = len j := by have := of_decide_eq_false hc; omega
      refine Cw_exit (ex_th (ex_th (ex_in (ib_n (th_n ?_)))))
      refine Cw_region (by kernel_rfl) ?_
      refine s_move (s_add rfl rfl (by omega) (s_assign (Fl_nil ?_)))
      refine ⟨n - (j + 1), by omega, _, j + 1, V, L, sets_known ⟨rfl, rfl, rfl, rfl, trivial⟩, by omega, hO, fun x y hxn => ?_, fun x hxn => by have := hll x hxn; omega, hk, hsz, rfl⟩
      rw [hmem x y hxn, hc']
      constructor
      · rintro (⟨h, h'⟩ | ⟨h, h'⟩)
        · exact ⟨by omega, h'⟩
        · subst h; exact ⟨by omega, h'⟩
      · rintro ⟨h, h'⟩
        by_cases hyj : y = j
        · subst hyj; exact .inr ⟨rfl, h'⟩
        · exact .inl ⟨by omega, h'⟩
  · have hb' : j = n := by have := of_decide_eq_false hb; omega
    subst hb'
    refine Cw_exit (ex_th (ex_th (ex_in (th_n ?_))))
    refine Cw_seq (Cw_region (by kernel_rfl) ?_)
    refine s_move (s_assign (Fl_nil (th_n ?_)))
    refine Cw_ret ?_
    refine ⟨⟨L, .inr ⟨w.heap.size, 0, j, ⟨Nat.le_refl _, hsz⟩, rfl, fun i hi => ⟨V i, ?_, ?_⟩⟩, hmem, hll⟩, hk, hsz⟩
    · rw [Nat.zero_add]
      exact hO.outer.cell hi
    · rcases (hO.own i hi).2 with ⟨h1, h2⟩ | ⟨g, cap, cur, h1, _, hg, h3, _, h5, h6⟩
      · exact .inl ⟨h1, h2⟩
      · have hlt := (Array.getElem?_eq_some_iff.1 hg).1
        refine .inr ⟨g, 0, cap, ⟨by have := hO.above i hi g (by rw [h1]; rfl); omega, hlt⟩, h1, fun q hq => ?_⟩
        have ho := hO.own i hi
        rw [h1] at ho
        have hq : q < (L i).length := hq
        have := own_cell (j := q) (u := .int .i32 (((L i).getD q 0 : Nat) : Int)) ho (by omega) (by simp [i32s, hq])
        rw [Nat.zero_add]
        exact this
end Go.Proofs.Qxb6000043a

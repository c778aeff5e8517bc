/-
  WALKS, S: the law FnSearchIsRecursivePostorder. Own work.
-/
import Derived.Test.Qxb6000043aWaR
namespace Go.Proofs.Qxb6000043a
open Go.Fw Go.Proofs.Qxb6000043a.Pl Go.RowKit
set_option maxRecDepth 10000

set_option maxHeartbeats 4000000 in
theorem f5_any (w : World) (v : Value) (n : Nat) (len : Nat → Nat) (c : Nat → Nat → Int) (hv : jrows w v n len c) (hc : ∀ x i, x < n → i < len x → -2147483648 ≤ c x i ∧ c x i ≤ 2147483647) (root : Int) (hroot : -2147483648 ≤ root ∧ root ≤ 2147483647) (bw : Bool) :
    Calls Try.prog 5 #[v, .int .i32 root, .bool bw] w fun e w' => ∃ r, e = .returned r ∧ (r = .bool true ∧ Keeps w w' noB) := by
  refine enter1 (args := [_, _, _]) (R := fun r w' => r = .bool true ∧ Keeps w w' noB) Try.func5 rfl Try.ntmps5 Try.results5 rfl rfl ?_
  refine Cw_seq (Cw_region (by kernel_rfl) ?_)
  refine s_assign (Fl_nil (th_n ?_))
  -- zzBytes
  refine Cw_seq (Cw_seq (Cw_region (by kernel_rfl) ?_))
  refine s_move (s_move (s_move ?_))
  refine s_c3 (by kernel_rfl) rfl rfl rfl (bytes20_any w v n len c hv _ _) ?_
  rintro r1 w1 ⟨hr1, rfl⟩
  rcases hr1 with rfl | ⟨rfl, hsum⟩
  · refine s_not rfl (Fl_nil (th_n ?_))
    refine Cw_true rfl rfl rfl (Cw_seq (Cw_region (by kernel_rfl) ?_))
    refine s_assign (Fl_nil (th_n ?_))
    exact Cw_ret ⟨rfl, Keeps.refl _ _⟩
  refine s_not rfl (Fl_nil (th_n ?_))
  refine Cw_false rfl rfl rfl (Cw_skip (th_n ?_))
  have hlen : ∀ i, i < n → len i ≤ 1048576 := fun i hi => by have := le_sumTo len i n hi; omega
  obtain ⟨a, cap, hva, ha0, _⟩ := hv
  have hv : jrows w1 v n len c := ⟨a, cap, hva, ha0, by assumption⟩
  subst hva
  -- n, zzGraphBytes
  refine Cw_seq (Cw_seq (Cw_region (by kernel_rfl) ?_))
  by_cases h4 : (4096 : Int) < (n : Int)
  · refine s_move (s_lenS rfl (by kernel_rfl) (s_gtr rfl rfl ?_))
    rw [decide_eq_true h4]
    refine s_move (Fl_pass rfl (Fl_pass rfl (Fl_pass rfl (s_pick rfl (Fl_nil (th_n ?_))))))
    refine Cw_true rfl rfl rfl (Cw_seq (Cw_region (by kernel_rfl) ?_))
    refine s_assign (Fl_nil (th_n ?_))
    exact Cw_ret ⟨rfl, Keeps.refl _ _⟩
  refine s_move (s_lenS rfl (by kernel_rfl) (s_gtr rfl rfl ?_))
  rw [decide_eq_false h4]
  refine s_move (Fl_val rfl r_move ?_)
  refine s_c1g rfl (by kernel_rfl) rfl (gbytes_any w1 _ n len c hv (by omega) hlen) ?_
  rintro r2 w2 ⟨⟨z, rfl⟩, rfl⟩
  refine Fl_val rfl (r_gtr rfl rfl) (s_pick rfl (Fl_nil (th_n ?_)))
  refine Cw_cond rfl rfl (fun hb => ?_) (fun hb => ?_)
  · refine Cw_seq (Cw_region (by kernel_rfl) ?_)
    refine s_assign (Fl_nil (th_n ?_))
    exact Cw_ret ⟨rfl, Keeps.refl _ _⟩
  clear hb
  refine Cw_skip (th_n ?_)
  -- zzValidGraph, root
  refine Cw_seq (Cw_seq (Cw_region (by kernel_rfl) ?_))
  refine s_move ?_
  refine s_c1 (by kernel_rfl) rfl (valid_any w2 _ n len c hv (by omega) hlen hc) ?_
  rintro r3 w3 ⟨hr3, hk3⟩
  rcases hr3 with rfl | ⟨rfl, hok⟩
  · refine s_not rfl (s_move (Fl_pass rfl (Fl_pass rfl (s_pick rfl (s_move (Fl_pass rfl (Fl_pass rfl (Fl_pass rfl (Fl_pass rfl (Fl_pass rfl (s_pick rfl (Fl_nil (th_n ?_)))))))))))))
    refine Cw_true rfl rfl rfl (Cw_seq (Cw_region (by kernel_rfl) ?_))
    refine s_assign (Fl_nil (th_n ?_))
    exact Cw_ret ⟨rfl, hk3⟩
  by_cases hr0 : root < 0
  · refine s_not rfl (s_move (Fl_val rfl r_move (Fl_val rfl (r_lssT rfl rfl hr0) (s_pick rfl (s_move (Fl_pass rfl (Fl_pass rfl (Fl_pass rfl (Fl_pass rfl (Fl_pass rfl (s_pick rfl (Fl_nil (th_n ?_)))))))))))))
    refine Cw_true rfl rfl rfl (Cw_seq (Cw_region (by kernel_rfl) ?_))
    refine s_assign (Fl_nil (th_n ?_))
    exact Cw_ret ⟨rfl, hk3⟩
  refine s_not rfl (s_move (Fl_val rfl r_move (Fl_val rfl (r_lssF rfl rfl hr0) (s_pick rfl (s_move (Fl_val rfl r_move (Fl_val rfl (r_conv64 rfl (by kernel_rfl) (by kernel_rfl) (by omega)) (Fl_val rfl r_move (Fl_val rfl (r_lenS rfl (by kernel_rfl)) (Fl_val rfl (r_geq rfl rfl) (s_pick rfl (Fl_nil (th_n ?_)))))))))))))
  refine Cw_cond rfl rfl (fun hb => ?_) (fun hb => ?_)
  · refine Cw_seq (Cw_region (by kernel_rfl) ?_)
    refine s_assign (Fl_nil (th_n ?_))
    exact Cw_ret ⟨rfl, hk3⟩
  have hrn := of_decide_eq_false hb
  refine Cw_skip (th_n ?_)
  obtain ⟨r, rfl⟩ : ∃ r : Nat, root = (r : Int) := ⟨root.toNat, by omega⟩
  have hv3 := hv.keep hk3
  -- the copy
  refine Cw_fr [(0, .slice a n cap), (1, .int .i32 (r : Int)), (2, .bool bw)] ⟨rfl, rfl, rfl, trivial⟩ (fun g => ?_)
  refine Cw_seq (Cw_region (by kernel_rfl) ?_)
  refine s_move ?_
  refine s_c1 (by kernel_rfl) rfl (clone_any w3 _ n len c hv3 (by omega) hlen) ?_
  rintro vE w4 ⟨hE4, hk4⟩
  refine s_assign (Fl_nil (th_n ?_))
  obtain ⟨G, hGn, hGl, hGe⟩ : ∃ G : Gr, G.n = n ∧ G.len = len ∧ G.e = fun x i => (c x i).toNat := ⟨⟨n, len, _⟩, rfl, rfl, rfl⟩
  subst hGn hGl
  have hG : G.Ok := fun x i hx hi => by
    have := hok x i hx hi
    rw [hGe]; show (c x i).toNat < G.n; omega
  have hE4 : irows (new w3 w4) w4 vE G.n G.len (fun x i => (G.e x i : Int)) := irows_congr hE4 (fun x i hx hi => by
    have := hok x i hx hi
    rw [hGe]; show c x i = ((c x i).toNat : Int); omega)
  have hkw4 : Keeps w2 w4 noB := hk3.trans hk4 (fun _ _ h => h) (fun _ _ h => h)
  clear hk3 hk4 hv3 hv hok hc hGe
  obtain ⟨aE, cE, hvE⟩ := hE4.val
  subst hvE
  have hrG : r < G.n := by omega
  -- b
  refine Cw_seq (Cw_region (by kernel_rfl) ?_)
  refine s_move (s_move ?_)
  refine s_c1 (by kernel_rfl) rfl (reverse_any _ w4 _ G.n G.len G.e hE4 (by omega) hlen hG) ?_
  rintro vW w5 ⟨⟨L, hW5, hL, hLn⟩, hk5, _⟩
  have hE5 := hE4.keep hk5 (fun _ _ _ h => h)
  have hLl : ∀ i, i < G.n → (L i).length ≤ 4294967296 := fun i hi => by have := hLn i hi; omega
  refine s_c3 (by kernel_rfl) rfl rfl rfl (nsb_any _ _ w5 _ vW G.n G.len _ _ _ 0 hE5 hW5 (by omega) hlen hLl) ?_
  rintro vB w6 ⟨⟨τ, B, BL, BP, BN, BA, BW, RE, RW, vE6, vW6, rfl, hSB⟩, hk6⟩
  refine s_assign (Fl_nil (th_n ?_))
  have T := hSB.tags
  have hk46 : Keeps w4 w6 noB := hk5.trans hk6 (fun _ _ h => h) (fun _ _ h => h)
  have hE6 := hE4.keep hk46 (fun _ _ _ h => h)
  have hkw6 : Keeps w2 w6 noB := hkw4.trans hk46 (fun _ _ h => h) (fun _ _ h => h)
  have hlob := hSB.lob
  have hs45 := hk5.size
  have hs56 := hk6.size
  have hnew : ∀ k, new w3 w4 k → k ≠ B ∧ k ≠ BL := fun k hk => by have := hk.2; omega
  have hs24 := hkw4.size
  -- the search
  refine Cw_seq (Cw_region (by kernel_rfl) ?_)
  refine s_move (s_move (s_move ?_))
  have hT : sumTo (fun v => G.len v + 1) G.n ≤ 1073741824 := by rw [sumTo_add1]; omega
  refine s_c3 (R := fun _ w' => _) (by kernel_rfl) rfl rfl rfl (zzsearch_any _ _ _ w6 _ (search_any G hG bw r hrG hT RE w6 B BL ⟨vE6, vW6, .int .i64 0, .slice none 0 0, whole BP G.n, whole BN G.n, .slice none 0 0, whole BA G.n, whole BW G.n, .int .i64 0⟩ 0 hSB.st hSB.le hSB.ed (tag_ne T.b T.l (by decide)) (fun q hq => ⟨tag_ne (T.e q hq) T.b (by decide), tag_ne (T.e q hq) T.l (by decide), hSB.hie q (.inl hq)⟩))) ?_
  rintro v7 w7 ⟨k0, vO, vPa, wk7, hR, hpath, hk7⟩
  have hpath0 := hpath
  refine Fl_nil (th_n ?_)
  have hF := found G hG bw r hrG k0 hpath
  generalize hse : iter G bw k0 (init r) = s at hR hpath hF
  have hE7 := hE6.keep hk7 (fun k hk _ h => by have := hnew k hk; rcases h with h | h <;> omega)
  have hkw7 : Keeps w2 w7 noB := hkw6.trans hk7 (fun _ _ h => h) (fun q hq h => by show False; rcases h with h | h <;> omega)
  have hol := found_len hF
  have hs67 := hk7.size
  clear hpath hk5 hk6 hk46 hE5 hE6 hW5 hE4 hkw4 hkw6 hSB T hk7 hLl hL hLn
  -- order, left
  refine Cw_seq (Cw_region (by kernel_rfl) ?_)
  refine s_move ?_
  refine s_c1 (by kernel_rfl) rfl (zzorder_any w7 B vO s.order (hR.st.cellv (i := 6) (by omega) rfl) hR.od (by omega)) ?_
  rintro v8 w8 ⟨rfl, ho8, hk8⟩
  refine s_assign (Fl_nil (th_n ?_))
  have hst8 := hR.st.keep hk8 (fun h => h)
  have hle8 := hR.le.keep hk8 (fun h => h)
  refine Cw_seq (Cw_region (by kernel_rfl) ?_)
  refine s_move ?_
  refine s_c1 (by kernel_rfl) rfl (zzleft_any w8 B BL G.n s.left (hst8.cellv (i := 5) (by omega) rfl) hle8 (by omega)) ?_
  rintro v9 w9 ⟨rfl, hl9, hk9⟩
  refine s_assign (Fl_nil (th_n ?_))
  have ho9 := ho8.keep hk9 (fun h => h)
  have hE9 := (hE7.keep hk8 (fun _ _ _ h => h)).keep hk9 (fun _ _ _ h => h)
  have hkw9 : Keeps w2 w9 noB := (hkw7.trans hk8 (fun _ _ h => h) (fun _ _ h => h)).trans hk9 (fun _ _ h => h) (fun _ _ h => h)
  have hs49 : w4.heap.size ≤ w9.heap.size := by have := hk8.size; have := hk9.size; omega
  clear hs67
  generalize w7.heap.size = bO at *
  generalize w8.heap.size = bL at *
  clear hst8 hle8 hR ho8 hk8 hk9 hE7 hkw7
  -- want
  refine Cw_seq (Cw_region (by kernel_rfl) ?_)
  refine s_move (s_move (s_move ?_))
  refine s_c3 (by kernel_rfl) rfl rfl rfl (postorder_any G hG (by omega) hlen bw r hrG _ w9 _ hE9 (fun k hk => by have := hk.2; omega)) ?_
  rintro v10 w10 ⟨k1, lf, od, hit, hown, hk10⟩
  refine s_assign (Fl_nil (th_n ?_))
  have hsame := iter_same G bw (init r) k0 k1 hpath0 (by rw [hit])
  rw [hse, hit] at hsame
  subst hsame
  have ho10 := ho9.keep hk10 (fun h => h)
  have hl10 := hl9.keep hk10 (fun h => h)
  have hkw10 : Keeps w2 w10 noB := hkw9.trans hk10 (fun _ _ h => h) (fun _ _ h => h)
  have hnd := found_nodup hF
  simp only at ho10 hl10 hol hnd
  clear hE9 ho9 hl9 hkw9 hk10 hse hit
  refine Cw_seq (Cw_seq (Cw_region (by kernel_rfl) ?_))
  refine s_move (s_move ?_)
  refine s_c2 (by kernel_rfl) rfl rfl (same_any w10 bO v10 od ho10 hown (by omega)) ?_
  rintro v11 w11 ⟨rfl, hk11⟩
  refine s_not rfl (Fl_nil (th_n ?_))
  refine Cw_false rfl rfl rfl (Cw_skip (th_n ?_))
  have hl11 := hl10.keep hk11 (fun h => h)
  have hown11 := own_keep hown hk11 (fun _ _ h => h)
  have hkw11 : Keeps w2 w11 noB := hkw10.trans hk11 (fun _ _ h => h) (fun _ _ h => h)
  refine Cw_seq (Cw_region (by kernel_rfl) ?_)
  refine s_move (s_move (s_lenS rfl (by kernel_rfl) ?_))
  refine s_c2 (by kernel_rfl) rfl rfl (positions_any w11 v10 od G.n hown11 (by omega) (by omega) hF.lt hnd) ?_
  rintro v12 w12 ⟨ps, rfl, hps, hp1, hp2, hk12⟩
  refine s_assign (Fl_nil (th_n ?_))
  have hl12 := hl11.keep hk12 (fun h => h)
  have hkw12 : Keeps w2 w12 noB := hkw11.trans hk12 (fun _ _ h => h) (fun _ _ h => h)
  generalize w11.heap.size = bT at *
  clear hl10 hl11 hown hown11 hkw10 hkw11 hk11 hk12 ho10
  refine Cw_seq (Cw_seq (Cw_region (by kernel_rfl) ?_))
  refine s_move (s_lenS rfl (by kernel_rfl) (s_move (s_lenS rfl (by kernel_rfl) (s_neq rfl rfl (Fl_nil (th_n ?_))))))
  refine Cw_cond rfl rfl (fun hb => ?_) (fun hb => ?_)
  · exact ((of_decide_eq_true hb) rfl).elim
  refine Cw_skip (th_n ?_)
  have heq : ∀ x, lf x = ((ps x : Nat) : Int) := fun x => by
    by_cases hx : x ∈ od
    · obtain ⟨i, hi⟩ := List.mem_iff_getElem?.1 hx
      have h3 : lf x = (i : Int) + 1 := hF.pos i x hi
      rw [hp1 i x hi, h3]
      omega
    · have h1 := hF.mem x
      have h2 : lf x = 0 := Classical.byContradiction (fun h => hx (h1.2 h))
      rw [hp2 x hx, h2]
      rfl
  refine Cw_fr [(0, .slice aE G.n cE), (9, whole bL G.n), (11, whole bT G.n)] ⟨rfl, rfl, rfl, trivial⟩ (fun g => ?_)
  refine Cw_seq (Cw_seq (Cw_region (by kernel_rfl) ?_))
  refine s_assign (Fl_nil (th_n ?_))
  refine Cw_block ?_
  have hpb : ∀ x, x < G.n → ps x ≤ 1048576 := fun x _ => by
    by_cases hx : x ∈ od
    · obtain ⟨i, hi⟩ := List.mem_iff_getElem?.1 hx
      have := hp1 i x hi
      have := (List.getElem?_eq_some_iff.1 hi).1
      omega
    · rw [hp2 x hx]; omega
  refine Cw_loop (fun m f w' => ∃ g j, f = sets [(0, .slice aE G.n cE), (9, whole bL G.n), (11, whole bT G.n), (12, .int .i64 ((j : Nat) : Int))] g ∧ j ≤ G.n ∧ arr w' bL 21 G.n (fun i => .int .i32 (lf i)) ∧ arr w' bT 3 G.n (fun x => .int .i64 ((ps x : Nat) : Int)) ∧ Keeps w2 w' noB ∧ m = G.n - j) (G.n - 0)
    ⟨_, 0, sets_known ⟨rfl, rfl, rfl, rfl, trivial⟩, Nat.zero_le _, hl12, hps, hkw12, rfl⟩ ?_
  clear hl12 hps hkw12
  rintro m f w' ⟨g, j, rfl, hj, hl, hps, hk, rfl⟩
  refine Cw_seq (Cw_seq (Cw_region (by kernel_rfl) ?_))
  refine s_move (s_move (s_lenS rfl (by kernel_rfl) (s_lss rfl rfl (Fl_nil (th_n ?_)))))
  refine Cw_cond rfl rfl (fun hb => ?_) (fun hb => ?_)
  · have hj' : j < G.n := by have := of_decide_eq_true hb; omega
    refine Cw_skip (th_n ?_)
    refine Cw_seq (Cw_block (Cw_seq ?_))
    have hjb := hpb j hj'
    have hje := heq j
    refine Cw_drawn [(0, 0), (1, 0), (2, 0), (3, 1), (4, 0), (5, 0), (6, 0), (7, 0), (8, 1), (9, 0)] [0, 1, 2, 3, 4, 5, 6, 7, 8, 9] (Ext w') (by kernel_rfl) (by kernel_rfl) (by kernel_rfl) (by kernel_rfl) ?_
    have hS : Ext w' w'.drew := fun _ _ => rfl
    refine o0 rfl rfl (fun _ => r_move) (o0 rfl rfl (fun _ => r_move) (o0 rfl rfl (fun _ => r_index1 rfl rfl rfl hj' (by kernel_rfl)) (o1 rfl hS rfl (fun _ hw => r_load rfl (by kernel_rfl) (hw.cell (hl.cell hj'))) (o0 rfl rfl (fun _ => r_conv64 rfl (by kernel_rfl) (by kernel_rfl) (by omega)) (o0 rfl rfl (fun _ => r_move) (o0 rfl rfl (fun _ => r_move) (o0 rfl rfl (fun _ => r_index1 rfl rfl rfl hj' (by kernel_rfl)) (o1 rfl hS rfl (fun _ hw => r_load rfl (by kernel_rfl) (hw.cell (hps.cell hj'))) (o0 rfl rfl (fun _ => r_neq rfl rfl) (Fo_nil (th_n ?_)))))))))))
    refine Cw_cond rfl rfl (fun hd => ?_) (fun hd => ?_)
    · exact ((of_decide_eq_true hd) hje).elim
    refine Cw_skip (ib_n (th_n ?_))
    refine Cw_region (by kernel_rfl) ?_
    refine s_move (s_add rfl rfl (by omega) (s_assign (Fl_nil (th_n ?_))))
    exact ⟨G.n - (j + 1), by omega, _, j + 1, sets_known ⟨rfl, rfl, rfl, rfl, trivial⟩, by omega, hl.drew, hps.drew, hk.trans (Keeps.drew w' noB) (fun _ _ h => h) (fun _ _ h => h), rfl⟩
  · refine Cw_exit (ex_th (ex_th (ex_in (th_n ?_))))
    refine Cw_seq (Cw_region (by kernel_rfl) ?_)
    refine s_assign (Fl_nil (th_n ?_))
    exact Cw_ret ⟨rfl, hk⟩
end Go.Proofs.Qxb6000043a

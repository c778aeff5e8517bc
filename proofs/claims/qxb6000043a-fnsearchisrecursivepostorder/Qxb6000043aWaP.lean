/-
  WALKS, P: the law FnSearchLeavesJustTheReachable. Own work.
-/
import Derived.Test.Qxb6000043aWaO
namespace Go.Fw
section
variable {P : Program} {ops : Array Oper} {K : (Nat → Value) → World → Prop} {rest : List Oper} {f : Nat → Value} {w : World} {d : Nat} {dst : Option Tmp} {ty : TypeId} {pos : String} {af : Array Edge} {gu : Option (Nat × Bool)}
/-- A guarded call. -/
theorem s_c1g {g : Nat} {x : Operand} {a : Value} {ats : Array TypeId} {R : Value → World → Prop} (hgd : gd ops f ⟨some d, .call ⟨.value (.func g), #[x], ats⟩, ty, pos, af, gu⟩ = true) (hok : cOk P g = true) (hx : ev f x = a) (hc : Calls P g #[a] w fun e w' => ∃ v, e = .returned v ∧ R v w') (h : ∀ v w', R v w' → Fl P ops K rest (upd f d v) w') :
    Fl P ops K (⟨some d, .call ⟨.value (.func g), #[x], ats⟩, ty, pos, af, gu⟩ :: rest) f w := by
  have hr := r_c1 (P := P) (f := f) (w := w) (dst := some d) (ty := ty) (pos := pos) (af := af) (gu := gu) (ats := ats) hok hx
  simp only [Fl, hgd, if_true, Fop, hr, Fupon]
  exact hc.mono fun e w' ⟨v, he, hr⟩ => ⟨v, he, h v w' hr⟩
theorem r_neqB {x y : Operand} {t t' : TypeId} {a b : Bool} (ht : P.underlying t = some .bool) (hx : ev f x = .bool a) (hy : ev f y = .bool b) : (execOp (ev f) ⟨dst, .binOp .neq t x y t', ty, pos, af, gu⟩).run P w = .ok (.value (.bool (a != b))) w := by
  have key : ∀ (dep : Nat) (w : World), (Op.equalIn (dep + 1) t (.bool a) (.bool b)).run P w = .ok (a == b) w := by
    intro dep w
    simp [Op.equalIn, run_underlying ht]
  refine r_bin hx hy (fun _ => by simp [eqGuard]) (fun w => ?_)
  simp only [binOp]
  simp [Op.equal, Op.maxDepth, key 9999, bne]
end
end Go.Fw

namespace Go.Proofs.Qxb6000043a
open Go.Fw Go.Proofs.Qxb6000043a.Pl Go.RowKit
set_option maxRecDepth 10000

theorem sumTo_add1 (g : Nat → Nat) : ∀ n, sumTo (fun v => g v + 1) n = sumTo g n + n
  | 0 => rfl
  | n + 1 => by simp only [sumTo, sumTo_add1 g n]; omega
theorem irows_congr {R : Nat → Prop} {w : World} {v : Value} {n : Nat} {len : Nat → Nat} {c c' : Nat → Nat → Int} (h : irows R w v n len c) (hc : ∀ x i, x < n → i < len x → c x i = c' x i) : irows R w v n len c' := by
  rcases h with h | ⟨b, o, cap, h1, h2, h3⟩
  · exact .inl h
  · exact .inr ⟨b, o, cap, h1, h2, fun i hi => by obtain ⟨u, hu, hr⟩ := h3 i hi; exact ⟨u, hu, hr.congr (fun t ht => hc i t hi ht)⟩⟩
theorem found_nodup {G : Gr} {r : Nat} {s : St} (h : Pl.Found G r s) : s.order.Nodup := nodup_of_pos s h.pos
theorem found_len {G : Gr} {r : Nat} {s : St} (h : Pl.Found G r s) : s.order.length ≤ G.n := by
  have := (found_nodup h).length_le_of_subset (l₂ := List.range G.n) (fun x hx => List.mem_range.2 (h.lt x hx))
  simpa using this
def cnt (rc : Nat → Bool) (n : Nat) : Nat := ((List.range n).filter rc).length
theorem cnt_succ (rc : Nat → Bool) (n : Nat) : cnt rc (n + 1) = cnt rc n + (if rc n then 1 else 0) := by
  unfold cnt
  rw [List.range_succ, List.filter_append, List.length_append]
  cases h : rc n <;> simp [h]
theorem cnt_le (rc : Nat → Bool) (n : Nat) : cnt rc n ≤ n := by
  have := List.length_filter_le rc (List.range n)
  simpa [cnt] using this
theorem cnt_found {G : Gr} {r : Nat} {s : St} (h : Pl.Found G r s) {rc : Nat → Bool} (hrc : ∀ x, rc x = true ↔ Pl.Reach G r x) : s.order.length = cnt rc G.n := by
  have hp : s.order.Perm ((List.range G.n).filter rc) := by
    rw [List.perm_ext_iff_of_nodup (found_nodup h) (List.nodup_range.filter _)]
    intro a
    rw [List.mem_filter, List.mem_range, hrc, h.reach]
    exact ⟨fun ha => ⟨h.lt a ((h.reach a).2 ha), ha⟩, fun ha => ha.2⟩
  rw [hp.length_eq]; rfl

set_option maxHeartbeats 4000000 in
theorem f6_any (w : World) (v : Value) (n : Nat) (len : Nat → Nat) (c : Nat → Nat → Int) (hv : jrows w v n len c) (hc : ∀ x i, x < n → i < len x → -2147483648 ≤ c x i ∧ c x i ≤ 2147483647) (root : Int) (hroot : -2147483648 ≤ root ∧ root ≤ 2147483647) (bw : Bool) :
    Calls Try.prog 6 #[v, .int .i32 root, .bool bw] w fun e w' => ∃ r, e = .returned r ∧ (r = .bool true ∧ Keeps w w' noB) := by
  refine enter1 (args := [_, _, _]) (R := fun r w' => r = .bool true ∧ Keeps w w' noB) Try.func6 rfl Try.ntmps6 Try.results6 rfl rfl ?_
  refine Cw_seq (Cw_region (by kernel_rfl) ?_)
  refine s_assign (Fl_nil (th_n ?_))
  -- zzBytes
  refine Cw_seq (Cw_seq (Cw_region (by kernel_rfl) ?_))
  refine s_move (s_move (s_move ?_))
  refine s_c3 (by kernel_rfl) rfl rfl rfl (bytes27_any w v n len c hv _ _) ?_
  rintro r1 w1 ⟨hr1, rfl⟩
  rcases hr1 with rfl | ⟨rfl, hsum⟩
  · refine s_not rfl (Fl_nil (th_n ?_))
    refine Cw_true rfl rfl rfl (Cw_seq (Cw_region (by kernel_rfl) ?_))
    refine s_assign (Fl_nil (th_n ?_))
    exact Cw_ret ⟨rfl, Keeps.refl _ _⟩
  refine s_not rfl (Fl_nil (th_n ?_))
  refine Cw_false rfl rfl rfl (Cw_skip (th_n ?_))
  have hlen : ∀ i, i < n → len i ≤ 1048576 := fun i hi => by have := le_sumTo len i n hi; omega
  obtain ⟨a, cap, hva, ha0, _⟩ := hv
  have hv : jrows w1 v n len c := ⟨a, cap, hva, ha0, by assumption⟩
  subst hva
  -- n, zzGraphBytes
  refine Cw_seq (Cw_seq (Cw_region (by kernel_rfl) ?_))
  by_cases h4 : (4096 : Int) < (n : Int)
  · refine s_move (s_lenS rfl (by kernel_rfl) (s_gtr rfl rfl ?_))
    rw [decide_eq_true h4]
    refine s_move (Fl_pass rfl (Fl_pass rfl (Fl_pass rfl (s_pick rfl (Fl_nil (th_n ?_))))))
    refine Cw_true rfl rfl rfl (Cw_seq (Cw_region (by kernel_rfl) ?_))
    refine s_assign (Fl_nil (th_n ?_))
    exact Cw_ret ⟨rfl, Keeps.refl _ _⟩
  refine s_move (s_lenS rfl (by kernel_rfl) (s_gtr rfl rfl ?_))
  rw [decide_eq_false h4]
  refine s_move (Fl_val rfl r_move ?_)
  refine s_c1g rfl (by kernel_rfl) rfl (gbytes_any w1 _ n len c hv (by omega) hlen) ?_
  rintro r2 w2 ⟨⟨z, rfl⟩, rfl⟩
  refine Fl_val rfl (r_gtr rfl rfl) (s_pick rfl (Fl_nil (th_n ?_)))
  refine Cw_cond rfl rfl (fun hb => ?_) (fun hb => ?_)
  · refine Cw_seq (Cw_region (by kernel_rfl) ?_)
    refine s_assign (Fl_nil (th_n ?_))
    exact Cw_ret ⟨rfl, Keeps.refl _ _⟩
  clear hb
  refine Cw_skip (th_n ?_)
  -- zzValidGraph, root
  refine Cw_seq (Cw_seq (Cw_region (by kernel_rfl) ?_))
  refine s_move ?_
  refine s_c1 (by kernel_rfl) rfl (valid_any w2 _ n len c hv (by omega) hlen hc) ?_
  rintro r3 w3 ⟨hr3, hk3⟩
  rcases hr3 with rfl | ⟨rfl, hok⟩
  · refine s_not rfl (s_move (Fl_pass rfl (Fl_pass rfl (s_pick rfl (s_move (Fl_pass rfl (Fl_pass rfl (Fl_pass rfl (Fl_pass rfl (Fl_pass rfl (s_pick rfl (Fl_nil (th_n ?_)))))))))))))
    refine Cw_true rfl rfl rfl (Cw_seq (Cw_region (by kernel_rfl) ?_))
    refine s_assign (Fl_nil (th_n ?_))
    exact Cw_ret ⟨rfl, hk3⟩
  by_cases hr0 : root < 0
  · refine s_not rfl (s_move (Fl_val rfl r_move (Fl_val rfl (r_lssT rfl rfl hr0) (s_pick rfl (s_move (Fl_pass rfl (Fl_pass rfl (Fl_pass rfl (Fl_pass rfl (Fl_pass rfl (s_pick rfl (Fl_nil (th_n ?_)))))))))))))
    refine Cw_true rfl rfl rfl (Cw_seq (Cw_region (by kernel_rfl) ?_))
    refine s_assign (Fl_nil (th_n ?_))
    exact Cw_ret ⟨rfl, hk3⟩
  refine s_not rfl (s_move (Fl_val rfl r_move (Fl_val rfl (r_lssF rfl rfl hr0) (s_pick rfl (s_move (Fl_val rfl r_move (Fl_val rfl (r_conv64 rfl (by kernel_rfl) (by kernel_rfl) (by omega)) (Fl_val rfl r_move (Fl_val rfl (r_lenS rfl (by kernel_rfl)) (Fl_val rfl (r_geq rfl rfl) (s_pick rfl (Fl_nil (th_n ?_)))))))))))))
  refine Cw_cond rfl rfl (fun hb => ?_) (fun hb => ?_)
  · refine Cw_seq (Cw_region (by kernel_rfl) ?_)
    refine s_assign (Fl_nil (th_n ?_))
    exact Cw_ret ⟨rfl, hk3⟩
  have hrn := of_decide_eq_false hb
  refine Cw_skip (th_n ?_)
  obtain ⟨r, rfl⟩ : ∃ r : Nat, root = (r : Int) := ⟨root.toNat, by omega⟩
  have hv3 := hv.keep hk3
  -- the copy
  refine Cw_fr [(0, .slice a n cap), (1, .int .i32 (r : Int)), (2, .bool bw)] ⟨rfl, rfl, rfl, trivial⟩ (fun g => ?_)
  refine Cw_seq (Cw_region (by kernel_rfl) ?_)
  refine s_move ?_
  refine s_c1 (by kernel_rfl) rfl (clone_any w3 _ n len c hv3 (by omega) hlen) ?_
  rintro vE w4 ⟨hE4, hk4⟩
  refine s_assign (Fl_nil (th_n ?_))
  obtain ⟨G, hGn, hGl, hGe⟩ : ∃ G : Gr, G.n = n ∧ G.len = len ∧ G.e = fun x i => (c x i).toNat := ⟨⟨n, len, _⟩, rfl, rfl, rfl⟩
  subst hGn hGl
  have hG : G.Ok := fun x i hx hi => by
    have := hok x i hx hi
    rw [hGe]; show (c x i).toNat < G.n; omega
  have hE4 : irows (new w3 w4) w4 vE G.n G.len (fun x i => (G.e x i : Int)) := irows_congr hE4 (fun x i hx hi => by
    have := hok x i hx hi
    rw [hGe]; show c x i = ((c x i).toNat : Int); omega)
  have hkw4 : Keeps w2 w4 noB := hk3.trans hk4 (fun _ _ h => h) (fun _ _ h => h)
  clear hk3 hk4 hv3 hv hok hc hGe
  obtain ⟨aE, cE, hvE⟩ := hE4.val
  subst hvE
  have hrG : r < G.n := by omega
  -- b
  refine Cw_seq (Cw_region (by kernel_rfl) ?_)
  refine s_move (s_move ?_)
  refine s_c1 (by kernel_rfl) rfl (reverse_any _ w4 _ G.n G.len G.e hE4 (by omega) hlen hG) ?_
  rintro vW w5 ⟨⟨L, hW5, hL, hLn⟩, hk5, _⟩
  have hE5 := hE4.keep hk5 (fun _ _ _ h => h)
  have hLl : ∀ i, i < G.n → (L i).length ≤ 4294967296 := fun i hi => by have := hLn i hi; omega
  refine s_c3 (by kernel_rfl) rfl rfl rfl (nsb_any _ _ w5 _ vW G.n G.len _ _ _ 0 hE5 hW5 (by omega) hlen hLl) ?_
  rintro vB w6 ⟨⟨τ, B, BL, BP, BN, BA, BW, RE, RW, vE6, vW6, rfl, hSB⟩, hk6⟩
  refine s_assign (Fl_nil (th_n ?_))
  have T := hSB.tags
  have hk46 : Keeps w4 w6 noB := hk5.trans hk6 (fun _ _ h => h) (fun _ _ h => h)
  have hE6 := hE4.keep hk46 (fun _ _ _ h => h)
  have hkw6 : Keeps w2 w6 noB := hkw4.trans hk46 (fun _ _ h => h) (fun _ _ h => h)
  have hlob := hSB.lob
  have hs45 := hk5.size
  have hs56 := hk6.size
  have hnew : ∀ k, new w3 w4 k → k ≠ B ∧ k ≠ BL := fun k hk => by have := hk.2; omega
  have hs24 := hkw4.size
  -- the search
  refine Cw_seq (Cw_region (by kernel_rfl) ?_)
  refine s_move (s_move (s_move ?_))
  have hT : sumTo (fun v => G.len v + 1) G.n ≤ 1073741824 := by rw [sumTo_add1]; omega
  refine s_c3 (R := fun _ w' => _) (by kernel_rfl) rfl rfl rfl (zzsearch_any _ _ _ w6 _ (search_any G hG bw r hrG hT RE w6 B BL ⟨vE6, vW6, .int .i64 0, .slice none 0 0, whole BP G.n, whole BN G.n, .slice none 0 0, whole BA G.n, whole BW G.n, .int .i64 0⟩ 0 hSB.st hSB.le hSB.ed (tag_ne T.b T.l (by decide)) (fun q hq => ⟨tag_ne (T.e q hq) T.b (by decide), tag_ne (T.e q hq) T.l (by decide), hSB.hie q (.inl hq)⟩))) ?_
  rintro v7 w7 ⟨k0, vO, vPa, wk7, hR, hpath, hk7⟩
  refine Fl_nil (th_n ?_)
  have hF := found G hG bw r hrG k0 hpath
  generalize iter G bw k0 (init r) = s at hR hpath hF
  have hE7 := hE6.keep hk7 (fun k hk _ h => by have := hnew k hk; rcases h with h | h <;> omega)
  have hkw7 : Keeps w2 w7 noB := hkw6.trans hk7 (fun _ _ h => h) (fun q hq h => by show False; rcases h with h | h <;> omega)
  have hol := found_len hF
  clear hpath hk5 hk6 hk46 hE5 hE6 hW5 hE4 hkw4 hkw6 hSB T hk7 hLl hL hLn
  -- order, left
  refine Cw_seq (Cw_region (by kernel_rfl) ?_)
  refine s_move ?_
  refine s_c1 (by kernel_rfl) rfl (zzorder_any w7 B vO s.order (hR.st.cellv (i := 6) (by omega) rfl) hR.od (by omega)) ?_
  rintro v8 w8 ⟨rfl, ho8, hk8⟩
  refine s_assign (Fl_nil (th_n ?_))
  have hst8 := hR.st.keep hk8 (fun h => h)
  have hle8 := hR.le.keep hk8 (fun h => h)
  refine Cw_seq (Cw_region (by kernel_rfl) ?_)
  refine s_move ?_
  refine s_c1 (by kernel_rfl) rfl (zzleft_any w8 B BL G.n s.left (hst8.cellv (i := 5) (by omega) rfl) hle8 (by omega)) ?_
  rintro v9 w9 ⟨rfl, hl9, hk9⟩
  refine s_assign (Fl_nil (th_n ?_))
  have ho9 := ho8.keep hk9 (fun h => h)
  have hE9 := (hE7.keep hk8 (fun _ _ _ h => h)).keep hk9 (fun _ _ _ h => h)
  have hkw9 : Keeps w2 w9 noB := (hkw7.trans hk8 (fun _ _ h => h) (fun _ _ h => h)).trans hk9 (fun _ _ h => h) (fun _ _ h => h)
  generalize w7.heap.size = bO at *
  generalize w8.heap.size = bL at *
  clear hst8 hle8 hR ho8 hk8 hk9 hE7 hkw7
  -- reach
  refine Cw_seq (Cw_region (by kernel_rfl) ?_)
  refine s_move (s_move ?_)
  refine s_c2 (by kernel_rfl) rfl rfl (reachable_any G hG r hrG (by omega) hlen _ w9 _ hE9) ?_
  rintro v10 w10 ⟨rc, rfl, hrc, hreach, hk10⟩
  refine s_assign (Fl_nil (th_n ?_))
  have ho10 := ho9.keep hk10 (fun h => h)
  have hl10 := hl9.keep hk10 (fun h => h)
  have hkw10 : Keeps w2 w10 noB := hkw9.trans hk10 (fun _ _ h => h) (fun _ _ h => h)
  generalize w9.heap.size = bR at *
  clear hE9 ho9 hl9 hkw9 hk10
  refine Cw_seq (Cw_region (by kernel_rfl) ?_)
  refine s_move (s_lenS rfl (by kernel_rfl) (s_assign (Fl_nil (th_n ?_))))
  refine Cw_seq (Cw_seq (Cw_region (by kernel_rfl) ?_))
  refine s_move (s_lenS rfl (by kernel_rfl) (s_move (s_neq rfl rfl (Fl_nil (th_n ?_)))))
  refine Cw_cond rfl rfl (fun hb => ?_) (fun hb => ?_)
  · exact ((of_decide_eq_true hb) rfl).elim
  refine Cw_skip (th_n ?_)
  refine Cw_seq (Cw_region (by kernel_rfl) ?_)
  refine s_move (s_make rfl rfl rfl rfl (Nat.le_refl _) slz39 rfl (by omega) (by omega) fun w11 ha11 hk11 hz11 => (s_assign (Fl_nil (th_n ?_))))
  have ho11 := ho10.keep hk11 (fun h => h)
  have hl11 := hl10.keep hk11 (fun h => h)
  have hr11 := hrc.keep hk11 (fun h => h)
  have hkw11 : Keeps w2 w11 noB := hkw10.trans hk11 (fun _ _ h => h) (fun _ _ h => h)
  have hbt : bO ≠ w10.heap.size ∧ bL ≠ w10.heap.size ∧ bR ≠ w10.heap.size ∧ w2.heap.size ≤ w10.heap.size := ⟨by have := ho10.lt; omega, by have := hl10.lt; omega, by have := hrc.lt; omega, hkw10.size⟩
  generalize w10.heap.size = bT at *
  clear ho10 hl10 hrc hkw10 hk11 hz11
  refine Cw_fr [(1, .int .i32 (r : Int)), (8, whole bO s.order.length), (9, whole bL G.n), (10, whole bR G.n), (11, .int .i64 (G.n : Int)), (12, whole bT G.n)] ⟨rfl, rfl, rfl, rfl, rfl, rfl, trivial⟩ (fun g => ?_)
  -- each of the order once
  refine Cw_seq (Cw_seq (Cw_region (by kernel_rfl) ?_))
  refine s_assign (Fl_nil (th_n ?_))
  refine Cw_block ?_
  refine Cw_loop (fun m f w' => ∃ g j ts, f = sets [(1, .int .i32 (r : Int)), (8, whole bO s.order.length), (9, whole bL G.n), (10, whole bR G.n), (11, .int .i64 (G.n : Int)), (12, whole bT G.n), (13, .int .i64 ((j : Nat) : Int))] g ∧ j ≤ s.order.length ∧ arr w' bT 3 G.n (fun x => .int .i64 ((ts x : Nat) : Int)) ∧ (∀ x, ts x ≠ 0 → x ∈ s.order.take j) ∧
    arr w' bO 21 s.order.length (fun i => .int .i32 ((s.order.getD i 0 : Nat) : Int)) ∧ arr w' bL 21 G.n (fun i => .int .i32 (s.left i)) ∧ arr w' bR 4 G.n (fun x => .bool (rc x)) ∧ Keeps w2 w' noB ∧ m = s.order.length - j) (s.order.length - 0)
    ⟨_, 0, fun _ => 0, sets_known ⟨rfl, rfl, rfl, rfl, rfl, rfl, rfl, trivial⟩, Nat.zero_le _, ha11, fun x h => (h rfl).elim, ho11, hl11, hr11, hkw11, rfl⟩ ?_
  clear ha11 ho11 hl11 hr11 hkw11
  rintro m f w' ⟨g, j, ts, rfl, hj, hts, htm, ho, hl, hrc, hk, rfl⟩
  refine Cw_seq (Cw_seq (Cw_region (by kernel_rfl) ?_))
  refine s_move (s_move (s_lenS rfl (by kernel_rfl) (s_lss rfl rfl (Fl_nil (th_n ?_)))))
  refine Cw_cond rfl rfl (fun hb => ?_) (fun hb => ?_)
  · have hj' : j < s.order.length := by have := of_decide_eq_true hb; omega
    have hxm : s.order[j] ∈ s.order := List.getElem_mem hj'
    have hxn := hF.lt _ hxm
    have hxr : rc s.order[j] = true := (hreach _).2 ((hF.reach _).1 hxm)
    have hxt : ts s.order[j] = 0 := by
      refine Classical.byContradiction (fun hne => ?_)
      obtain ⟨i, hi, he⟩ := List.getElem_of_mem (htm _ hne)
      simp at hi
      rw [List.getElem_take] at he
      have h1 := hF.pos i _ (List.getElem?_eq_getElem (by omega))
      have h2 := hF.pos j _ (List.getElem?_eq_getElem hj')
      rw [he] at h1
      omega
    have hcx := ho.cellv (i := j) (v := .int .i32 ((s.order[j] : Nat) : Int)) hj' (by simp [hj'])
    have hct := hts.cellv (v := .int .i64 0) hxn (by rw [hxt]; rfl)
    have hcr := hrc.cellv (v := .bool true) hxn (by rw [hxr])
    have hjx : j = j := rfl
    generalize hxe : s.order[j] = x at hxm hxn hxr hxt hcx hct hcr
    refine Cw_skip (th_n ?_)
    refine Cw_seq (Cw_block ?_)
    refine Cw_seq (Cw_region (by kernel_rfl) ?_)
    refine s_move (s_move (s_index rfl rfl rfl hj' (by kernel_rfl) (s_load rfl (by kernel_rfl) hcx (s_assign (Fl_nil (th_n ?_))))))
    refine Cw_seq (Cw_seq (Cw_region (by kernel_rfl) ?_))
    refine s_move (Fl_val rfl (r_lssF rfl rfl (by omega)) (s_move (Fl_val rfl r_move (Fl_val rfl (r_conv64 rfl (by kernel_rfl) (by kernel_rfl) (by omega)) (Fl_val rfl r_move (Fl_val rfl (r_geqF rfl rfl (by omega)) (s_pick rfl (s_move ?_))))))))
    refine Fl_val rfl r_move (Fl_val rfl r_move (Fl_val rfl (r_index1 rfl rfl rfl hxn (by kernel_rfl)) (Fl_val rfl (r_load rfl (by kernel_rfl) hcr) (Fl_val rfl (r_not rfl) (s_pick rfl (s_move ?_))))))
    refine Fl_val rfl r_move (Fl_val rfl r_move (Fl_val rfl (r_index1 rfl rfl rfl hxn (by kernel_rfl)) (Fl_val rfl (r_load rfl (by kernel_rfl) hct) (Fl_val rfl (r_neq rfl rfl) (s_pick rfl (Fl_nil (th_n ?_)))))))
    refine Cw_false rfl rfl rfl (Cw_skip (th_n ?_))
    refine Cw_region (by kernel_rfl) ?_
    refine s_move (s_move (s_index rfl rfl rfl hxn (by kernel_rfl) (s_store (v := .int .i64 ((1 : Nat) : Int)) rfl rfl (by kernel_rfl) rfl (hts.cell hxn) (hts.frozen x) (Fl_nil (ib_n (th_n ?_))))))
    refine Cw_region (by kernel_rfl) ?_
    refine s_move (s_add rfl rfl (by omega) (s_assign (Fl_nil (th_n ?_))))
    refine ⟨s.order.length - (j + 1), by omega, _, j + 1, _, sets_known ⟨rfl, rfl, rfl, rfl, rfl, rfl, rfl, trivial⟩, by omega, arr_setN hts x 1, fun y hy => ?_, ho.other (a := ⟨bT, x, none⟩) hbt.1 _, hl.other (a := ⟨bT, x, none⟩) hbt.2.1 _, hrc.other (a := ⟨bT, x, none⟩) hbt.2.2.1 _, hk.trans (Keeps.setCell _ _ _) (fun _ _ h => h) (fun q hq h => by have h : q = bT := h; show False; omega), rfl⟩
    rw [← List.take_append_getElem hj', List.mem_append]
    by_cases hyx : y = x
    · right; simp [hyx, hxe]
    · left; exact htm y (by simpa [setN, hyx] using hy)
  · refine Cw_exit (ex_th (ex_th (ex_in (th_n ?_))))
    clear hb htm hts hj
    refine Cw_seq (Cw_region (by kernel_rfl) ?_)
    refine s_assign (Fl_nil (th_n ?_))
    refine Cw_seq (Cw_seq (Cw_region (by kernel_rfl) ?_))
    refine s_assign (Fl_nil (th_n ?_))
    refine Cw_block ?_
    refine Cw_loop (fun m f w' => ∃ g j, f = sets [(1, .int .i32 (r : Int)), (8, whole bO s.order.length), (9, whole bL G.n), (10, whole bR G.n), (11, .int .i64 (G.n : Int)), (15, .int .i64 ((cnt rc j : Nat) : Int)), (16, .int .i64 ((j : Nat) : Int))] g ∧ j ≤ G.n ∧
      arr w' bO 21 s.order.length (fun i => .int .i32 ((s.order.getD i 0 : Nat) : Int)) ∧ arr w' bL 21 G.n (fun i => .int .i32 (s.left i)) ∧ arr w' bR 4 G.n (fun x => .bool (rc x)) ∧ Keeps w2 w' noB ∧ m = G.n - j) (G.n - 0)
      ⟨_, 0, sets_known ⟨rfl, rfl, rfl, rfl, rfl, rfl, rfl, trivial⟩, Nat.zero_le _, ho, hl, hrc, hk, rfl⟩ ?_
    clear ho hl hrc hk
    rintro m f w' ⟨g, j, rfl, hj, ho, hl, hrc, hk, rfl⟩
    refine Cw_seq (Cw_seq (Cw_region (by kernel_rfl) ?_))
    refine s_move (s_move (s_lss rfl rfl (Fl_nil (th_n ?_))))
    refine Cw_cond rfl rfl (fun hb => ?_) (fun hb => ?_)
    · have hj' : j < G.n := by have := of_decide_eq_true hb; omega
      refine Cw_skip (th_n ?_)
      refine Cw_seq (Cw_block ?_)
      refine Cw_seq (Cw_seq (Cw_region (by kernel_rfl) ?_))
      refine s_move (s_move (s_index rfl rfl rfl hj' (by kernel_rfl) (s_load rfl (by kernel_rfl) (hrc.cell hj') (Fl_nil (th_n ?_)))))
      have hcs := cnt_succ rc j
      have hcl := cnt_le rc j
      refine Cw_join rfl rfl [(1, .int .i32 (r : Int)), (8, whole bO s.order.length), (9, whole bL G.n), (10, whole bR G.n), (11, .int .i64 (G.n : Int)), (15, .int .i64 ((cnt rc (j + 1) : Nat) : Int)), (16, .int .i64 ((j : Nat) : Int))] (fun hd => ?_) (fun hd => ?_) (fun g => ?_)
      · rw [hd] at hcs
        refine Cw_region (by kernel_rfl) ?_
        refine s_move (s_add rfl rfl (by omega) (s_assign (Fl_nil (th_n ?_))))
        have e : ((cnt rc j : Nat) : Int) + 1 = ((cnt rc (j + 1) : Nat) : Int) := by rw [hcs]; simp
        exact ⟨sets_ex _ ⟨rfl, rfl, rfl, rfl, rfl, congrArg (Value.int .i64) e, rfl, trivial⟩, rfl⟩
      · rw [hd] at hcs
        have e : ((cnt rc j : Nat) : Int) = ((cnt rc (j + 1) : Nat) : Int) := by rw [hcs]; simp
        exact Cw_skip (th_n ⟨sets_ex _ ⟨rfl, rfl, rfl, rfl, rfl, congrArg (Value.int .i64) e, rfl, trivial⟩, rfl⟩)
      refine Cw_seq ?_
      have hsame : decide (0 < s.left j) = rc j := by
        have h1 := hF.mem j
        have h2 := hF.low j
        have h3 := hF.reach j
        have h4 := hreach j
        by_cases hp : 0 < s.left j
        · rw [decide_eq_true hp]
          exact ((h4.2 (h3.1 (h1.2 (by omega))))).symm
        · rw [decide_eq_false hp]
          cases hd : rc j
          · rfl
          · have := h1.1 (h3.2 (h4.1 hd)); omega
      refine Cw_drawn [(0, 0), (1, 0), (2, 0), (3, 1), (4, 0), (5, 0), (6, 0), (7, 0), (8, 1), (9, 0)] [0, 1, 2, 3, 4, 5, 6, 7, 8, 9] (Ext w') (by kernel_rfl) (by kernel_rfl) (by kernel_rfl) (by kernel_rfl) ?_
      have hS : Ext w' w'.drew := fun _ _ => rfl
      refine o0 rfl rfl (fun _ => r_move) (o0 rfl rfl (fun _ => r_move) (o0 rfl rfl (fun _ => r_index1 rfl rfl rfl hj' (by kernel_rfl)) (o1 rfl hS rfl (fun _ hw => r_load rfl (by kernel_rfl) (hw.cell (hl.cell hj'))) (o0 rfl rfl (fun _ => r_gtr rfl rfl) (o0 rfl rfl (fun _ => r_move) (o0 rfl rfl (fun _ => r_move) (o0 rfl rfl (fun _ => r_index1 rfl rfl rfl hj' (by kernel_rfl)) (o1 rfl hS rfl (fun _ hw => r_load rfl (by kernel_rfl) (hw.cell (hrc.cell hj'))) (o0 rfl rfl (fun _ => r_neqB (by kernel_rfl) rfl rfl) (Fo_nil (th_n ?_)))))))))))
      have hne : (decide (0 < s.left j) != rc j) = false := by rw [hsame]; simp
      rw [hne]
      refine Cw_false rfl rfl rfl (Cw_skip (ib_n (th_n ?_)))
      refine Cw_region (by kernel_rfl) ?_
      refine s_move (s_add rfl rfl (by omega) (s_assign (Fl_nil (th_n ?_))))
      exact ⟨G.n - (j + 1), by omega, _, j + 1, sets_known ⟨rfl, rfl, rfl, rfl, rfl, rfl, rfl, trivial⟩, by omega, ho.drew, hl.drew, hrc.drew, hk.trans (Keeps.drew w' noB) (fun _ _ h => h) (fun _ _ h => h), rfl⟩
    · have hj' : j = G.n := by have := of_decide_eq_false hb; omega
      subst hj'
      refine Cw_exit (ex_th (ex_th (ex_in (th_n ?_))))
      have hcf := cnt_found hF hreach
      obtain ⟨pre, hpre⟩ := hF.last
      have hol1 : s.order.length = pre.length + 1 := by rw [hpre]; simp
      refine Cw_seq (Cw_seq (Cw_region (by kernel_rfl) ?_))
      refine s_move (s_lenS rfl (by kernel_rfl) (s_move (s_neq rfl rfl ?_)))
      rw [decide_eq_false (show ¬ ((s.order.length : Int) ≠ ((cnt rc G.n : Nat) : Int)) from fun h => h (by rw [hcf]))]
      refine s_move (Fl_val rfl r_move (Fl_val rfl (r_lenS rfl (by kernel_rfl)) (Fl_val rfl (r_eqlF rfl rfl (by omega)) (s_pick rfl (Fl_nil (th_n ?_))))))
      refine Cw_false rfl rfl rfl (Cw_skip (th_n ?_))
      refine Cw_seq (Cw_region (by kernel_rfl) ?_)
      have hlast := ho.cellv (i := s.order.length - 1) (v := .int .i32 (r : Int)) (by omega) (by
        have : s.order.getD (s.order.length - 1) 0 = r := by rw [hpre]; simp
        rw [this])
      refine s_move (s_move (s_lenS rfl (by kernel_rfl) (s_sub rfl rfl (by omega) (s_index (i := s.order.length - 1) rfl rfl (by omega) (by omega) (by kernel_rfl) (s_load rfl (by kernel_rfl) hlast (s_move (Fl_val rfl (r_eqlT rfl rfl rfl) (s_assign (Fl_nil (th_n ?_))))))))))
      exact Cw_ret ⟨rfl, hk⟩
end Go.Proofs.Qxb6000043a

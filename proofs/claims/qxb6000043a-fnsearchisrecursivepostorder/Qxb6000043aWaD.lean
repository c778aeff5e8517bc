/-
  WALKS, D: ZZNewStepBound. Own work.
-/
import Derived.Test.Qxb6000043aWaB
import Derived.Test.Qxb6000043aFwF
namespace Go.Fw
theorem Fop_val {P : Program} {f : Nat → Value} {o : Oper} {w w' : World} {v : Value} {K : (Nat → Value) → World → Prop} (hr : (execOp (ev f) o).run P w = .ok (.value v) w') (h : K (updO f o.dst v) w') : Fop P f o w K := by
  unfold Fop; rw [hr]; exact h
theorem Fop_call {P : Program} {f : Nat → Value} {w : World} {d g : Nat} {args : Array Operand} {ats : Array TypeId} {ty : TypeId} {pos : String} {af : Array Edge} {K : (Nat → Value) → World → Prop} {R : Value → World → Prop} (hok : cOk P g = true)
    (hc : Calls P g (args.map (ev f)) w fun e w' => ∃ v, e = .returned v ∧ R v w') (h : ∀ v w', R v w' → K (upd f d v) w') : Fop P f ⟨some d, .call ⟨.value (.func g), args, ats⟩, ty, pos, af, none⟩ w K := by
  unfold Fop
  rw [r_call hok]
  exact hc.mono fun e w' ⟨v, he, hr⟩ => ⟨v, he, h v w' hr⟩
end Go.Fw
namespace Go.Proofs.Qxb6000043a
open Go.Fw
set_option maxRecDepth 10000

/-- The fields of a stepBound. -/
def sbF (E W lim rt wk L O Pa Ps Ln C BA WA mk : Value) : Nat → Value
  | 0 => E | 1 => W | 2 => lim | 3 => rt | 4 => wk | 5 => L | 6 => O | 7 => Pa | 8 => Ps | 9 => Ln | 10 => C | 11 => BA | 12 => WA | 13 => mk | _ => undef
/-- A slice that is all of block b. -/
def whole (b n : Nat) : Value := .slice (some ⟨b, 0, none⟩) n n
def z32 : Nat → Value := fun _ => .int .i32 0
def z64 : Nat → Value := fun _ => .int .i64 0

/-- The tags of a new stepBound's blocks: so that they are seen to differ. -/
structure Tags (τ : Nat → Nat) (B BL BP BN BA BW : Nat) (RE RW : Nat → Prop) : Prop where
  b : τ B = 1
  l : τ BL = 2
  p : τ BP = 3
  n : τ BN = 4
  a : τ BA = 5
  w : τ BW = 6
  e : ∀ k, RE k → τ k = 7
  v : ∀ k, RW k → τ k = 8
/-- A stepBound as ZZNewStepBound makes it. -/
structure SB (w : World) (lo n : Nat) (len wl : Nat → Nat) (e wc : Nat → Nat → Int) (lim : Int) (τ : Nat → Nat) (B BL BP BN BA BW : Nat) (RE RW : Nat → Prop) (vE vW : Value) : Prop where
  tags : Tags τ B BL BP BN BA BW RE RW
  st : arr w B 60 14 (sbF vE vW (.int .i64 lim) (.slice none 0 0) (.int .i64 0) (whole BL n) (.slice none 0 0) (.slice none 0 0) (whole BP n) (whole BN n) (.slice none 0 0) (whole BA n) (whole BW n) (.int .i64 0))
  ed : irows RE w vE n len e
  wa : irows RW w vW n wl wc
  le : arr w BL 21 n z32
  pa : arr w BP 3 n z64
  ln : arr w BN 3 n z64
  ba : arr w BA 3 n z64
  bw : arr w BW 3 n z64
  lob : lo ≤ B ∧ lo ≤ BL ∧ lo ≤ BP ∧ lo ≤ BN ∧ lo ≤ BA ∧ lo ≤ BW
  loe : ∀ k, RE k ∨ RW k → lo ≤ k
  hie : ∀ k, RE k ∨ RW k → k < w.heap.size

def nsbDst : Nat → Nat
  | 1 => 11 | 3 => 13 | 6 => 16 | 8 => 18 | 10 => 20 | 12 => 22 | 14 => 24 | _ => 0
def nsbZ (n : Nat) (len wl : Nat → Nat) (e wc : Nat → Nat → Int) (i : Nat) (v : Value) (a b : Nat) (w : World) : Prop :=
  match i with
  | 1 => irows (fun k => a ≤ k ∧ k < b) w v n len e
  | 3 => irows (fun k => a ≤ k ∧ k < b) w v n wl wc
  | 6 => b = a + 1 ∧ v = whole a n ∧ arr w a 21 n z32
  | _ => b = a + 1 ∧ v = whole a n ∧ arr w a 3 n z64
theorem nsbZ_keep (n : Nat) (len wl : Nat → Nat) (e wc : Nat → Nat → Int) (i : Nat) (v : Value) (a b : Nat) (w w' : World) (h : nsbZ n len wl e wc i v a b w) (hk : Keeps w w' noB) : nsbZ n len wl e wc i v a b w' := by
  unfold nsbZ at *
  split at h
  · exact irows.keep h hk (fun _ _ _ h => h)
  · exact irows.keep h hk (fun _ _ _ h => h)
  · exact ⟨h.1, h.2.1, h.2.2.keep hk (fun h => h)⟩
  · exact ⟨h.1, h.2.1, h.2.2.keep hk (fun h => h)⟩


theorem nsb_op (R1 : Nat → Prop) (w : World) (a1 : Option Addr) (cap1 n d x : Nat) (len : Nat → Nat) (e : Nat → Nat → Int) (h1 : irows R1 w (.slice a1 n cap1) n len e) (hn : n ≤ 1048576) (hlen : ∀ i, i < n → len i ≤ 4294967296) (f : Nat → Value) (ef : f x = .slice a1 n cap1)
    (ty : TypeId) (pos : String) (af : Array Edge) (ats : Array TypeId) (K : (Nat → Value) → World → Prop) (hK : ∀ v w', irows (new w w') w' v n len e → Keeps w w' noB → w.heap.size < w'.heap.size → K (upd f d v) w') :
    Fop Try.prog f ⟨some d, .call ⟨.value (.func 37), #[.tmp x], ats⟩, ty, pos, af, none⟩ w K := by
  refine Fop_call (R := fun r w'' => irows (new w w'') w'' r n len e ∧ Keeps w w'' noB ∧ w.heap.size < w''.heap.size) (by kernel_rfl) ?_ (fun v w'' ⟨g1, g2, g3⟩ => hK v w'' g1 g2 g3)
  have hm : Array.map (ev f) #[Operand.tmp x] = #[Value.slice a1 n cap1] := by simp [ev, ef]
  rw [hm]
  exact vrows_any R1 w (.slice a1 n cap1) n len e h1 hn hlen
theorem nsb_mk (w : World) (t e by' n d x : Nat) (z : Value) (ht : slz Try.prog t = some (e, 1, by', z)) (hz : oc z = true) (hb : by' * n ≤ 281474976710656) (hn : n ≤ 1048576) (f : Nat → Value) (ef : f x = .int .i64 (n : Int))
    (ty : TypeId) (pos : String) (af : Array Edge) (K : (Nat → Value) → World → Prop) (hK : ∀ w', arr w' w.heap.size e n (fun _ => z) → Keeps w w' noB → w'.heap.size = w.heap.size + 1 → K (upd f d (whole w.heap.size n)) w') :
    Fop Try.prog f ⟨some d, .makeSlice t (.tmp x) (.tmp x), ty, pos, af, none⟩ w K := by
  obtain ⟨w'', hr, g1, g2, g3⟩ := r_make (P := Try.prog) (f := f) (w := w) (dst := some d) (ty := ty) (pos := pos) (af := af) (gu := none) (x := .tmp x) (y := .tmp x) ef ef rfl rfl (Nat.le_refl _) ht hz hb (by omega)
  exact Fop_val hr (hK w'' g1 g2 g3)
def nsbT (B BL BP BN BA BW l1 h1 k : Nat) : Nat :=
  if k = B then 1 else if k = BL then 2 else if k = BP then 3 else if k = BN then 4 else if k = BA then 5 else if k = BW then 6 else if l1 ≤ k ∧ k < h1 then 7 else 8
theorem lo_ne {a b c d : Nat} (h : b ≤ c ∨ d ≤ a) (h1 : a < b) (h2 : c < d) : a ≠ c := by omega
theorem in_ne {a b c d k : Nat} (h : b ≤ c ∨ d ≤ a) (h2 : c < d) (hk : a ≤ k ∧ k < b) : k ≠ c := by omega
theorem in_in {a b c d k : Nat} (h : b ≤ c ∨ d ≤ a) (hk : c ≤ k ∧ k < d) : ¬ (a ≤ k ∧ k < b) := by omega
theorem nsb_tags (S : Nat) (lo hi : Nat → Nat) (I : List Nat) (hI : I = [1, 3, 6, 8, 10, 12, 14]) (hlt : ∀ i, i ∈ I → lo i < hi i ∧ hi i ≤ S) (hap : ∀ i j, i ∈ I → j ∈ I → i ≠ j → hi i ≤ lo j ∨ hi j ≤ lo i) :
    Tags (nsbT S (lo 6) (lo 8) (lo 10) (lo 12) (lo 14) (lo 1) (hi 1)) S (lo 6) (lo 8) (lo 10) (lo 12) (lo 14) (fun k => lo 1 ≤ k ∧ k < hi 1) (fun k => lo 3 ≤ k ∧ k < hi 3) := by
  have nS : ∀ i, i ∈ I → lo i ≠ S := fun i hi' => by have := hlt i hi'; omega
  have nn : ∀ i j, i ∈ I → j ∈ I → i ≠ j → lo i ≠ lo j := fun i j a b c => lo_ne (hap i j a b c) (hlt i a).1 (hlt j b).1
  have kS : ∀ i k, i ∈ I → (lo i ≤ k ∧ k < hi i) → k ≠ S := fun i k hi' hk => by have := hlt i hi'; omega
  have kn : ∀ i j k, i ∈ I → j ∈ I → i ≠ j → (lo i ≤ k ∧ k < hi i) → k ≠ lo j := fun i j k a b c hk => in_ne (hap i j a b c) (hlt j b).1 hk
  have m1 : 1 ∈ I := by simp [hI]
  have m3 : 3 ∈ I := by simp [hI]
  have m6 : 6 ∈ I := by simp [hI]
  have m8 : 8 ∈ I := by simp [hI]
  have m10 : 10 ∈ I := by simp [hI]
  have m12 : 12 ∈ I := by simp [hI]
  have m14 : 14 ∈ I := by simp [hI]
  refine ⟨if_pos rfl, ?_, ?_, ?_, ?_, ?_, fun k hk => ?_, fun k hk => ?_⟩ <;> unfold nsbT
  · rw [if_neg (nS 6 m6), if_pos rfl]
  · rw [if_neg (nS 8 m8), if_neg (nn 8 6 m8 m6 (by decide)), if_pos rfl]
  · rw [if_neg (nS 10 m10), if_neg (nn 10 6 m10 m6 (by decide)), if_neg (nn 10 8 m10 m8 (by decide)), if_pos rfl]
  · rw [if_neg (nS 12 m12), if_neg (nn 12 6 m12 m6 (by decide)), if_neg (nn 12 8 m12 m8 (by decide)), if_neg (nn 12 10 m12 m10 (by decide)), if_pos rfl]
  · rw [if_neg (nS 14 m14), if_neg (nn 14 6 m14 m6 (by decide)), if_neg (nn 14 8 m14 m8 (by decide)), if_neg (nn 14 10 m14 m10 (by decide)), if_neg (nn 14 12 m14 m12 (by decide)), if_pos rfl]
  · rw [if_neg (kS 1 k m1 hk), if_neg (kn 1 6 k m1 m6 (by decide) hk), if_neg (kn 1 8 k m1 m8 (by decide) hk), if_neg (kn 1 10 k m1 m10 (by decide) hk), if_neg (kn 1 12 k m1 m12 (by decide) hk), if_neg (kn 1 14 k m1 m14 (by decide) hk), if_pos hk]
  · rw [if_neg (kS 3 k m3 hk), if_neg (kn 3 6 k m3 m6 (by decide) hk), if_neg (kn 3 8 k m3 m8 (by decide) hk), if_neg (kn 3 10 k m3 m10 (by decide) hk), if_neg (kn 3 12 k m3 m12 (by decide) hk), if_neg (kn 3 14 k m3 m14 (by decide) hk), if_neg (in_in (hap 1 3 m1 m3 (by decide)) hk)]
theorem made_range {w0 : World} {f0 : Nat → Value} {Eff : List Nat} {dst : Nat → Nat} {Z : Nat → Value → Nat → Nat → World → Prop} {S : Nat → Bool} {f : Nat → Value} {w : World} {lo hi : Nat → Nat} (h : Made w0 f0 Eff dst Z S f w lo hi) {i : Nat} (hi' : S i = true) : w0.heap.size ≤ lo i ∧ lo i < hi i ∧ hi i ≤ w.heap.size :=
  ⟨(h.got i hi').1, (h.got i hi').2.1, (h.got i hi').2.2.1⟩
set_option maxHeartbeats 1000000 in
theorem nsb_any (R1 R2 : Nat → Prop) (w : World) (v1 v2 : Value) (n : Nat) (len wl : Nat → Nat) (e wc : Nat → Nat → Int) (lim : Int) (h1 : irows R1 w v1 n len e) (h2 : irows R2 w v2 n wl wc) (hn : n ≤ 1048576) (hlen : ∀ i, i < n → len i ≤ 1048576) (hwl : ∀ i, i < n → wl i ≤ 4294967296) :
    Calls Try.prog 16 #[v1, v2, .int .i64 lim] w fun ee w' => ∃ r, ee = .returned r ∧ ((∃ τ B BL BP BN BA BW RE RW vE vW, r = .pointer (some ⟨B, 0, none⟩) ∧ SB w' w.heap.size n len wl e wc lim τ B BL BP BN BA BW RE RW vE vW) ∧ Keeps w w' noB) := by
  obtain ⟨a1, cap1, rfl⟩ := h1.val
  obtain ⟨a2, cap2, rfl⟩ := h2.val
  refine enter1 (args := [_, _, _]) (R := fun r w' => (∃ τ B BL BP BN BA BW RE RW vE vW, r = .pointer (some ⟨B, 0, none⟩) ∧ SB w' w.heap.size n len wl e wc lim τ B BL BP BN BA BW RE RW vE vW) ∧ Keeps w w' noB) Try.func16 rfl Try.ntmps16 Try.results16 rfl rfl ?_
  refine Cw_seq (Cw_region (by kernel_rfl) ?_)
  refine s_assign (Fl_nil (th_n ?_))
  refine Cw_seq (Cw_region (by kernel_rfl) ?_)
  refine s_move (s_lenS rfl (by kernel_rfl) (s_assign (Fl_nil (th_n ?_))))
  refine Cw_seq ?_
  refine Cw_made [0, 2, 4, 5, 7, 9, 11, 13] [1, 3, 6, 8, 10, 12, 14] [(15, 2), (16, 2), (17, 2)] nsbDst (nsbZ n len wl e wc) (by kernel_rfl) (by kernel_rfl) (by kernel_rfl) (by decide) (by kernel_rfl) (by kernel_rfl) (by kernel_rfl) ?_ (nsbZ_keep n len wl e wc) ?_
  · intro i j hi hj h
    simp at hi hj
    rcases hi with rfl | rfl | rfl | rfl | rfl | rfl | rfl <;> rcases hj with rfl | rfl | rfl | rfl | rfl | rfl | rfl <;> first | rfl | (simp [nsbDst] at h)
  refine p0 rfl rfl (fun _ => r_move) (p0 rfl rfl (fun _ => r_move) (p0 rfl rfl (fun _ => r_move) (p0 rfl rfl (fun _ => r_move) (p0 rfl rfl (fun _ => r_move) (p0 rfl rfl (fun _ => r_move) (p0 rfl rfl (fun _ => r_move) (p0 rfl rfl (fun _ => r_move) (Fp_nil ?_))))))))
  constructor
  · intro i hi f w' hk hrest
    have hk' : Keeps w w' noB := (Keeps.drew w noB).trans hk (fun _ _ h => h) (fun _ _ h => h)
    have e10 : f 10 = .slice a1 n cap1 := hrest 10 (by intro i hi; simp at hi; rcases hi with rfl | rfl | rfl | rfl | rfl | rfl | rfl <;> decide)
    have e12 : f 12 = .slice a2 n cap2 := hrest 12 (by intro i hi; simp at hi; rcases hi with rfl | rfl | rfl | rfl | rfl | rfl | rfl <;> decide)
    have e15 : f 15 = .int .i64 (n : Int) := hrest 15 (by intro i hi; simp at hi; rcases hi with rfl | rfl | rfl | rfl | rfl | rfl | rfl <;> decide)
    have e17 : f 17 = .int .i64 (n : Int) := hrest 17 (by intro i hi; simp at hi; rcases hi with rfl | rfl | rfl | rfl | rfl | rfl | rfl <;> decide)
    have e19 : f 19 = .int .i64 (n : Int) := hrest 19 (by intro i hi; simp at hi; rcases hi with rfl | rfl | rfl | rfl | rfl | rfl | rfl <;> decide)
    have e21 : f 21 = .int .i64 (n : Int) := hrest 21 (by intro i hi; simp at hi; rcases hi with rfl | rfl | rfl | rfl | rfl | rfl | rfl <;> decide)
    have e23 : f 23 = .int .i64 (n : Int) := hrest 23 (by intro i hi; simp at hi; rcases hi with rfl | rfl | rfl | rfl | rfl | rfl | rfl <;> decide)
    simp at hi
    rcases hi with rfl | rfl | rfl | rfl | rfl | rfl | rfl
    · exact ⟨_, rfl, rfl, nsb_op R1 w' a1 cap1 n 11 10 len e (h1.keep hk' (fun _ _ _ h => h)) hn (fun i hi => Nat.le_trans (hlen i hi) (by decide)) f e10 _ _ _ _ _ (fun v w'' g1 g2 g3 => ⟨v, rfl, g2, g3, g1⟩)⟩
    · exact ⟨_, rfl, rfl, nsb_op R2 w' a2 cap2 n 13 12 wl wc (h2.keep hk' (fun _ _ _ h => h)) hn hwl f e12 _ _ _ _ _ (fun v w'' g1 g2 g3 => ⟨v, rfl, g2, g3, g1⟩)⟩
    · exact ⟨_, rfl, rfl, nsb_mk w' 35 21 4 n 16 15 _ slz35 rfl (by omega) hn f e15 _ _ _ _ (fun w'' g1 g2 g3 => ⟨_, rfl, g2, by omega, g3, rfl, g1⟩)⟩
    · exact ⟨_, rfl, rfl, nsb_mk w' 39 3 8 n 18 17 _ slz39 rfl (by omega) hn f e17 _ _ _ _ (fun w'' g1 g2 g3 => ⟨_, rfl, g2, by omega, g3, rfl, g1⟩)⟩
    · exact ⟨_, rfl, rfl, nsb_mk w' 39 3 8 n 20 19 _ slz39 rfl (by omega) hn f e19 _ _ _ _ (fun w'' g1 g2 g3 => ⟨_, rfl, g2, by omega, g3, rfl, g1⟩)⟩
    · exact ⟨_, rfl, rfl, nsb_mk w' 39 3 8 n 22 21 _ slz39 rfl (by omega) hn f e21 _ _ _ _ (fun w'' g1 g2 g3 => ⟨_, rfl, g2, by omega, g3, rfl, g1⟩)⟩
    · exact ⟨_, rfl, rfl, nsb_mk w' 39 3 8 n 24 23 _ slz39 rfl (by omega) hn f e23 _ _ _ _ (fun w'' g1 g2 g3 => ⟨_, rfl, g2, by omega, g3, rfl, g1⟩)⟩
  · intro f w' lo hi hM
    obtain ⟨p1, q1, r1, z1⟩ := hM.got 1 rfl
    obtain ⟨p3, q3, r3, z3⟩ := hM.got 3 rfl
    obtain ⟨p6, q6, r6, y6, v6, z6⟩ := hM.got 6 rfl
    obtain ⟨p8, q8, r8, y8, v8, z8⟩ := hM.got 8 rfl
    obtain ⟨p10, q10, r10, y10, v10, z10⟩ := hM.got 10 rfl
    obtain ⟨p12, q12, r12, y12, v12, z12⟩ := hM.got 12 rfl
    obtain ⟨p14, q14, r14, y14, v14, z14⟩ := hM.got 14 rfl
    have z1' : irows (fun k => lo 1 ≤ k ∧ k < hi 1) w' (f 11) n len e := z1
    have z3' : irows (fun k => lo 3 ≤ k ∧ k < hi 3) w' (f 13) n wl wc := z3
    obtain ⟨b1, c1, e11⟩ := z1'.val
    obtain ⟨b3, c3, e13⟩ := z3'.val
    have e14 : f 14 = .int .i64 lim := hM.rest 14 (by intro i hi; simp at hi; rcases hi with rfl | rfl | rfl | rfl | rfl | rfl | rfl <;> decide)
    rw [e11] at z1'
    rw [e13] at z3'
    have hf : f = sets [(11, .slice b1 n c1), (13, .slice b3 n c3), (14, .int .i64 lim), (16, whole (lo 6) n), (18, whole (lo 8) n), (20, whole (lo 10) n), (22, whole (lo 12) n), (24, whole (lo 14) n)] f :=
      sets_known ⟨e11, e13, e14, v6, v8, v10, v12, v14, trivial⟩
    rw [hf]
    have hkw : Keeps w w' noB := (Keeps.drew w noB).trans hM.keep (fun _ _ h => h) (fun _ _ h => h)
    have hsz := hkw.size
    refine o2 (v := .agg #[.slice b1 n c1, .slice b3 n c3, .int .i64 lim, .slice none 0 0, .int .i64 0, whole (lo 6) n, .slice none 0 0, .slice none 0 0, whole (lo 8) n, whole (lo 10) n, .slice none 0 0, whole (lo 12) n, whole (lo 14) n, .int .i64 0]) rfl rfl (r_build (by kernel_rfl)) (fun h => by cases h) ?_
    refine o2 rfl rfl (r_box rfl) (fun h => by cases h) (o2 rfl rfl r_assign (fun h => by cases h) (Fo_nil (th_n ?_)))
    refine Cw_ret ?_
    refine ⟨⟨nsbT (w'.heap.size) (lo 6) (lo 8) (lo 10) (lo 12) (lo 14) (lo 1) (hi 1), w'.heap.size, lo 6, lo 8, lo 10, lo 12, lo 14, (fun k => lo 1 ≤ k ∧ k < hi 1), (fun k => lo 3 ≤ k ∧ k < hi 3), .slice b1 n c1, .slice b3 n c3, rfl, ?_, ?_, z1'.keep (Keeps.alloc _ _ noB) (fun _ _ _ h => h), z3'.keep (Keeps.alloc _ _ noB) (fun _ _ _ h => h), z6.alloc _, z8.alloc _, z10.alloc _, z12.alloc _, z14.alloc _, ?_, ?_, ?_⟩, ?_⟩
    · exact nsb_tags w'.heap.size lo hi [1, 3, 6, 8, 10, 12, 14] rfl (fun i hi' => ⟨(made_range hM (by simpa using hi')).2.1, (made_range hM (by simpa using hi')).2.2⟩) (fun i j hi' hj' hne => hM.apart i j (by simpa using hi') (by simpa using hj') hne)
    · refine (arr.new w' _ 60 _ (fun i hi => ?_))
      match i, hi with
      | 0, _ | 1, _ | 2, _ | 3, _ | 4, _ | 5, _ | 6, _ | 7, _ | 8, _ | 9, _ | 10, _ | 11, _ | 12, _ | 13, _ => rfl
    · exact ⟨hsz, p6, p8, p10, p12, p14⟩
    · intro k hk
      rcases hk with hk | hk
      · exact Nat.le_trans p1 hk.1
      · exact Nat.le_trans p3 hk.1
    · intro k hk
      rw [size_alloc]
      rcases hk with hk | hk
      · exact Nat.lt_of_lt_of_le hk.2 (Nat.le_trans r1 (Nat.le_succ _))
      · exact Nat.lt_of_lt_of_le hk.2 (Nat.le_trans r3 (Nat.le_succ _))
    · exact hkw.trans (Keeps.alloc _ _ noB) (fun _ _ h => h) (fun _ _ h => h)
end Go.Proofs.Qxb6000043a

/-
  THE STEPPING FRAME, part 6: IN A REGION THAT DRAWS ITS ORDER: a set 'Eff' of operations that each make memory of their own, in whatever order; their results lie apart. Own work for this seat.
-/
import Derived.Test.Qxb6000043aFwE
namespace Go.Fw

def mk (l : Array Bool) (S : Nat → Bool) : Array Bool := Array.ofFn (fun k : Fin l.size => l[k.val] || S k.val)
theorem mk_get (l : Array Bool) (S : Nat → Bool) (k : Nat) (d : Bool) : (mk l S).getD k d = if k < l.size then (l.getD k false || S k) else d := by
  by_cases h : k < l.size <;> simp [mk, h]
theorem mk_set (l : Array Bool) (S : Nat → Bool) (i : Nat) : (mk l S).setIfInBounds i true = mk l (fun k => S k || Nat.beq k i) := by
  apply Array.ext
  · simp [mk]
  · intro k h1 h2
    simp [mk] at h1
    by_cases h : i = k
    · subst h; simp [mk]
    · have hb : Nat.beq k i = false := by rw [Bool.eq_false_iff]; intro hh; exact h (Nat.eq_of_beq_eq_true hh).symm
      rw [Array.getElem_setIfInBounds_ne (by simpa [mk] using h1) h]
      simp [mk, hb]
theorem mk_none (l : Array Bool) : mk l (fun _ => false) = l := by
  apply Array.ext
  · simp [mk]
  · intro k h1 h2; simp [mk]

/-- What is asked of the region's edges. -/
def effB (md : Region.Mode) (ops : Array Oper) (l : Array Bool) (Eff : List Nat) : Bool :=
  Nat.beq l.size ops.size &&
  (Eff.all fun i => !(l.getD i true) && (match ops[i]? with
    | some o => o.after.all fun e => !(Region.binds md e) || l.getD e.on false || (Eff.contains e.on && decide (e.on < i))
    | none => false)) &&
  (List.range ops.size).all fun j => Eff.contains j || l.getD j false || (match ops[j]? with
    | some o => (Eff.all fun i => o.after.any fun e => Region.binds md e && Nat.beq e.on i) || (o.after.any fun e => Region.binds md e && !(Eff.contains e.on) && !(l.getD e.on true))
    | none => true)

theorem least_of {p : Nat → Prop} : ∀ n, p n → ∃ m, p m ∧ ∀ k, k < m → ¬ p k := by
  intro n
  induction n using Nat.strongRecOn with
  | _ n ih =>
    intro hn
    by_cases h : ∃ k, k < n ∧ p k
    · obtain ⟨k, hk, hpk⟩ := h
      exact ih k hk hpk
    · exact ⟨n, hn, fun k hk hpk => h ⟨k, hk, hpk⟩⟩

theorem filter_drop (S : Nat → Bool) (i : Nat) (hS : S i = false) : ∀ (E : List Nat), E.Nodup → i ∈ E → (E.filter fun k => !(S k || Nat.beq k i)).length + 1 = (E.filter fun k => !(S k)).length
  | [], _, h => by cases h
  | x :: E, hnd, h => by
    rw [List.nodup_cons] at hnd
    by_cases hx : x = i
    · subst hx
      have hrest : (E.filter fun k => !(S k || Nat.beq k x)) = E.filter fun k => !(S k) := by
        apply List.filter_congr
        intro k hk
        have hb : Nat.beq k x = false := by rw [Bool.eq_false_iff]; intro hh; exact hnd.1 (by rw [← Nat.eq_of_beq_eq_true hh]; exact hk)
        rw [hb, Bool.or_false]
      have h2 : (!(S x)) = true := by simp [hS]
      rw [List.filter_cons_of_neg (by simp), List.filter_cons_of_pos (by simpa using h2), hrest]
      rfl
    · have hi : i ∈ E := by
        rcases List.mem_cons.1 h with h | h
        · exact absurd h.symm hx
        · exact h
      have ih := filter_drop S i hS E hnd.2 hi
      have hb : Nat.beq x i = false := by rw [Bool.eq_false_iff]; intro hh; exact hx (Nat.eq_of_beq_eq_true hh)
      cases hs : S x with
      | true => rw [List.filter_cons_of_neg (by simp [hs]), List.filter_cons_of_neg (by simp [hs])]; exact ih
      | false =>
        rw [List.filter_cons_of_pos (by rw [hs, hb]; rfl), List.filter_cons_of_pos (by rw [hs]; rfl), List.length_cons, List.length_cons, ih]

section
variable {P : Program} {N : Nat} {md : Region.Mode} {ops : Array Oper} {Q : Exit → Act → World → Prop} {l : Array Bool} {Eff : List Nat}

theorem eff_ready (hB : effB md ops l Eff = true) {S : Nat → Bool} (hS : ∀ k, S k = true → Eff.contains k = true) {i0 : Nat} (h0 : Eff.contains i0 = true) (h0' : S i0 = false) :
    (∀ i ∈ Region.ready md ops (mk l S), Eff.contains i = true ∧ S i = false) ∧ Region.ready md ops (mk l S) ≠ [] := by
  simp only [effB, Bool.and_eq_true, List.all_eq_true] at hB
  obtain ⟨⟨hsz, hA⟩, hC⟩ := hB
  have hsz' := Nat.eq_of_beq_eq_true hsz
  have unl : ∀ i, Eff.contains i = true → l.getD i true = false ∧ i < l.size := by
    intro i hi
    have := hA i (by simpa using hi)
    simp only [Bool.not_eq_true'] at this
    refine ⟨this.1, ?_⟩
    rcases Nat.lt_or_ge i l.size with h | h
    · exact h
    · have h2 := this.1
      simp [Array.getElem?_eq_none h] at h2
  have unl' : ∀ i, Eff.contains i = true → l.getD i false = false := by
    intro i hi
    obtain ⟨h1, h2⟩ := unl i hi
    simp [h2] at h1 ⊢
    exact h1
  constructor
  · intro i hi
    obtain ⟨h1, o, ho, hall⟩ := mem_ready.1 hi
    have hlt : i < l.size := by rw [hsz']; exact (Array.getElem?_eq_some_iff.1 ho).1
    rw [mk_get, if_pos hlt, Bool.or_eq_false_iff] at h1
    refine ⟨?_, h1.2⟩
    have hc := hC i (by simp; omega)
    simp only [ho, Bool.or_eq_true] at hc
    rcases hc with (hc | hc) | hc
    · exact hc
    · rw [h1.1] at hc; cases hc
    · rcases hc with hc | hc
      · have := List.all_eq_true.1 hc i0 (by simpa using h0)
        obtain ⟨e, he, hbe⟩ := Array.any_eq_true'.1 this
        simp only [Bool.and_eq_true] at hbe
        have g := hall e he hbe.1
        rw [Nat.eq_of_beq_eq_true hbe.2, mk_get, if_pos (unl i0 h0).2, unl' i0 h0, h0'] at g
        cases g
      · obtain ⟨e, he, hbe⟩ := Array.any_eq_true'.1 hc
        simp only [Bool.and_eq_true, Bool.not_eq_true'] at hbe
        have g := hall e he hbe.1.1
        rw [mk_get] at g
        split at g
        · rename_i hlt2
          have h3 := hbe.2
          simp [hlt2] at h3 g
          rcases g with g | g
          · rw [h3] at g; cases g
          · have := hS _ g
            rw [hbe.1.2] at this
            cases this
        · cases g
  · obtain ⟨m, ⟨hm1, hm2⟩, hmin⟩ := least_of (p := fun k => Eff.contains k = true ∧ S k = false) i0 ⟨h0, h0'⟩
    intro hnil
    have hin : m ∈ Region.ready md ops (mk l S) := by
      have ha := hA m (by simpa using hm1)
      simp only [Bool.not_eq_true'] at ha
      obtain ⟨ha1, ha2⟩ := ha
      cases ho : ops[m]? with
      | none => simp [ho] at ha2
      | some o =>
        simp only [ho] at ha2
        refine mem_ready.2 ⟨?_, o, ho, fun e he hb => ?_⟩
        · rw [mk_get, if_pos (unl m hm1).2, unl' m hm1, hm2]; rfl
        · have h3 := Array.all_eq_true_iff_forall_mem.1 ha2 e he
          simp only [hb, Bool.not_true, Bool.false_or, Bool.or_eq_true, Bool.and_eq_true] at h3
          rcases h3 with h3 | ⟨h3, h4⟩
          · have hlt : e.on < l.size := by
              rcases Nat.lt_or_ge e.on l.size with h | h
              · exact h
              · simp [Array.getElem?_eq_none h] at h3
            rw [mk_get, if_pos hlt, h3]; rfl
          · rw [mk_get, if_pos (unl e.on h3).2]
            have hs : S e.on = true := by
              by_cases hs : S e.on = true
              · exact hs
              · exact absurd ⟨h3, by simpa using hs⟩ (hmin e.on (of_decide_eq_true h4))
            rw [hs]; simp
    rw [hnil] at hin
    cases hin

/-- What holds when just S have come up. -/
structure Made (w0 : World) (f0 : Nat → Value) (Eff : List Nat) (dst : Nat → Nat) (Z : Nat → Value → Nat → Nat → World → Prop) (S : Nat → Bool) (f : Nat → Value) (w : World) (lo hi : Nat → Nat) : Prop where
  keep : Keeps w0 w noB
  rest : ∀ t, (∀ i, Eff.contains i = true → dst i ≠ t) → f t = f0 t
  got : ∀ i, S i = true → w0.heap.size ≤ lo i ∧ lo i < hi i ∧ hi i ≤ w.heap.size ∧ Z i (f (dst i)) (lo i) (hi i) w
  apart : ∀ i j, S i = true → S j = true → i ≠ j → hi i ≤ lo j ∨ hi j ≤ lo i

theorem wpAny_eff (w0 : World) (f0 : Nat → Value) (dst : Nat → Nat) (Z : Nat → Value → Nat → Nat → World → Prop) (hok : ∀ (j : Nat) (o : Oper), ops[j]? = some o → oOk N ops o = true)
    (hnd : Eff.Nodup) (hB : effB md ops l Eff = true) (hinj : ∀ i j, Eff.contains i = true → Eff.contains j = true → dst i = dst j → i = j)
    (hZ : ∀ i v a b w w', Z i v a b w → Keeps w w' noB → Z i v a b w')
    (hop : ∀ i, Eff.contains i = true → ∀ f w, Keeps w0 w noB → (∀ t, (∀ i, Eff.contains i = true → dst i ≠ t) → f t = f0 t) →
      ∃ o, ops[i]? = some o ∧ gd ops f o = true ∧ Fop P f o w (fun f' w' => ∃ v, f' = upd f (dst i) v ∧ Keeps w w' noB ∧ w.heap.size < w'.heap.size ∧ Z i v w.heap.size w'.heap.size w'))
    (fuel : Nat) (hfin : ∀ f w lo hi, Made w0 f0 Eff dst Z (fun k => Eff.contains k) f w lo hi → wpAny P md ops Q fuel (mk l (fun k => Eff.contains k)) (ofF N f) w) :
    ∀ (r : Nat) (S : Nat → Bool) (f : Nat → Value) (w : World) (lo hi : Nat → Nat), (∀ k, S k = true → Eff.contains k = true) → (Eff.filter fun k => !(S k)).length = r → Made w0 f0 Eff dst Z S f w lo hi →
      wpAny P md ops Q (r + fuel) (mk l S) (ofF N f) w := by
  intro r
  induction r with
  | zero =>
    intro S f w lo hi hS hr hM
    have hSe : S = fun k => Eff.contains k := by
      funext k
      cases hk : Eff.contains k with
      | true =>
        have hnil := List.length_eq_zero_iff.1 hr
        have := List.filter_eq_nil_iff.1 hnil k (by simpa using hk)
        simpa using this
      | false =>
        cases hs : S k with
        | false => rfl
        | true => rw [hS k hs] at hk; cases hk
    subst hSe
    rw [Nat.zero_add]
    exact hfin f w lo hi hM
  | succ r ih =>
    intro S f w lo hi hS hr hM
    have hex : ∃ i0, Eff.contains i0 = true ∧ S i0 = false := by
      have hne : (Eff.filter fun k => !(S k)) ≠ [] := by intro h; rw [h] at hr; cases hr
      obtain ⟨i0, hi0⟩ := List.exists_mem_of_ne_nil _ hne
      rw [List.mem_filter] at hi0
      exact ⟨i0, by simpa using hi0.1, by simpa using hi0.2⟩
    obtain ⟨i0, h0, h0'⟩ := hex
    obtain ⟨hrd, hne⟩ := eff_ready hB hS h0 h0'
    rw [show r + 1 + fuel = (r + fuel) + 1 from by omega]
    refine ⟨fun h => absurd h hne, fun i hi' => ?_⟩
    obtain ⟨hiE, hiS⟩ := hrd i hi'
    obtain ⟨o, ho, hg, hf⟩ := hop i hiE f w hM.keep hM.rest
    unfold wpOp
    simp only [ho]
    rw [oOk_gd (hok i o ho), if_pos hg]
    refine .inl (Oper.wp_mono ?_ (wp_of_Fop (hok i o ho) hf))
    rintro a w' ⟨f', rfl, v, rfl, hk, hlt, hz⟩
    rw [mk_set]
    have hne' : ∀ k, S k = true → k ≠ i := fun k hk h => by rw [h, hiS] at hk; cases hk
    refine ih (fun k => S k || Nat.beq k i) _ w' (fun k => if k = i then w.heap.size else lo k) (fun k => if k = i then w'.heap.size else hi k) ?_ ?_ ?_
    · intro k hk
      simp only [Bool.or_eq_true] at hk
      rcases hk with hk | hk
      · exact hS k hk
      · rw [Nat.eq_of_beq_eq_true hk]; exact hiE
    · have := filter_drop S i hiS Eff hnd (by simpa using hiE)
      omega
    · refine ⟨hM.keep.trans hk (fun _ _ h => h) (fun _ _ h => h), fun t ht => ?_, fun k hk' => ?_, fun j k hj hk' hjk => ?_⟩
      · rw [upd_ne _ _ (Ne.symm (ht i hiE))]
        exact hM.rest t ht
      · by_cases hki : k = i
        · subst hki
          simp only [if_pos, upd_same]
          exact ⟨hM.keep.size, hlt, Nat.le_refl _, hz⟩
        · have hks : S k = true := by
            simp only [Bool.or_eq_true] at hk'
            rcases hk' with h | h
            · exact h
            · exact absurd (Nat.eq_of_beq_eq_true h) hki
          obtain ⟨g1, g2, g3, g4⟩ := hM.got k hks
          rw [if_neg hki, if_neg hki, upd_ne _ _ (fun h => hki (hinj _ _ (hS k hks) hiE h))]
          exact ⟨g1, g2, Nat.le_trans g3 hk.size, hZ _ _ _ _ _ _ g4 hk⟩
      · have key : ∀ q, (S q || Nat.beq q i) = true → q ≠ i → S q = true := fun q hq hqi => by
          simp only [Bool.or_eq_true] at hq
          rcases hq with h | h
          · exact h
          · exact absurd (Nat.eq_of_beq_eq_true h) hqi
        by_cases hji : j = i
        · have hki : k ≠ i := fun h => hjk (hji.trans h.symm)
          have := (hM.got k (key k hk' hki)).2.2.1
          rw [if_pos hji, if_pos hji, if_neg hki, if_neg hki]
          exact .inr this
        · by_cases hki : k = i
          · have := (hM.got j (key j hj hji)).2.2.1
            rw [if_neg hji, if_neg hji, if_pos hki, if_pos hki]
            exact .inl this
          · rw [if_neg hji, if_neg hji, if_neg hki, if_neg hki]
            exact hM.apart j k (key j hj hji) (key k hk' hki) hjk
end

/-! ### pure operations first, then the makers in whatever order, then the rest alone -/
def preB (md : Region.Mode) (ops : Array Oper) : List Nat → Array Bool → Bool
  | [], _ => true
  | i :: rest, listed => (Region.ready md ops listed).contains i && freeB md ops listed [] true i && preB md ops rest (listed.setIfInBounds i true)
def preL : List Nat → Array Bool → Array Bool
  | [], l => l
  | i :: rest, l => preL rest (l.setIfInBounds i true)
def Fp (P : Program) (ops : Array Oper) (K : (Nat → Value) → World → Prop) : List Nat → (Nat → Value) → World → Prop
  | [], f, w => K f w
  | i :: rest, f, w =>
    match ops[i]? with
    | none => False
    | some o => ∃ v, YF P ops (fun _ => True) o v f ∧ Fp P ops K rest (updO f o.dst v) w
theorem S_of_wpAny {P : Program} {md : Region.Mode} {ops : Array Oper} {Q : Exit → Act → World → Prop} {S : World → Prop} : ∀ (fuel : Nat) (listed : Array Bool) (a : Act) (w : World), wpAny P md ops Q fuel listed a w → wpAnyS P md ops Q S [] fuel listed a w
  | 0, _, _, _, h => h
  | fuel + 1, _, _, _, h => ⟨h.1, fun i hi => wpOp_mono (fun a' w' h' => ⟨fun hc => by simp at hc, S_of_wpAny fuel _ a' w' h'⟩) (h.2 i hi)⟩

theorem wpAny_pre {P : Program} {N : Nat} {md : Region.Mode} {ops : Array Oper} {Q : Exit → Act → World → Prop} {K : (Nat → Value) → World → Prop} (hok : ∀ (j : Nat) (o : Oper), ops[j]? = some o → oOk N ops o = true) (fuel : Nat) :
    ∀ (pre : List Nat) (listed : Array Bool) (f : Nat → Value) (w : World), preB md ops pre listed = true → (∀ f w, K f w → wpAny P md ops (noPanic Q) fuel (preL pre listed) (ofF N f) w) → Fp P ops K pre f w →
      wpAny P md ops (noPanic Q) (pre.length + fuel) listed (ofF N f) w := by
  have hsel : ∀ (j : Nat) (o : Oper) cs b, ops[j]? = some o → o.op ≠ .select cs b := fun j o cs b hj => oOk_sel (hok j o hj) cs b
  have hP : ∀ c a w, ¬ noPanic Q (.panic c) a w := fun _ _ _ h => h
  have hL : ¬ LetsOut (noPanic Q) := fun ⟨_, _, h⟩ => h
  intro pre
  induction pre with
  | nil => intro listed f w _ hend h; rw [List.length_nil, Nat.zero_add]; exact hend f w h
  | cons i rest ih =>
    intro listed f w hB hend h
    simp only [preB, Bool.and_eq_true] at hB
    obtain ⟨⟨hB1, hB2⟩, hB3⟩ := hB
    simp only [Fp] at h
    split at h
    · exact h.elim
    · rename_i o ho
      obtain ⟨v, hy, hrest⟩ := h
      have hy' : YF P ops (T true (fun _ => True)) o v f := by
        rcases hy with ⟨a, b⟩ | hy
        · exact .inl ⟨a, fun w _ => b w trivial⟩
        · exact .inr hy
      have h1 := ih (listed.setIfInBounds i true) (updO f o.dst v) w hB3 hend hrest
      rw [← ofF_put] at h1
      have h2 := wpAnyS_first (S := fun _ => True) ho hsel hP hL true (rest.length + fuel) listed (ofF N f) w (freeB_spec ho hB2) (by simpa using hB1) (YS_of_YF (hok i o ho) hy') (.inl rfl) (S_of_wpAny _ _ _ _ h1)
      rw [show (i :: rest).length + fuel = (rest.length + fuel) + 1 from by simp; omega]
      exact wpAny_of_S _ _ _ _ h2

theorem Fp_nil {P : Program} {ops : Array Oper} {K : (Nat → Value) → World → Prop} {f : Nat → Value} {w : World} (h : K f w) : Fp P ops K [] f w := h
theorem p0 {P : Program} {ops : Array Oper} {K : (Nat → Value) → World → Prop} {rest : List Nat} {f : Nat → Value} {w : World} {i : Nat} {o : Oper} {v : Value} (ho : ops[i]? = some o) (hg : gd ops f o = true) (hr : ∀ w, (execOp (ev f) o).run P w = .ok (.value v) w)
    (h : Fp P ops K rest (updO f o.dst v) w) : Fp P ops K (i :: rest) f w := by
  simp only [Fp, ho]
  exact ⟨v, .inl ⟨hg, fun w _ => by rw [hr w]; exact ⟨rfl, rfl⟩⟩, h⟩

/-- THE LAW. -/
theorem Cw_made {P : Program} {N : Nat} {Q : Exit → (Nat → Value) → World → Prop} {f : Nat → Value} {w : World} {id : Nat} {l : List Oper} (pre Eff : List Nat) (post : List (Nat × Nat)) (dst : Nat → Nat) (Z : Nat → Value → Nat → Nat → World → Prop)
    (hm : P.follows .mixedOrders = true) (hok : l.all (oOk N l.toArray) = true) (hlen : Nat.beq (pre.length + (Eff.length + post.length)) l.length = true) (hnd : Eff.Nodup)
    (hpre : preB .any l.toArray pre (Array.replicate l.length false) = true) (heff : effB .any l.toArray (preL pre (Array.replicate l.length false)) Eff = true)
    (hpost : ordB .any l.toArray [] post (mk (preL pre (Array.replicate l.length false)) (fun k => Eff.contains k)) = true)
    (hinj : ∀ i j, Eff.contains i = true → Eff.contains j = true → dst i = dst j → i = j)
    (hZ : ∀ i v a b w w', Z i v a b w → Keeps w w' noB → Z i v a b w')
    (h : Fp P l.toArray (fun f0 w0 => (∀ i, Eff.contains i = true → ∀ f w, Keeps w0 w noB → (∀ t, (∀ i, Eff.contains i = true → dst i ≠ t) → f t = f0 t) →
      ∃ o, l.toArray[i]? = some o ∧ gd l.toArray f o = true ∧ Fop P f o w (fun f' w' => ∃ v, f' = upd f (dst i) v ∧ Keeps w w' noB ∧ w.heap.size < w'.heap.size ∧ Z i v w.heap.size w'.heap.size w')) ∧
      ∀ f w lo hi, Made w0 f0 Eff dst Z (fun k => Eff.contains k) f w lo hi → Fo P l.toArray (fun _ => True) [] (fun f w => Q .normal f w) post f w) pre f w.drew) : Cw P N (.region id l.toArray true) Q f w := by
  have hok' : ∀ (j : Nat) (o : Oper), l.toArray[j]? = some o → oOk N l.toArray o = true := fun j o hj => List.all_eq_true.1 hok o (List.mem_of_getElem? (by simpa using hj))
  have h1 := wpAny_pre (Q := fun e a w' => ∃ g, a = ofF N g ∧ Q e g w') hok' (Eff.length + post.length) pre _ f w.drew hpre (fun f0 w0 ⟨hop, hfin⟩ => by
    have h2 := wpAny_eff (P := P) (N := N) (md := .any) (Q := noPanic fun e a w' => ∃ g, a = ofF N g ∧ Q e g w') w0 f0 dst Z hok' hnd heff hinj hZ hop post.length (fun f w lo hi hM =>
      wpAny_of_S _ _ _ _ (wpAnyS_of_Fo (K := fun f w => Q .normal f w) hok' (fun f w hk => ⟨f, rfl, hk⟩) post _ f w hpost (hfin f w lo hi hM))) Eff.length (fun _ => false) f0 w0 (fun _ => 0) (fun _ => 0)
      (fun k hk => by cases hk) (by simp) ⟨Keeps.refl _ _, (fun t _ => rfl), (fun i hi => by cases hi), (fun i j hi => by cases hi)⟩
    rw [mk_none] at h2
    exact h2) h
  rw [Nat.eq_of_beq_eq_true hlen] at h1
  refine wp_mono (wp_region_any (Q := noPanic fun e a w' => ∃ g, a = ofF N g ∧ Q e g w') hm (by simpa using h1)) ?_
  intro e a w' he
  cases e <;> first | exact he | exact he.elim
end Go.Fw

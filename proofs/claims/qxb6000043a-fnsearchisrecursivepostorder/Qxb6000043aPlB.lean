/-
  PLAIN LAWS, B: the search as a machine of steps. No Go in sight. Own work.
-/
namespace Go.Proofs.Qxb6000043a.Pl

structure Gr where
  n : Nat
  len : Nat → Nat
  e : Nat → Nat → Nat
/-- The t-th edge of v that the search takes. -/
def Gr.nx (G : Gr) (bw : Bool) (v t : Nat) : Nat := if bw then G.e v (G.len v - 1 - t) else G.e v t
def Gr.Ok (G : Gr) : Prop := ∀ v i, v < G.n → i < G.len v → G.e v i < G.n
theorem Gr.Ok.nx {G : Gr} (h : G.Ok) (bw : Bool) {v t : Nat} (hv : v < G.n) (ht : t < G.len v) : G.nx bw v t < G.n := by
  unfold Gr.nx
  split
  · exact h v _ hv (by omega)
  · exact h v t hv ht

structure St where
  left : Nat → Int
  order : List Nat
  path : List (Nat × Nat)
def setI (f : Nat → Int) (d : Nat) (x : Int) (i : Nat) : Int := if i = d then x else f i
def step (G : Gr) (bw : Bool) (s : St) : St :=
  match s.path with
  | [] => s
  | (v, t) :: rest =>
    if t < G.len v then
      (if s.left (G.nx bw v t) = 0 then ⟨setI s.left (G.nx bw v t) (-1), s.order, (G.nx bw v t, 0) :: (v, t + 1) :: rest⟩
       else ⟨s.left, s.order, (v, t + 1) :: rest⟩)
    else ⟨setI s.left v ((s.order.length : Int) + 1), s.order ++ [v], rest⟩
def iter (G : Gr) (bw : Bool) : Nat → St → St
  | 0, s => s
  | k + 1, s => step G bw (iter G bw k s)
def init (r : Nat) : St := ⟨setI (fun _ => 0) r (-1), [], [(r, 0)]⟩

/-! ### a number that every step lowers -/
def sumTo (g : Nat → Nat) : Nat → Nat
  | 0 => 0
  | n + 1 => sumTo g n + g n
theorem sumTo_congr {g h : Nat → Nat} : ∀ n, (∀ i, i < n → g i = h i) → sumTo g n = sumTo h n
  | 0, _ => rfl
  | n + 1, hh => by simp only [sumTo]; rw [sumTo_congr n (fun i hi => hh i (by omega)), hh n (by omega)]
theorem sumTo_le {g h : Nat → Nat} : ∀ n, (∀ i, i < n → g i ≤ h i) → sumTo g n ≤ sumTo h n
  | 0, _ => Nat.le_refl _
  | n + 1, hh => Nat.add_le_add (sumTo_le n fun i hi => hh i (by omega)) (hh n (by omega))
theorem sumTo_drop {g h : Nat → Nat} (d : Nat) (hh : ∀ i, i ≠ d → g i = h i) : ∀ n, d < n → sumTo g n + h d = sumTo h n + g d
  | 0, hd => by omega
  | n + 1, hd => by
    simp only [sumTo]
    by_cases hdn : d = n
    · subst hdn
      rw [sumTo_congr d (fun i hi => hh i (by omega))]
      omega
    · have := sumTo_drop d hh n (by omega)
      rw [hh n (fun h => hdn h.symm)]
      omega
def unr (G : Gr) (left : Nat → Int) (v : Nat) : Nat := if left v = 0 then G.len v + 1 else 0
def pcost (G : Gr) : List (Nat × Nat) → Nat
  | [] => 0
  | p :: rest => (G.len p.1 - p.2 + 1) + pcost G rest
def mu (G : Gr) (s : St) : Nat := sumTo (unr G s.left) G.n + pcost G s.path

/-! ### what always holds -/
structure WF (G : Gr) (s : St) : Prop where
  path : ∀ p, p ∈ s.path → p.1 < G.n ∧ p.2 ≤ G.len p.1 ∧ s.left p.1 = -1
  ord : ∀ v, v ∈ s.order → v < G.n
  nodup : (s.path.map (·.1)).Nodup

theorem wf_init (G : Gr) (r : Nat) (hr : r < G.n) : WF G (init r) := by
  refine ⟨fun p hp => ?_, fun v hv => by simp [init] at hv, by simp [init]⟩
  simp [init] at hp
  subst hp
  exact ⟨hr, Nat.zero_le _, by simp [init, setI]⟩
theorem wf_step (G : Gr) (hG : G.Ok) (bw : Bool) (s : St) (h : WF G s) : WF G (step G bw s) := by
  obtain ⟨left, order, path⟩ := s
  cases path with
  | nil => exact h
  | cons p rest =>
    obtain ⟨v, t⟩ := p
    have hp := h.path (v, t) (by simp)
    have hnd := h.nodup
    simp only [List.map_cons, List.nodup_cons] at hnd
    simp only [step]
    split
    · rename_i ht
      have hw := hG.nx bw hp.1 ht
      split
      · rename_i hl
        have hne : ∀ q : Nat × Nat, q ∈ (v, t) :: rest → q.1 ≠ G.nx bw v t := fun q hq heq => by
          have := (h.path q hq).2.2
          simp only at this
          rw [heq, hl] at this
          omega
        refine ⟨fun q hq => ?_, h.ord, ?_⟩
        · simp only [List.mem_cons] at hq
          rcases hq with rfl | rfl | hq
          · exact ⟨hw, Nat.zero_le _, by simp [setI]⟩
          · have := hne (v, t) (by simp)
            exact ⟨hp.1, by simp only; omega, by simp only [setI]; rw [if_neg this]; exact hp.2.2⟩
          · have hq' := h.path q (by simp [hq])
            have := hne q (by simp [hq])
            exact ⟨hq'.1, hq'.2.1, by simp only [setI]; rw [if_neg this]; exact hq'.2.2⟩
        · simp only [List.map_cons, List.nodup_cons, List.mem_cons, List.mem_map, not_or]
          refine ⟨⟨fun heq => hne (v, t) (by simp) heq.symm, fun ⟨q, hq, heq⟩ => hne q (by simp [hq]) heq⟩, fun ⟨q, hq, heq⟩ => hnd.1 (List.mem_map.2 ⟨q, hq, heq⟩), hnd.2⟩
      · refine ⟨fun q hq => ?_, h.ord, ?_⟩
        · simp only [List.mem_cons] at hq
          rcases hq with rfl | hq
          · exact ⟨hp.1, by simp only; omega, hp.2.2⟩
          · exact h.path q (by simp [hq])
        · simp only [List.map_cons, List.nodup_cons]; exact hnd
    · refine ⟨fun q hq => ?_, fun x hx => ?_, hnd.2⟩
      · have hq' := h.path q (by simp [hq])
        refine ⟨hq'.1, hq'.2.1, ?_⟩
        have : q.1 ≠ v := fun heq => hnd.1 (List.mem_map.2 ⟨q, hq, heq⟩)
        simp only [setI]; rw [if_neg this]; exact hq'.2.2
      · simp only [List.mem_append, List.mem_singleton] at hx
        rcases hx with hx | rfl
        · exact h.ord x hx
        · exact hp.1
theorem wf_iter (G : Gr) (hG : G.Ok) (bw : Bool) (r : Nat) (hr : r < G.n) : ∀ k, WF G (iter G bw k (init r))
  | 0 => wf_init G r hr
  | k + 1 => wf_step G hG bw _ (wf_iter G hG bw r hr k)
/-- Every step lowers the number by one; what lies on the path and in the order grows no faster. -/
theorem mu_step (G : Gr) (hG : G.Ok) (bw : Bool) (s : St) (h : WF G s) (hne : s.path ≠ []) : mu G (step G bw s) + 1 = mu G s ∧ (step G bw s).path.length + (step G bw s).order.length ≤ s.path.length + s.order.length + 1 := by
  obtain ⟨left, order, path⟩ := s
  cases path with
  | nil => exact absurd rfl hne
  | cons p rest =>
    obtain ⟨v, t⟩ := p
    have hp := h.path (v, t) (by simp)
    simp only [step]
    split
    · rename_i ht
      have hw := hG.nx bw hp.1 ht
      split
      · rename_i hl
        have hd := sumTo_drop (g := unr G (setI left (G.nx bw v t) (-1))) (h := unr G left) (G.nx bw v t)
          (fun i hi => by simp [unr, setI, hi]) G.n hw
        have e1 : unr G left (G.nx bw v t) = G.len (G.nx bw v t) + 1 := by simp only [unr]; rw [if_pos hl]
        have e2 : unr G (setI left (G.nx bw v t) (-1)) (G.nx bw v t) = 0 := by simp [unr, setI]
        rw [e1, e2] at hd
        constructor
        · simp only [mu, pcost]
          omega
        · simp only [List.length_cons]; omega
      · constructor
        · simp only [mu, pcost]
          omega
        · simp only [List.length_cons]; omega
    · rename_i ht
      have hl := hp.2.2
      simp only at hl ht
      have e : sumTo (unr G (setI left v ((order.length : Int) + 1))) G.n = sumTo (unr G left) G.n := by
        apply sumTo_congr
        intro i _
        simp only [unr, setI]
        by_cases hi : i = v
        · subst hi
          have h1 : ¬ ((order.length : Int) + 1 = 0) := by omega
          simp [hl, h1]
        · simp [hi]
      constructor
      · simp only [mu, pcost]
        have := hp.2.1
        simp only at this
        omega
      · simp only [List.length_append, List.length_cons, List.length_nil]; omega
theorem mu_init_le (G : Gr) (r : Nat) (hr : r < G.n) : mu G (init r) ≤ sumTo (fun v => G.len v + 1) G.n := by
  have hd := sumTo_drop (g := unr G (init r).left) (h := unr G (fun _ => 0)) r (fun i hi => by simp [unr, init, setI, hi]) G.n hr
  have e1 : unr G (init r).left r = 0 := by simp [unr, init, setI]
  have e2 : unr G (fun _ => 0) r = G.len r + 1 := by simp [unr]
  have e3 : sumTo (unr G (fun _ => 0)) G.n = sumTo (fun v => G.len v + 1) G.n := sumTo_congr _ fun i _ => by simp [unr]
  rw [e1, e2, e3] at hd
  simp only [mu, init, pcost] at hd ⊢
  omega
end Go.Proofs.Qxb6000043a.Pl

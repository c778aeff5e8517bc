/-
  PLAIN LAWS, C: what the search has found when its path is empty. No Go in sight. Own work.
-/
import Derived.Test.Qxb6000043aPlB
namespace Go.Proofs.Qxb6000043a.Pl

/-- v is reached from r by k edges. -/
def reachN (G : Gr) (r : Nat) : Nat → Nat → Prop
  | 0, v => v = r
  | k + 1, v => ∃ u i, reachN G r k u ∧ i < G.len u ∧ G.e u i = v
def Reach (G : Gr) (r v : Nat) : Prop := ∃ k, reachN G r k v
theorem Reach.edge {G : Gr} {r u i : Nat} (h : Reach G r u) (hi : i < G.len u) : Reach G r (G.e u i) := by
  obtain ⟨k, hk⟩ := h
  exact ⟨k + 1, u, i, hk, hi, rfl⟩
theorem Reach.nx {G : Gr} {r u i : Nat} (bw : Bool) (h : Reach G r u) (hi : i < G.len u) : Reach G r (G.nx bw u i) := by
  unfold Gr.nx
  split
  · exact h.edge (by omega)
  · exact h.edge hi

structure SInv (G : Gr) (bw : Bool) (r : Nat) (s : St) : Prop where
  neg : ∀ v, s.left v = -1 ↔ v ∈ s.path.map (·.1)
  pos : ∀ (i : Nat) v, s.order[i]? = some v → s.left v = (i : Int) + 1
  ord : ∀ v, 0 < s.left v → v ∈ s.order
  low : ∀ v, -1 ≤ s.left v
  last : (∃ t pre, s.path = pre ++ [(r, t)]) ∨ (s.path = [] ∧ ∃ pre, s.order = pre ++ [r])
  done : ∀ v, v ∈ s.order → ∀ i, i < G.len v → s.left (G.nx bw v i) ≠ 0
  half : ∀ p, p ∈ s.path → ∀ i, i < p.2 → s.left (G.nx bw p.1 i) ≠ 0
  reach : ∀ v, s.left v ≠ 0 → Reach G r v

theorem inv_init (G : Gr) (bw : Bool) (r : Nat) : SInv G bw r (init r) := by
  refine ⟨fun v => ?_, fun i v h => by simp [init] at h, fun v h => ?_, fun v => ?_, .inl ⟨0, [], rfl⟩, fun v h => by simp [init] at h, fun p hp i hi => ?_, fun v h => ?_⟩
  · simp only [init, setI, List.map_cons, List.map_nil, List.mem_singleton]
    split <;> simp_all
  · simp only [init, setI] at h
    split at h <;> omega
  · simp only [init, setI]
    split <;> omega
  · simp only [init, List.mem_singleton] at hp
    subst hp
    simp at hi
  · simp only [init, setI] at h
    split at h
    · rename_i hv; exact ⟨0, hv⟩
    · simp at h

theorem inv_step (G : Gr) (bw : Bool) (r : Nat) (s : St) (hw : WF G s) (h : SInv G bw r s) : SInv G bw r (step G bw s) := by
  obtain ⟨left, order, path⟩ := s
  cases path with
  | nil => exact h
  | cons p rest =>
    obtain ⟨v, t⟩ := p
    obtain ⟨neg, pos, ord, low, last, done, half, reach⟩ := h
    simp only at neg pos ord low last done half reach
    have hnd := hw.nodup
    simp only [List.map_cons, List.nodup_cons] at hnd
    have hlv : left v = -1 := (neg v).2 (by simp)
    have hrv : Reach G r v := reach v (by omega)
    have hlast : ∃ t' pre, (v, t) :: rest = pre ++ [(r, t')] := by
      rcases last with h | ⟨h, _⟩
      · exact h
      · cases h
    simp only [step]
    split
    · rename_i ht
      have hrw : Reach G r (G.nx bw v t) := hrv.nx bw ht
      split
      · rename_i hl
        generalize hx : G.nx bw v t = x at *
        have hset : ∀ u, setI left x (-1) u ≠ 0 ↔ (u = x ∨ left u ≠ 0) := fun u => by
          simp only [setI]
          by_cases hu : u = x
          · simp [hu]
          · simp [hu]
        refine ⟨fun u => ?_, fun i u hu => ?_, fun u hu => ?_, fun u => ?_, .inl ?_, fun u hu i hi => (hset _).2 (.inr (done u hu i hi)), fun p hp i hi => ?_, fun u hu => ?_⟩
        · simp only [setI, List.map_cons, List.mem_cons]
          have := neg u
          simp only [List.map_cons, List.mem_cons] at this
          by_cases hu : u = x
          · simp [hu]
          · simp only [hu, if_false, false_or]; exact this
        · simp only [setI]
          have := pos i u hu
          rw [if_neg (fun hux => by rw [hux, hl] at this; omega)]
          exact this
        · simp only [setI] at hu
          split at hu
          · omega
          · exact ord u hu
        · simp only [setI]
          split
          · omega
          · exact low u
        · obtain ⟨t', pre, he⟩ := hlast
          cases pre with
          | nil =>
            simp only [List.nil_append, List.cons.injEq, Prod.mk.injEq] at he
            obtain ⟨⟨rfl, rfl⟩, rfl⟩ := he
            exact ⟨t + 1, [(x, 0)], rfl⟩
          | cons q pre =>
            simp only [List.cons_append, List.cons.injEq] at he
            exact ⟨t', (x, 0) :: (v, t + 1) :: pre, by rw [he.2]; rfl⟩
        · simp only [List.mem_cons] at hp
          rcases hp with rfl | rfl | hp
          · simp at hi
          · simp only at hi
            by_cases hit : i = t
            · subst hit; exact (hset _).2 (.inl hx)
            · exact (hset _).2 (.inr (half (v, t) (by simp) i (by simp only; omega)))
          · exact (hset _).2 (.inr (half p (by simp [hp]) i hi))
        · rcases (hset u).1 hu with rfl | hu
          · exact hrw
          · exact reach u hu
      · rename_i hl
        refine ⟨fun u => ?_, pos, ord, low, .inl ?_, done, fun p hp i hi => ?_, reach⟩
        · have := neg u
          simpa using this
        · obtain ⟨t', pre, he⟩ := hlast
          cases pre with
          | nil =>
            simp only [List.nil_append, List.cons.injEq, Prod.mk.injEq] at he
            obtain ⟨⟨rfl, rfl⟩, rfl⟩ := he
            exact ⟨t + 1, [], rfl⟩
          | cons q pre =>
            simp only [List.cons_append, List.cons.injEq] at he
            exact ⟨t', (v, t + 1) :: pre, by rw [he.2]; rfl⟩
        · simp only [List.mem_cons] at hp
          rcases hp with rfl | hp
          · simp only at hi
            by_cases hit : i = t
            · subst hit; exact hl
            · exact half (v, t) (by simp) i (by simp only; omega)
          · exact half p (by simp [hp]) i hi
    · rename_i ht
      have htl := (hw.path (v, t) (by simp)).2.1
      simp only at htl
      have hset : ∀ u, setI left v ((order.length : Int) + 1) u ≠ 0 ↔ left u ≠ 0 := fun u => by
        simp only [setI]
        by_cases hu : u = v
        · subst hu; simp; omega
        · simp [hu]
      refine ⟨fun u => ?_, fun i u hu => ?_, fun u hu => ?_, fun u => ?_, ?_, fun u hu i hi => (hset _).2 ?_, fun p hp i hi => (hset _).2 (half p (by simp [hp]) i hi), fun u hu => reach u ((hset u).1 hu)⟩
      · simp only [setI]
        have := neg u
        simp only [List.map_cons, List.mem_cons] at this
        by_cases hu : u = v
        · subst hu
          simp only [if_true]
          constructor
          · intro h; omega
          · intro h; exact absurd h hnd.1
        · simp only [hu, if_false]
          rw [this]
          simp [hu]
      · simp only [setI]
        by_cases hi : i < order.length
        · rw [List.getElem?_append_left hi] at hu
          have := pos i u hu
          rw [if_neg (fun huv => by rw [huv, hlv] at this; omega)]
          exact this
        · rw [List.getElem?_append_right (by omega)] at hu
          by_cases hi0 : i - order.length = 0
          · rw [hi0] at hu
            simp at hu
            rw [if_pos hu.symm]
            omega
          · rw [List.getElem?_eq_none (by simp; omega)] at hu
            cases hu
      · simp only [setI] at hu
        split at hu
        · rename_i huv; simp [huv]
        · exact List.mem_append.2 (.inl (ord u hu))
      · simp only [setI]
        split
        · omega
        · exact low u
      · obtain ⟨t', pre, he⟩ := hlast
        cases pre with
        | nil =>
          simp only [List.nil_append, List.cons.injEq, Prod.mk.injEq] at he
          obtain ⟨⟨rfl, rfl⟩, rfl⟩ := he
          exact .inr ⟨rfl, order, rfl⟩
        | cons q pre =>
          simp only [List.cons_append, List.cons.injEq] at he
          exact .inl ⟨t', pre, he.2⟩
      · simp only [List.mem_append, List.mem_singleton] at hu
        rcases hu with hu | rfl
        · exact done u hu i hi
        · exact half (u, t) (by simp) i (by simp only; omega)

theorem inv_iter (G : Gr) (hG : G.Ok) (bw : Bool) (r : Nat) (hr : r < G.n) : ∀ k, SInv G bw r (iter G bw k (init r))
  | 0 => inv_init G bw r
  | k + 1 => inv_step G bw r _ (wf_iter G hG bw r hr k) (inv_iter G hG bw r hr k)

/-- What a search that has come to its end has found. -/
structure Found (G : Gr) (r : Nat) (s : St) : Prop where
  lt : ∀ v, v ∈ s.order → v < G.n
  pos : ∀ (i : Nat) v, s.order[i]? = some v → s.left v = (i : Int) + 1
  mem : ∀ v, v ∈ s.order ↔ s.left v ≠ 0
  low : ∀ v, 0 ≤ s.left v
  last : ∃ pre, s.order = pre ++ [r]
  clos : ∀ v, v ∈ s.order → ∀ i, i < G.len v → G.e v i ∈ s.order
  reach : ∀ v, v ∈ s.order ↔ Reach G r v
theorem found (G : Gr) (hG : G.Ok) (bw : Bool) (r : Nat) (hr : r < G.n) (k : Nat) (hp : (iter G bw k (init r)).path = []) : Found G r (iter G bw k (init r)) := by
  have hI := inv_iter G hG bw r hr k
  have hW := wf_iter G hG bw r hr k
  generalize iter G bw k (init r) = s at *
  have low : ∀ v, 0 ≤ s.left v := fun v => by
    have h1 := hI.low v
    have h2 : s.left v ≠ -1 := fun h => by have := (hI.neg v).1 h; rw [hp] at this; cases this
    omega
  have mem : ∀ v, v ∈ s.order ↔ s.left v ≠ 0 := fun v => by
    constructor
    · intro hv
      obtain ⟨i, hi⟩ := List.mem_iff_getElem?.1 hv
      have := hI.pos i v hi
      omega
    · intro hv
      exact hI.ord v (by have := low v; omega)
  have last : ∃ pre, s.order = pre ++ [r] := by
    rcases hI.last with ⟨t, pre, h⟩ | ⟨_, h⟩
    · rw [hp] at h; simp at h
    · exact h
  have clos : ∀ v, v ∈ s.order → ∀ i, i < G.len v → G.e v i ∈ s.order := fun v hv i hi => by
    rw [mem]
    cases bw with
    | false => have := hI.done v hv i hi; simpa [Gr.nx] using this
    | true =>
      have := hI.done v hv (G.len v - 1 - i) (by omega)
      simp only [Gr.nx, if_true] at this
      rwa [show G.len v - 1 - (G.len v - 1 - i) = i from by omega] at this
  refine ⟨hW.ord, hI.pos, mem, low, last, clos, fun v => ⟨fun hv => hI.reach v ((mem v).1 hv), ?_⟩⟩
  rintro ⟨n, hn⟩
  induction n generalizing v with
  | zero =>
    obtain ⟨pre, h⟩ := last
    rw [h]
    simp only [reachN] at hn
    simp [hn]
  | succ n ih =>
    obtain ⟨u, i, h1, h2, rfl⟩ := hn
    exact clos u (ih u h1) i h2
end Go.Proofs.Qxb6000043a.Pl

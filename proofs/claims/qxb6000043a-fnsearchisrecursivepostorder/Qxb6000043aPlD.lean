/-
  PLAIN LAWS, D: complete graphs. No Go in sight. Own work.
-/
import Derived.Test.Qxb6000043aPlA
import Derived.Test.Qxb6000043aPlC
namespace Go.Proofs.Qxb6000043a.Pl

/-- Each waits for every other, once. -/
structure Cmp (G : Gr) : Prop where
  ok : G.Ok
  len : ∀ v, v < G.n → G.len v = G.n - 1
  irr : ∀ v t, v < G.n → t < G.len v → G.e v t ≠ v
  inj : ∀ v t t', v < G.n → t < G.len v → t' < G.len v → G.e v t = G.e v t' → t = t'
  sur : ∀ v u, v < G.n → u < G.n → u ≠ v → ∃ t, t < G.len v ∧ G.e v t = u

def cg (k sh : Nat) : Gr := ⟨k, fun _ => k - 1, fun v t => (v + ((sh + t) % (k - 1) + 1)) % k⟩
theorem mod_two (m a b : Nat) (hb : b < m) : (a + b) % m = if a % m + b < m then a % m + b else a % m + b - m := by
  have hm : a % m < m := Nat.mod_lt _ (by omega)
  rw [← Nat.mod_add_mod]
  split
  · rename_i h; exact Nat.mod_eq_of_lt h
  · rename_i h
    rw [Nat.mod_eq_sub_mod (by omega), Nat.mod_eq_of_lt (by omega)]
theorem cg_e (k sh v t : Nat) (hv : v < k) (ht : t < k - 1) : ∃ s, 1 ≤ s ∧ s < k ∧ (cg k sh).e v t = (if v + s < k then v + s else v + s - k) ∧ s = (if sh % (k - 1) + t < k - 1 then sh % (k - 1) + t else sh % (k - 1) + t - (k - 1)) + 1 := by
  have hm : sh % (k - 1) < k - 1 := Nat.mod_lt _ (by omega)
  refine ⟨(sh + t) % (k - 1) + 1, by omega, ?_, ?_, ?_⟩
  · have := Nat.mod_lt (sh + t) (show 0 < k - 1 by omega); omega
  · show (v + ((sh + t) % (k - 1) + 1)) % k = _
    have h2 := Nat.mod_lt (sh + t) (show 0 < k - 1 by omega)
    rw [mod_two k v _ (by omega), Nat.mod_eq_of_lt hv]
  · rw [mod_two (k - 1) sh t ht]
theorem cg_cmp (k sh : Nat) : Cmp (cg k sh) := by
  refine ⟨fun v t hv ht => ?_, fun v hv => rfl, fun v t hv ht => ?_, fun v t t' hv ht ht' he => ?_, fun v u hv hu hne => ?_⟩
  · have hv : v < k := hv
    have ht : t < k - 1 := ht
    obtain ⟨s, h1, h2, h3, _⟩ := cg_e k sh v t hv ht
    show (cg k sh).e v t < k
    rw [h3]; split <;> omega
  · have hv : v < k := hv
    have ht : t < k - 1 := ht
    obtain ⟨s, h1, h2, h3, _⟩ := cg_e k sh v t hv ht
    rw [h3]; split <;> omega
  · have hv : v < k := hv
    have ht : t < k - 1 := ht
    have ht' : t' < k - 1 := ht'
    have hm : sh % (k - 1) < k - 1 := Nat.mod_lt _ (by omega)
    obtain ⟨s, h1, h2, h3, h4⟩ := cg_e k sh v t hv ht
    obtain ⟨s', g1, g2, g3, g4⟩ := cg_e k sh v t' hv ht'
    rw [h3, g3] at he
    generalize sh % (k - 1) = c at *
    have hs : s = s' := by
      split at he <;> split at he <;> omega
    subst hs
    split at h4 <;> split at g4 <;> omega
  · have hv : v < k := hv
    have hu : u < k := hu
    have hm : sh % (k - 1) < k - 1 := Nat.mod_lt _ (by omega)
    -- the distance, and the place in the row
    obtain ⟨s, hs1, hs2, hs3⟩ : ∃ s, 1 ≤ s ∧ s < k ∧ (if v + s < k then v + s else v + s - k) = u := by
      by_cases h : v < u
      · exact ⟨u - v, by omega, by omega, by rw [if_pos (by omega)]; omega⟩
      · exact ⟨u + k - v, by omega, by omega, by rw [if_neg (by omega)]; omega⟩
    obtain ⟨t, ht1, ht2⟩ : ∃ t, t < k - 1 ∧ s = (if sh % (k - 1) + t < k - 1 then sh % (k - 1) + t else sh % (k - 1) + t - (k - 1)) + 1 := by
      generalize sh % (k - 1) = c at *
      by_cases h : c ≤ s - 1
      · exact ⟨s - 1 - c, by omega, by rw [if_pos (by omega)]; omega⟩
      · exact ⟨s - 1 + (k - 1) - c, by omega, by rw [if_neg (by omega)]; omega⟩
    obtain ⟨s', g1, g2, g3, g4⟩ := cg_e k sh v t hv ht1
    refine ⟨t, ht1, ?_⟩
    rw [g3, show s' = s from by rw [g4, ht2]]
    exact hs3

/-- The search leaves all of a complete graph, the root last. -/
structure Chain (G : Gr) (r : Nat) (s : St) : Prop where
  len : s.order.length = G.n
  at' : ∀ i, i < G.n → ∃ v, s.order[i]? = some v ∧ v < G.n ∧ s.left v = (i : Int) + 1
  left : ∀ v, v < G.n → 1 ≤ s.left v ∧ s.left v ≤ G.n
  inj : ∀ u v, u < G.n → v < G.n → s.left u = s.left v → u = v
  root : s.left r = G.n
theorem nodup_of_pos (s : St) (h : ∀ (i : Nat) v, s.order[i]? = some v → s.left v = (i : Int) + 1) : s.order.Nodup := by
  unfold List.Nodup
  rw [List.pairwise_iff_getElem]
  intro i j hi hj hij he
  have h1 := h i _ (List.getElem?_eq_getElem hi)
  have h2 := h j _ (List.getElem?_eq_getElem hj)
  rw [he] at h1
  omega
theorem length_all (l : List Nat) (n : Nat) (hnd : l.Nodup) (h : ∀ x, x ∈ l ↔ x < n) : l.length = n := by
  have hp : l.Perm (List.range n) := (List.perm_ext_iff_of_nodup hnd List.nodup_range).2 (fun a => by rw [h a, List.mem_range])
  rw [hp.length_eq, List.length_range]
theorem chain (G : Gr) (hC : Cmp G) (r : Nat) (hr : r < G.n) (s : St) (h : Found G r s) : Chain G r s := by
  have hrm : r ∈ s.order := by obtain ⟨pre, h⟩ := h.last; rw [h]; simp
  have hall : ∀ x, x ∈ s.order ↔ x < G.n := fun x => by
    constructor
    · exact h.lt x
    · intro hx
      by_cases hxr : x = r
      · rw [hxr]; exact hrm
      · obtain ⟨t, ht, he⟩ := hC.sur r x hr hx hxr
        rw [← he]
        exact h.clos r hrm t ht
  have hlen := length_all s.order G.n (nodup_of_pos s h.pos) hall
  have hidx : ∀ v, v < G.n → ∃ i : Nat, i < G.n ∧ s.order[i]? = some v ∧ s.left v = (i : Int) + 1 := fun v hv => by
    obtain ⟨i, hi⟩ := List.mem_iff_getElem?.1 ((hall v).2 hv)
    refine ⟨i, ?_, hi, h.pos i v hi⟩
    have := (List.getElem?_eq_some_iff.1 hi).1
    omega
  refine ⟨hlen, fun i hi => ?_, fun v hv => ?_, fun u v hu hv he => ?_, ?_⟩
  · have hi' : i < s.order.length := by omega
    have := List.getElem?_eq_getElem hi'
    exact ⟨_, this, h.lt _ (List.getElem_mem hi'), h.pos i _ this⟩
  · obtain ⟨i, h1, _, h3⟩ := hidx v hv
    omega
  · obtain ⟨i, h1, h2, h3⟩ := hidx u hu
    obtain ⟨j, g1, g2, g3⟩ := hidx v hv
    have : i = j := by omega
    subst this
    rw [h2] at g2
    exact Option.some.inj g2
  · obtain ⟨pre, hl⟩ := h.last
    have : s.order[pre.length]? = some r := by rw [hl]; simp
    have h2 := h.pos _ r this
    rw [hl] at hlen
    simp at hlen
    omega
end Go.Proofs.Qxb6000043a.Pl

/-
  WALKS, G: (*stepBound).cycleSteps on a complete graph. Own work.
-/
import Derived.Test.Qxb6000043aWaA
import Derived.Test.Qxb6000043aWaF
import Derived.Test.Qxb6000043aPlD
namespace Go.Proofs.Qxb6000043a
open Go.Fw Go.Proofs.Qxb6000043a.Pl Go.RowKit
set_option maxRecDepth 10000

/-- Forget all of the frame but these. -/
theorem Cw_fr {P : Program} {N : Nat} {Q : Exit → (Nat → Value) → World → Prop} {f : Nat → Value} {w : World} {c : Code} (L : List (Nat × Value)) (hk : known f L) (h : ∀ g, Cw P N c Q (sets L g) w) : Cw P N c Q f w := by
  obtain ⟨g, hg⟩ := sets_ex L hk
  rw [hg]
  exact h g
def oP (most c : Nat) : Nat := if c = 0 then 0 else min most (dep (c - 1)).sp
def oL (most c : Nat) : Nat := if c = 0 then 0 else min most (dep (c - 1)).sl
def oS (most c : Nat) : Nat := if c = 0 then 0 else min most (dep (c - 1)).ac
def cP (most c : Nat) : Nat := if c = 0 then 1 else min most (dep (c - 1)).sp
theorem o_le (most c : Nat) (hm : 1 ≤ most) : oP most c ≤ most ∧ oL most c ≤ most ∧ oS most c ≤ most ∧ cP most c ≤ most := by
  unfold oP oL oS cP
  split <;> omega
theorem nP (most c : Nat) : min most (oP most c + cP most c) = min most (dep c).sp := by
  cases c with
  | zero => simp [oP, cP, dep]
  | succ c => simp only [oP, cP, Nat.add_one_ne_zero, if_false, Nat.add_sub_cancel, dep]; omega
theorem nL (most c : Nat) : min most (oL most c + min most (oL most c + cP most c)) = min most (dep c).sl := by
  cases c with
  | zero => simp [oL, cP, dep]
  | succ c => simp only [oL, cP, Nat.add_one_ne_zero, if_false, Nat.add_sub_cancel, dep]; omega
theorem nS (most c : Nat) (hc : 1 ≤ c) : min most (oS most c + min most (min most (oL most c + cP most c) + cP most c)) = min most (dep c).ac := by
  cases c with
  | zero => omega
  | succ c => simp only [oS, oL, cP, Nat.add_one_ne_zero, if_false, Nat.add_sub_cancel, dep]; omega
theorem sum_const (g : Nat → Nat) (M : Nat) : ∀ n, (∀ i, i < n → g i ≤ M) → sumTo g n ≤ n * M
  | 0, _ => by simp [sumTo]
  | n + 1, h => by
    have h1 := sum_const g M n (fun i hi => h i (by omega))
    have h2 := h n (by omega)
    simp only [sumTo]
    rw [Nat.add_mul, Nat.one_mul]
    omega

/-- 'add' as a region that draws its order takes it. -/
theorem add_q (B : Nat) (x y l : Nat) (w : World) (hl : w.cell? ⟨B, 2, none⟩ = some (.int .i64 (l : Int))) (h1 : l < 9223372036854775807) (hx : x ≤ l + 1) (hy : y ≤ l + 1) (a : Array Value) (ha : a = #[.pointer (some ⟨B, 0, none⟩), .int .i64 (x : Int), .int .i64 (y : Int)]) :
    Calls Try.prog 43 a w fun e w' => e = .returned (.int .i64 ((min (l + 1) (x + y) : Nat) : Int)) ∧ w' = w := by
  subst ha
  refine (add_any B x y l w hl h1 hx hy).mono ?_
  rintro e w' ⟨v, rfl, rfl, rfl⟩
  exact ⟨rfl, rfl⟩
def setN (f : Nat → Nat) (d x : Nat) (i : Nat) : Nat := if i = d then x else f i
theorem arr_setN {w : World} {b n : Nat} {ps : Nat → Nat} (h : arr w b 3 n (fun v => .int .i64 (ps v : Int))) (d x : Nat) : arr (w.setCell ⟨b, d, none⟩ (.int .i64 (x : Int))) b 3 n (fun v => .int .i64 (setN ps d x v : Int)) :=
  (h.set d _).congr (fun i _ => by
    by_cases hi : i = d
    · subst hi; rw [upd_same]; simp [setN]
    · rw [upd_ne _ _ hi]; simp [setN, hi])

/-- The state of cycleSteps in memory. -/
structure Cy (w : World) (H B BL BP BN n : Nat) (x : Fix) (vO vPa : Value) (wk : Int) (s : St) (ps ls : Nat → Nat) : Prop where
  rep : Rep w H B BL n x vO vPa wk s
  pa : arr w BP 3 n (fun v => .int .i64 (ps v : Int))
  ln : arr w BN 3 n (fun v => .int .i64 (ls v : Int))
structure CyD (H B BL BP BN : Nat) : Prop where
  p : BP ≠ B ∧ BP ≠ BL ∧ BP < H
  n : BN ≠ B ∧ BN ≠ BL ∧ BN < H
  pn : BP ≠ BN
section
variable {w w' : World} {H B BL BP BN n : Nat} {x : Fix} {vO vPa : Value} {wk : Int} {s : St} {ps ls : Nat → Nat}
theorem rep_other (h : Rep w H B BL n x vO vPa wk s) {a : Addr} {v : Value} (h1 : a.block ≠ B) (h2 : a.block ≠ BL) (h3 : a.block < H) : Rep (w.setCell a v) H B BL n x vO vPa wk s := by
  have hk := Keeps.setCell w a v
  refine ⟨h.st.keep hk (fun e => h1 e.symm), h.le.keep hk (fun e => h2 e.symm), own_keep h.od hk (fun g hg e => ?_), own_keep h.pa hk (fun g hg e => ?_), h.oh, h.ph, h.ap, h.bh⟩
  · have := h.oh g hg; omega
  · have := h.ph g hg; omega
theorem Cy.drew (h : Cy w H B BL BP BN n x vO vPa wk s ps ls) : Cy w.drew H B BL BP BN n x vO vPa wk s ps ls := ⟨h.rep.drew, h.pa, h.ln⟩
theorem Cy.work (hD : CyD H B BL BP BN) (h : Cy w H B BL BP BN n x vO vPa wk s ps ls) (z : Int) : Cy (w.setCell ⟨B, 4, none⟩ (.int .i64 z)) H B BL BP BN n x vO vPa z s ps ls :=
  ⟨h.rep.work z, h.pa.other (a := ⟨B, 4, none⟩) hD.p.1 _, h.ln.other (a := ⟨B, 4, none⟩) hD.n.1 _⟩
theorem Cy.setP (hD : CyD H B BL BP BN) (h : Cy w H B BL BP BN n x vO vPa wk s ps ls) (d z : Nat) : Cy (w.setCell ⟨BP, d, none⟩ (.int .i64 (z : Int))) H B BL BP BN n x vO vPa wk s (setN ps d z) ls :=
  ⟨rep_other h.rep hD.p.1 hD.p.2.1 hD.p.2.2, arr_setN h.pa d z, h.ln.other (a := ⟨BP, d, none⟩) (Ne.symm hD.pn) _⟩
theorem Cy.setL (hD : CyD H B BL BP BN) (h : Cy w H B BL BP BN n x vO vPa wk s ps ls) (d z : Nat) : Cy (w.setCell ⟨BN, d, none⟩ (.int .i64 (z : Int))) H B BL BP BN n x vO vPa wk s ps (setN ls d z) :=
  ⟨rep_other h.rep hD.n.1 hD.n.2.1 hD.n.2.2, h.pa.other (a := ⟨BN, d, none⟩) hD.pn _, arr_setN h.ln d z⟩
end
/-- The inner loop's numbers after t of v's out-neighbours. -/
structure Im (G : Gr) (s : St) (lim r v c t st : Nat) (ps ls : Nat → Nat) : Prop where
  new : ∀ u, u < G.n → s.left u < (G.n : Int) - c → (∃ t', t' < t ∧ G.e v t' = u) → ps u = min (lim + 1) (dep c).sp ∧ ls u = min (lim + 1) (dep c).sl
  old : ∀ u, u < G.n → s.left u < (G.n : Int) - c → (¬ ∃ t', t' < t ∧ G.e v t' = u) → ps u = oP (lim + 1) c ∧ ls u = oL (lim + 1) c
  stn : (∃ t', t' < t ∧ G.e v t' = r) → st = min (lim + 1) (dep c).ac
  sto : (¬ ∃ t', t' < t ∧ G.e v t' = r) → st = oS (lim + 1) c
section
variable {G : Gr} {s : St} {lim r v c t st : Nat} {ps ls : Nat → Nat}
theorem ex_succ {p : Nat → Prop} {t : Nat} : (∃ t', t' < t + 1 ∧ p t') ↔ (∃ t', t' < t ∧ p t') ∨ p t := by
  constructor
  · rintro ⟨t', h, hp⟩
    by_cases he : t' = t
    · exact .inr (he ▸ hp)
    · exact .inl ⟨t', by omega, hp⟩
  · rintro (⟨t', h, hp⟩ | hp)
    · exact ⟨t', by omega, hp⟩
    · exact ⟨t, by omega, hp⟩
theorem Im.root (h : Im G s lim r v c t st ps ls) (he : G.e v t = r) (hl : s.left r = G.n) : Im G s lim r v c (t + 1) (min (lim + 1) (dep c).ac) ps ls := by
  refine ⟨fun u hu hlu hex => ?_, fun u hu hlu hex => ?_, fun _ => rfl, fun hn => (hn ⟨t, by omega, he⟩).elim⟩
  · rcases ex_succ.1 hex with hx | hx
    · exact h.new u hu hlu hx
    · rw [← hx, he, hl] at hlu; omega
  · exact h.old u hu hlu (fun hx => hex (ex_succ.2 (.inl hx)))
theorem Im.ext (h : Im G s lim r v c t st ps ls) (he : G.e v t ≠ r) : Im G s lim r v c (t + 1) st (setN ps (G.e v t) (min (lim + 1) (dep c).sp)) (setN ls (G.e v t) (min (lim + 1) (dep c).sl)) := by
  refine ⟨fun u hu hlu hex => ?_, fun u hu hlu hex => ?_, fun hx => ?_, fun hx => ?_⟩
  · by_cases hw : u = G.e v t
    · subst hw; simp [setN]
    · rcases ex_succ.1 hex with hx | hx
      · simp only [setN, hw, if_false]; exact h.new u hu hlu hx
      · exact (hw hx.symm).elim
  · have hw : u ≠ G.e v t := fun hw => hex ⟨t, by omega, hw.symm⟩
    simp only [setN, hw, if_false]
    exact h.old u hu hlu (fun hx => hex (ex_succ.2 (.inl hx)))
  · rcases ex_succ.1 hx with hx | hx
    · exact h.stn hx
    · exact (he hx).elim
  · exact h.sto (fun hy => hx (ex_succ.2 (.inl hy)))
theorem Im.skip (h : Im G s lim r v c t st ps ls) (he : G.e v t ≠ r) (hle : ¬ s.left (G.e v t) < (G.n : Int) - c) : Im G s lim r v c (t + 1) st ps ls := by
  refine ⟨fun u hu hlu hex => ?_, fun u hu hlu hex => ?_, fun hx => ?_, fun hx => ?_⟩
  · rcases ex_succ.1 hex with hx | hx
    · exact h.new u hu hlu hx
    · rw [← hx] at hlu; exact (hle hlu).elim
  · exact h.old u hu hlu (fun hx => hex (ex_succ.2 (.inl hx)))
  · rcases ex_succ.1 hx with hx | hx
    · exact h.stn hx
    · exact (he hx).elim
  · exact h.sto (fun hy => hx (ex_succ.2 (.inl hy)))
theorem Im.done (h : Im G s lim r v c t st ps ls) (hC : Cmp G) (hCh : Chain G r s) (hr : r < G.n) (hv : v < G.n) (hlv : s.left v = (G.n : Int) - c) (ht : t = G.len v) :
    (∀ u, u < G.n → s.left u ≤ (G.n : Int) - ((c + 1 : Nat) : Int) → ps u = (if s.left u = (G.n : Int) - ((c + 1 : Nat) : Int) then cP (lim + 1) (c + 1) else oP (lim + 1) (c + 1)) ∧ ls u = oL (lim + 1) (c + 1)) ∧ st = oS (lim + 1) (c + 1) := by
  subst ht
  constructor
  · intro u hu hlu
    have hne : u ≠ v := fun e => by rw [e, hlv] at hlu; omega
    obtain ⟨t', ht', he⟩ := hC.sur v u hv hu hne
    have := h.new u hu (by omega) ⟨t', ht', he⟩
    simp only [cP, oP, oL, Nat.add_one_ne_zero, if_false, Nat.add_sub_cancel, ite_self]
    exact this
  · simp only [oS, Nat.add_one_ne_zero, if_false, Nat.add_sub_cancel]
    by_cases hvr : v = r
    · subst hvr
      have hc : c = 0 := by have := hCh.root; omega
      subst hc
      rw [h.sto (fun ⟨t', ht', he⟩ => hC.irr v t' hv ht' he)]
      simp [oS, dep]
    · obtain ⟨t', ht', he⟩ := hC.sur v r hv hr (fun e => hvr e.symm)
      exact h.stn ⟨t', ht', he⟩
end
end Go.Proofs.Qxb6000043a

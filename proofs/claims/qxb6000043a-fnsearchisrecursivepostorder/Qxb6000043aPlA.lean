/-
  PLAIN LAWS, A: cliques' steps: the closed form; paths of a transitive tournament. No Go in sight. Own work.
-/
namespace Go.Proofs.Qxb6000043a.Pl

/-- k (k-1) .. (k-j+1). -/
def ff (k : Nat) : Nat → Nat
  | 0 => 1
  | j + 1 => ff k j * (k - j)
def term (k j : Nat) : Nat := ff k j / j * (j + 1)
/-- The sum of the terms 2 .. j. -/
def bs (k : Nat) : Nat → Nat
  | 0 => 0
  | 1 => 0
  | j + 2 => bs k (j + 1) + term k (j + 2)

theorem ff_pos (k : Nat) : ∀ j, j ≤ k → 0 < ff k j
  | 0, _ => by simp [ff]
  | j + 1, h => by
    have := ff_pos k j (by omega)
    simp only [ff]
    exact Nat.mul_pos this (by omega)
theorem ff_le (k : Nat) (i : Nat) : ∀ d, i + d ≤ k → ff k i ≤ ff k (i + d)
  | 0, _ => Nat.le_refl _
  | d + 1, h => by
    have := ff_le k i d (by omega)
    rw [show i + (d + 1) = (i + d) + 1 from rfl]
    simp only [ff]
    exact Nat.le_trans this (Nat.le_mul_of_pos_right _ (by omega))
theorem ff_mono (k i j : Nat) (h : i ≤ j) (hj : j ≤ k) : ff k i ≤ ff k j := by
  have := ff_le k i (j - i) (by omega)
  rwa [show i + (j - i) = j from by omega] at this
theorem factor_dvd (k i : Nat) : ∀ j, i < j → (k - i) ∣ ff k j
  | 0, h => by omega
  | j + 1, h => by
    simp only [ff]
    by_cases hij : i = j
    · subst hij; exact Nat.dvd_mul_left _ _
    · exact Nat.dvd_trans (factor_dvd k i j (by omega)) (Nat.dvd_mul_right _ _)
/-- Of j numbers in a row one is divided by j. -/
theorem dvd_ff (k j : Nat) (h1 : 1 ≤ j) : j ∣ ff k j := by
  have hm : k % j < j := Nat.mod_lt _ h1
  have hd : j ∣ k - k % j := Nat.dvd_sub_mod k
  exact Nat.dvd_trans hd (factor_dvd k (k % j) j hm)
theorem term_eq (k j : Nat) (h1 : 1 ≤ j) : term k j = ff k j + ff k j / j := by
  have h := Nat.div_mul_cancel (dvd_ff k j h1)
  unfold term
  rw [Nat.mul_add, h, Nat.mul_one]
theorem term_ge (k j : Nat) (h1 : 1 ≤ j) : ff k j ≤ term k j := by rw [term_eq k j h1]; exact Nat.le_add_right _ _
theorem bs_step (k j : Nat) (h : 2 ≤ j) : bs k j = bs k (j - 1) + term k j := by
  obtain ⟨i, rfl⟩ : ∃ i, j = i + 2 := ⟨j - 2, by omega⟩
  simp [bs]
theorem bs_mono (k i : Nat) : ∀ d, bs k i ≤ bs k (i + d)
  | 0 => Nat.le_refl _
  | d + 1 => by
    refine Nat.le_trans (bs_mono k i d) ?_
    by_cases h : 2 ≤ i + (d + 1)
    · rw [bs_step k (i + (d + 1)) h]
      exact Nat.le_add_right _ _
    · have : i = 0 ∧ d = 0 := by omega
      obtain ⟨rfl, rfl⟩ := this
      simp [bs]
theorem bs_le (k i j : Nat) (h : i ≤ j) : bs k i ≤ bs k j := by
  have := bs_mono k i (j - i)
  rwa [show i + (j - i) = j from by omega] at this
theorem term_le_bs (k j : Nat) (h : 2 ≤ j) (hj : j ≤ k) : term k j ≤ bs k k := by
  refine Nat.le_trans ?_ (bs_le k j k hj)
  rw [bs_step k j h]
  exact Nat.le_add_left _ _
/-- What cannot be reckoned any more is past the limit. -/
theorem past_ff (k j i most : Nat) (h : 2 ≤ j) (hj : j ≤ k) (hi : i ≤ j) (hm : most ≤ ff k i) : most ≤ bs k k :=
  Nat.le_trans hm (Nat.le_trans (ff_mono k i j hi hj) (Nat.le_trans (term_ge k j (by omega)) (term_le_bs k j h hj)))

/-! ### paths -/
/-- (paths, their edges, the steps so far) at depth d: P_d, L_d, the sums of P_e and of L_e + P_e over e < d, and A: the sum of L_e + 2 P_e over 1 ≤ e < d. -/
structure Dep where
  sp : Nat
  sl : Nat
  ac : Nat
/-- sums over the depths below d + 1: depth 0 is the root. -/
def dep : Nat → Dep
  | 0 => ⟨1, 1, 0⟩
  | d + 1 =>
    let s := dep d
    ⟨s.sp + s.sp, s.sl + (s.sl + s.sp), s.ac + (s.sl + s.sp + s.sp)⟩
/-- The steps of the cycles of k transactions in a chain that the search finds. -/
def cyc (k : Nat) : Nat := (dep (k - 1)).ac

def fac : Nat → Nat
  | 0 => 1
  | n + 1 => fac n * (n + 1)
theorem fac_pos : ∀ n, 0 < fac n
  | 0 => by simp [fac]
  | n + 1 => Nat.mul_pos (fac_pos n) (by omega)
theorem dep_sp : ∀ d, (dep d).sp = 2 ^ d
  | 0 => rfl
  | d + 1 => by simp only [dep, dep_sp d, Nat.pow_succ]; omega
theorem dep_sl2 : ∀ d, 2 * (dep d).sl = (d + 2) * 2 ^ d
  | 0 => rfl
  | d + 1 => by
    have h := dep_sl2 d
    simp only [dep]
    rw [dep_sp, Nat.pow_succ]
    generalize 2 ^ d = p at *
    have e : (d + 1 + 2) * (p * 2) = 2 * ((d + 2) * p) + 2 * p := by
      rw [show d + 1 + 2 = (d + 2) + 1 from by omega, Nat.add_mul, Nat.one_mul, ← Nat.mul_assoc, Nat.mul_comm ((d + 2) * p) 2, Nat.mul_comm p 2]
    rw [e]
    omega
theorem pow_fac : ∀ n, 1 ≤ n → 2 ^ n ≤ 2 * fac n
  | 0, h => by omega
  | 1, _ => by simp [fac]
  | n + 2, _ => by
    have h := pow_fac (n + 1) (by omega)
    rw [Nat.pow_succ]
    simp only [fac] at h ⊢
    have h2 : 2 * (fac n * (n + 1)) * 2 ≤ 2 * (fac n * (n + 1) * (n + 1 + 1)) := by
      rw [Nat.mul_assoc]
      exact Nat.mul_le_mul_left 2 (Nat.mul_le_mul_left _ (by omega))
    have h3 : 2 ^ (n + 1) * 2 ≤ 2 * (fac n * (n + 1)) * 2 := Nat.mul_le_mul_right 2 h
    exact Nat.le_trans h3 h2
theorem ff_fac (k : Nat) : ∀ j, j ≤ k → ff k j * fac (k - j) = fac k
  | 0, _ => by simp [ff]
  | j + 1, h => by
    have ih := ff_fac k j (by omega)
    rw [show k - j = (k - (j + 1)) + 1 from by omega] at ih
    simp only [fac] at ih
    simp only [ff]
    rw [show k - (j + 1) + 1 = k - j from by omega] at ih
    rw [← ih, Nat.mul_assoc, Nat.mul_comm (k - j)]
theorem ff_self (k : Nat) : ff k k = fac k := by
  have := ff_fac k k (Nat.le_refl _)
  simpa [fac] using this
theorem ff_up (k : Nat) : ∀ j, ff k j ≤ ff (k + 1) j
  | 0 => Nat.le_refl _
  | j + 1 => by
    simp only [ff]
    exact Nat.mul_le_mul (ff_up k j) (by omega)
theorem term_up (k j : Nat) : term k j ≤ term (k + 1) j := Nat.mul_le_mul_right _ (Nat.div_le_div_right (ff_up k j))
theorem bs_up (k : Nat) : ∀ j, bs k j ≤ bs (k + 1) j
  | 0 => Nat.le_refl _
  | 1 => Nat.le_refl _
  | j + 2 => by
    simp only [bs]
    exact Nat.add_le_add (bs_up k (j + 1)) (term_up k (j + 2))
theorem bs_next (k : Nat) (hk : 1 ≤ k) : bs k k + fac k * (k + 2) ≤ bs (k + 1) (k + 1) := by
  rw [bs_step (k + 1) (k + 1) (by omega)]
  refine Nat.add_le_add (by simpa using bs_up k k) ?_
  unfold term
  rw [ff_self]
  simp only [fac]
  rw [Nat.mul_div_cancel _ (by omega)]
  exact Nat.le_refl _
/-- The cycles that the search finds take no more steps than the clique's. -/
theorem cyc_le : ∀ k, 1 ≤ k → cyc k ≤ bs k k
  | 0, h => by omega
  | 1, _ => by decide
  | d + 2, _ => by
    have ih := cyc_le (d + 1) (by omega)
    refine Nat.le_trans ?_ (bs_next (d + 1) (by omega))
    simp only [cyc, Nat.add_sub_cancel, show d + 2 - 1 = d + 1 from by omega] at ih ⊢
    simp only [dep]
    have h1 := dep_sp d
    have h2 := dep_sl2 d
    have h3 := pow_fac (d + 1) (by omega)
    rw [h1]
    rw [Nat.pow_succ] at h3
    generalize 2 ^ d = p at *
    generalize fac (d + 1) = F at *
    have h4 : p ≤ F := by omega
    have h5 : (d + 6) * p ≤ (d + 6) * F := Nat.mul_le_mul_left _ h4
    have h6 : (d + 6) * F ≤ 2 * (F * (d + 1 + 2)) := by
      rw [Nat.mul_comm F, ← Nat.mul_assoc]
      exact Nat.mul_le_mul_right _ (by omega)
    have h7 : (d + 6) * p = (d + 2) * p + 4 * p := by rw [show d + 6 = (d + 2) + 4 from by omega, Nat.add_mul]
    omega
theorem ac_mono (d : Nat) : (dep d).ac ≤ (dep (d + 1)).ac := by simp only [dep]; omega
theorem cyc_ge : ∀ k, 2 ≤ k → 3 ≤ cyc k
  | 0, h => by omega
  | 1, h => by omega
  | 2, _ => by decide
  | d + 3, _ => by
    have ih := cyc_ge (d + 2) (by omega)
    simp only [cyc, show d + 3 - 1 = d + 1 + 1 from by omega, show d + 2 - 1 = d + 1 from by omega] at ih ⊢
    exact Nat.le_trans ih (ac_mono (d + 1))
end Go.Proofs.Qxb6000043a.Pl

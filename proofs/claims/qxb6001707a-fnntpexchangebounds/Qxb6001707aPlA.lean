/-
  THE PLAIN LAW of NTPExchange. Own work.
-/
import Derived.Test.Qxb6001707aWaB
namespace Go.Proofs.Qxb6001707a
open Go.Fw
set_option maxRecDepth 10000

/-! ### the plain law -/
def Acc (x1 x2 x3 x4 : Int) : Prop := max (max x1 x2) (max x3 x4) - min (min x1 x2) (min x3 x4) < 9223372036854775807 ∧ x2 ≤ x3 ∧ x3 - x2 ≤ x4 - x1
def Xf (x2 x3 x4 : Int) : Nat → Int
  | 0 => x2
  | 1 => x3
  | _ => x4
def Df (x1 x2 x3 x4 : Int) (i : Nat) : Int := sat (Xf x2 x3 x4 i - x1)
def Ef (x1 x2 x3 x4 : Int) : Nat → Int
  | 0 => 0
  | i + 1 => min (Ef x1 x2 x3 x4 i) (Df x1 x2 x3 x4 i)
def Lf (x1 x2 x3 x4 : Int) : Nat → Int
  | 0 => 0
  | i + 1 => max (Lf x1 x2 x3 x4 i) (Df x1 x2 x3 x4 i)
theorem Df_r (x1 x2 x3 x4 : Int) (i : Nat) : -9223372036854775808 ≤ Df x1 x2 x3 x4 i ∧ Df x1 x2 x3 x4 i ≤ 9223372036854775807 := by
  unfold Df sat
  omega
theorem Ef_r (x1 x2 x3 x4 : Int) : ∀ i, -9223372036854775808 ≤ Ef x1 x2 x3 x4 i ∧ Ef x1 x2 x3 x4 i ≤ 0
  | 0 => by simp [Ef]
  | i + 1 => by
    have h1 := Ef_r x1 x2 x3 x4 i
    have h2 := Df_r x1 x2 x3 x4 i
    simp only [Ef]
    omega
/-- Refused by Take: out of reach. -/
theorem plain_take {x1 x2 x3 x4 : Int} {i : Nat} (hi : i < 3) (h : 9223372036854775807 + Ef x1 x2 x3 x4 (i + 1) ≤ Lf x1 x2 x3 x4 (i + 1)) : ¬ Acc x1 x2 x3 x4 := by
  unfold Acc
  match i, hi with
  | 0, _ =>
    simp only [Ef, Lf, Df, Xf, sat] at h
    omega
  | 1, _ =>
    simp only [Ef, Lf, Df, Xf, sat] at h
    omega
  | 2, _ =>
    simp only [Ef, Lf, Df, Xf, sat] at h
    omega
/-- Taken: every difference is what it is. -/
theorem plain_in {x1 x2 x3 x4 : Int} (h : Lf x1 x2 x3 x4 3 < 9223372036854775807 + Ef x1 x2 x3 x4 3) :
    Df x1 x2 x3 x4 0 = x2 - x1 ∧ Df x1 x2 x3 x4 1 = x3 - x1 ∧ Df x1 x2 x3 x4 2 = x4 - x1 ∧ max (max x1 x2) (max x3 x4) - min (min x1 x2) (min x3 x4) < 9223372036854775807 := by
  simp only [Ef, Lf, Df, Xf, sat] at h ⊢
  omega
end Go.Proofs.Qxb6001707a

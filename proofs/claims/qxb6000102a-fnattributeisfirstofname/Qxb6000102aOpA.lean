/-
  OPENING THE ARGUMENTS: a slice of AttrRow, an AttrRow by value. Own work.
-/
import Derived.Test.Qxb6000102aRows
import Derived.WalkKit
import Derived.ProofKit
import Derived.OpenShut
import Derived.ShutString
import Derived.Carry
import Derived.Deep.Slices
import Derived.Test.Qxb6000102aWaF
namespace Go.Proofs.Qxb6000102a
open Go.ChangeShapes Go.WideShapes Go.ChangeAt Go.RowKit
open Go.Fw

theorem und22 : Try.prog.underlying 22 = some (.slice 33) := by kernel_rfl
theorem und9 : Try.prog.underlying 9 = some .string := by kernel_rfl
theorem und3 : Try.prog.underlying 3 = some (.int .i64) := by kernel_rfl
theorem und4 : Try.prog.underlying 4 = some .bool := by kernel_rfl
theorem cel33 : Try.prog.cellsOf 33 = 8 := by kernel_rfl
theorem cel9 : Try.prog.cellsOf 9 = 1 := by kernel_rfl
theorem cel3 : Try.prog.cellsOf 3 = 1 := by kernel_rfl
theorem cel4 : Try.prog.cellsOf 4 = 1 := by kernel_rfl
/-- The fields of AttrRow: type and offset. -/
def fl33 : List (TypeId × Nat) := [(9, 0), (3, 1), (4, 2), (9, 3), (4, 4), (4, 5), (9, 6), (9, 7)]
theorem und33 : ∃ fs, Try.prog.underlying 33 = some (.struct fs) ∧ fs.toList.map (fun f => (f.type, f.offset)) = fl33 := ⟨_, Eq.refl _, by kernel_rfl⟩

/-- The cells of a struct that reads as a row. -/
theorem row_of {H : Type} {enc : TypeId × Value → H} {W : World} {base : Nat} {sp : Nat → Bool} {hd : Bool} {fuel : Nat} {cs : List Value} {x : DataW H × List MemPlace}
    (h : DataW.trod enc Try.prog W base sp hd fuel 33 cs = some x) : ∃ r, cs = rowL r := by
  obtain ⟨fs, hu, hf⟩ := und33
  obtain ⟨xs, n, _, _, hl, hxl, hg⟩ := DataW.trod_struct hu h
  rw [cel33] at hl
  have hfs : fs.size = 8 := by
    have := congrArg List.length hf
    simpa [fl33] using this
  have hat : ∀ (i : Nat) (t : TypeId) (o : Nat), fl33[i]? = some (t, o) → ∃ y, DataW.trod enc Try.prog W base sp hd n t ((cs.drop o).take (Try.prog.cellsOf t)) = some y := by
    intro i t o hi
    rw [← hf, List.getElem?_map] at hi
    obtain ⟨f, h1, h2⟩ := Option.map_eq_some_iff.1 hi
    simp only [Prod.mk.injEq] at h2
    obtain ⟨rfl, rfl⟩ := h2
    have h3 := hg i f (by simpa using h1)
    have hi8 : i < xs.length := by
      have := (List.getElem?_eq_some_iff.1 h1).1
      rw [hxl]
      simpa using this
    rw [List.getElem?_eq_getElem hi8] at h3
    exact ⟨_, h3⟩
  match cs, hl with
  | [c0, c1, c2, c3, c4, c5, c6, c7], _ =>
    obtain ⟨y0, g0⟩ := hat 0 9 0 rfl
    obtain ⟨y1, g1⟩ := hat 1 3 1 rfl
    obtain ⟨y2, g2⟩ := hat 2 4 2 rfl
    obtain ⟨y3, g3⟩ := hat 3 9 3 rfl
    obtain ⟨y4, g4⟩ := hat 4 4 4 rfl
    obtain ⟨y5, g5⟩ := hat 5 4 5 rfl
    obtain ⟨y6, g6⟩ := hat 6 9 6 rfl
    obtain ⟨y7, g7⟩ := hat 7 9 7 rfl
    rw [cel9] at g0 g3 g6 g7
    rw [cel3] at g1
    rw [cel4] at g2 g4 g5
    obtain ⟨a0, e0, _⟩ := DataW.trod_string und9 g0
    obtain ⟨a1, e1, _⟩ := DataW.trod_int und3 g1
    obtain ⟨a2, e2, _⟩ := DataW.trod_bool und4 g2
    obtain ⟨a3, e3, _⟩ := DataW.trod_string und9 g3
    obtain ⟨a4, e4, _⟩ := DataW.trod_bool und4 g4
    obtain ⟨a5, e5, _⟩ := DataW.trod_bool und4 g5
    obtain ⟨a6, e6, _⟩ := DataW.trod_string und9 g6
    obtain ⟨a7, e7, _⟩ := DataW.trod_string und9 g7
    simp at e0 e1 e2 e3 e4 e5 e6 e7
    subst e0 e1 e2 e3 e4 e5 e6 e7
    exact ⟨⟨a0, a1, a2, a3, a4, a5, a6, a7⟩, rfl⟩

/-- The argument as the walk takes it. -/
theorem rows_of {H : Type} {enc : TypeId × Value → H} {W : World} {v : Value} {d : DataW H} {p : List MemPlace} (hv : ∃ a len cap, v = .slice a len cap) (h : DataW.Trod enc Try.prog W 0 (fun _ => true) true 22 v d p) :
    ∃ n R, rowsA W v n R := by
  obtain ⟨a0, len0, cap0, rfl⟩ := hv
  obtain ⟨fuel, hf⟩ := h
  rcases Go.Deep.open_slice und22 hf with ⟨hcs, _⟩ | ⟨a, len, cap, m, n, D, Pl, hcs, _, hl, _, hm, _, hx⟩
  · simp [Value.cells] at hcs
    obtain ⟨rfl, rfl, rfl⟩ := hcs
    exact ⟨0, fun _ => z0, none, 0, rfl, (fun _ => rfl), fun i hi => by omega⟩
  · simp [Value.cells] at hcs
    obtain ⟨rfl, rfl, rfl⟩ := hcs
    have hm' : m = cap0 := by simpa using hm
    subst hm'
    rw [cel33] at hx
    have each : ∀ i, i < m → ∃ r : Rw, ∀ (j : Nat) u, (rowL r)[j]? = some u → W.cell? ((a.add (i * 8)).add j) = some u := by
      intro i hi
      obtain ⟨cs', h1, h2⟩ := hx i hi
      obtain ⟨r, rfl⟩ := row_of h2
      obtain ⟨_, _, hc⟩ := World.cells?_some h1
      refine ⟨r, fun j u hu => ?_⟩
      have hj : j < 8 := (List.getElem?_eq_some_iff.1 hu).1
      rw [hc j hj, hu]
    obtain ⟨R, hR⟩ := @Go.Deep.choose_lt Rw ⟨z0⟩ _ _ each
    refine ⟨len0, R, some a, m, rfl, (fun h => by cases h), fun i hi => ?_⟩
    obtain ⟨b, off, spot⟩ := a
    have h0 := hR 0 (by omega) 0 _ rfl
    have hspot : spot = none := by simpa [Addr.add] using World.cell?_spot h0
    subst hspot
    refine ⟨b, off, rfl, fun j u hu => ?_⟩
    have := hR i (by omega) j u hu
    rwa [Addr.add_mid, Addr.add_mid] at this
/-- A row by value. -/
theorem row_val {H : Type} {enc : TypeId × Value → H} {W : World} {r : Reach} {b0 : Nat} {v : Value} {d : DataW H} {p : List MemPlace} (hv : Value.okWide Try.prog W r b0 33 v) (h : DataW.Trod enc Try.prog W 0 (fun _ => true) true 33 v d p) :
    ∃ X, v = .agg (rowL X).toArray := by
  obtain ⟨fs, hu, _⟩ := und33
  obtain ⟨cs, rfl, _⟩ := okWide_struct hu hv
  obtain ⟨fuel, hf⟩ := h
  obtain ⟨X, hX⟩ := row_of hf
  refine ⟨X, ?_⟩
  have h1 : cs.toList = rowL X := by simpa [Value.cells] using hX
  rw [← h1]
end Go.Proofs.Qxb6000102a

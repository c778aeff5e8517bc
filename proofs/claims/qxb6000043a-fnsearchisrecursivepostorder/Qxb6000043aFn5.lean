/-
  THE ROW of FnSearchIsRecursivePostorder. The frame: the guide's shell for this seat; the walk: own work.
-/
import Derived.Test.Qxb6000043aRows
import Derived.WalkKit
import Derived.ProofKit
import Derived.OpenShut
import Derived.ShutString
import Derived.Carry
import Derived.Deep.Matrix
import Derived.Test.Qxb6000043aWaS
namespace Go.Proofs.Qxb6000043a.fnSearchIsRecursivePostorder
open Go.ChangeShapes Go.WideShapes Go.ChangeAt Go.RowKit
open Go.Fw

theorem own : ownKnob Try.prog.godebug = none := by kernel_rfl
theorem laidOut : laidOutB Try.prog = true := by kernel_rfl
theorem und22 : Try.prog.underlying 22 = some (.slice 35) := by kernel_rfl
theorem und35 : Try.prog.underlying 35 = some (.slice 21) := by kernel_rfl
theorem und21 : Try.prog.underlying 21 = some (.int .i32) := by kernel_rfl
theorem und4 : Try.prog.underlying 4 = some .bool := by kernel_rfl
theorem cell35 : Try.prog.cellsOf 35 = 1 := by kernel_rfl
theorem cell21 : Try.prog.cellsOf 21 = 1 := by kernel_rfl

theorem wf32 {z : Int} (h : (Lit.int .i32 z).wf = true) : -2147483648 ≤ z ∧ z ≤ 2147483647 := by
  simp only [Lit.wf, Bool.and_eq_true, decide_eq_true_eq] at h
  exact h
/-- The argument as the walk takes it. -/
theorem rows_of {H : Type} {enc : TypeId × Value → H} {W : World} {v : Value} {d : DataW H} {p : List MemPlace} (hv : ∃ a len cap, v = .slice a len cap) (h : DataW.Trod enc Try.prog W 0 (fun _ => true) true 22 v d p) :
    ∃ n len c, jrows W v n len c ∧ ∀ x i, x < n → i < len x → -2147483648 ≤ c x i ∧ c x i ≤ 2147483647 := by
  obtain ⟨a0, len0, cap0, rfl⟩ := hv
  obtain ⟨fuel, hf⟩ := h
  rcases Go.Deep.open_int_rows und22 und35 und21 cell35 cell21 hf with ⟨hcs, _⟩ | ⟨a, len, cap, A, L, C, Z, hcs, _, hl, _, _, hx⟩
  · simp [Value.cells] at hcs
    obtain ⟨rfl, rfl, rfl⟩ := hcs
    exact ⟨0, fun _ => 0, fun _ _ => 0, ⟨none, 0, rfl, fun _ => ⟨rfl, rfl⟩, fun i hi => by omega⟩, fun x i hx => by omega⟩
  · simp [Value.cells] at hcs
    obtain ⟨rfl, rfl, rfl⟩ := hcs
    refine ⟨len0, L, fun r i => (Z r).getD i 0, ⟨some a, cap0, rfl, (fun h => by cases h), fun i hi => ?_⟩, fun x i hxn hi => ?_⟩
    · obtain ⟨h1, h2, _, h4, _, h6, h7⟩ := hx i (by omega)
      have h0 := (hx 0 (by omega)).1
      obtain ⟨b, off, spot⟩ := a
      have hspot : spot = none := by simpa [Addr.add] using World.cell?_spot h0
      subst hspot
      refine ⟨b, off, .slice (A i) (L i) (C i), rfl, by rw [← Addr.add_lit]; exact h1, A i, C i, rfl, fun h => ?_, fun t ht => ?_⟩
      · have := h6 h
        omega
      · cases hA : A i with
        | none => have := h6 hA; omega
        | some a' =>
          obtain ⟨_, h8⟩ := h7 a' hA
          have h9 := h8 t (by omega)
          have h90 := h8 0 (by omega)
          obtain ⟨b', off', spot'⟩ := a'
          have hspot : spot' = none := by simpa [Addr.add] using World.cell?_spot h90
          subst hspot
          exact ⟨b', off', rfl, by rw [← Addr.add_lit]; exact h9⟩
    · obtain ⟨_, h2, _, h4, h5, _⟩ := hx x (by omega)
      have hm : (Z x).getD i 0 ∈ Z x := by
        have hil : i < (Z x).length := by omega
        have : (Z x).getD i 0 = (Z x)[i] := by simp [List.getD, hil]
        rw [this]
        exact List.getElem_mem hil
      exact wf32 (h5 _ hm)

set_option maxRecDepth 100000 in
theorem lifted (os : Os) (started : os.Started) (H : Type) (enc : TypeId × Value → H) :
    ReturnsInHanded {} Try.checked os 5 .any (Rows.fnSearchIsRecursivePostorderSpec.pre6 enc Try.prog Try.f5 Rows.fnSearchIsRecursivePostorderRow.domain false) (Rows.fnSearchIsRecursivePostorderSpec.post enc Try.prog Try.f5 false true false false) := by
  refine returnsInHanded_of_change (C := Try.checked) own started (by kernel_rfl) Try.func5
    (ChangeSpec.witness6 (enc := enc) (C := Try.checked) false ⟨#[], #[.slice none 0 0, .int .i32 0, .bool false], []⟩ 8 (by kernel_rfl) (by kernel_rfl) (by kernel_rfl) (by kernel_rfl)) ?_
  intro W base args ds gs before hval0 hW hcnd _
  have hval : ∀ (j : Nat) t v, Try.f5.params[j]? = some t → args[j]? = some v → Value.okWide Try.prog W .any base t v := hval0
  have hW' := hW
  obtain ⟨p, q, hA0, hV, rfl, hfz, hnd⟩ := hW
  have hA : DataW.TrodAll enc Try.prog W 0 (fun _ => true) true Try.f5.params.toList args.toList ds p := hA0
  rw [Try.params5] at hA hval
  obtain ⟨v0, vs0, d0, ds0, p0, q0, hargs, rfl, rfl, h0, r0⟩ := trodAll_cons hA
  obtain ⟨v1, vs1, d1, ds1, p1, q1, rfl, rfl, rfl, h1, r1⟩ := trodAll_cons r0
  obtain ⟨v2, vs2, d2, ds2, p2, q2, rfl, rfl, rfl, h2, r2⟩ := trodAll_cons r1
  obtain ⟨rfl, rfl, rfl⟩ := trodAll_nil r2
  obtain rfl : args = #[v0, v1, v2] := by cases args; simp_all
  obtain ⟨rfl, rfl⟩ := trodVars_none hV
  obtain ⟨a1, rfl, rfl, rfl, w1⟩ := open_int und21 (hval 1 21 v1 rfl rfl) h1
  obtain ⟨a2, rfl, rfl, rfl⟩ := open_bool und4 (hval 2 4 v2 rfl rfl) h2
  obtain ⟨n, len, c, hj, hc⟩ := rows_of (okWide_slice und22 (hval 0 22 v0 rfl rfl)) h0
  clear hA0 hval0
  simp only [List.append_nil] at hW'
  have hlt : ∀ x ∈ p0, x.block < W.heap.size := fun x hx => by simpa using hW'.lt x hx
  refine (f5_any W v0 n len c hj hc a1 (wf32 w1) a2).mono fun e W' ⟨v, he, hv, hk⟩ => ?_
  subst he
  subst hv
  have hg : Below W.heap.size W W' := hk.below (fun k hk => ⟨hk, fun h => h⟩)
  exact ⟨_, rfl, ⟨_, _, _, [], _, [], hW', (trodAll_cons_mk (shut_bool und4 _) trodAll_mk0), (trodAll_cons_mk (Below.trod laidOut (by kernel_rfl) (of_decide_eq_true (by kernel_rfl)) h0 hg hlt) (trodAll_cons_mk (shut_int und21 w1) (trodAll_cons_mk (shut_bool und4 _) trodAll_mk0))), rfl, hg.frame _, fun h => by cases h⟩⟩

theorem over : Rows.fnSearchIsRecursivePostorderRow.holds Try.pinned (OpenSpec.ofChange Rows.fnSearchIsRecursivePostorderSpec) :=
  OpenClaim.holds_of_wide 5 Try.f5 rfl rfl rfl rfl rfl rfl rfl ⟨rfl, rfl, rfl, rfl, rfl⟩ rfl rfl rfl rfl rfl (by kernel_rfl) Try.func5 (by kernel_rfl)
    (of_decide_eq_true (by kernel_rfl)) (by unfold Func.isWrapper; first | (rw [if_pos (by decide +kernel)]; kernel_rfl) | (rw [if_neg (by decide +kernel)]; exact ⟨rfl, rfl⟩))
    (fun os started H enc _ => lifted os started H enc)

/-- THE STATEMENT. -/
theorem proved : Rows.FnSearchIsRecursivePostorderSaid :=
  over
end Go.Proofs.Qxb6000043a.fnSearchIsRecursivePostorder

/-
  THE ROW of FnAttributeShadowing. The frame: the guide's shell for this seat's other functions; the walk: own work.
-/
import Derived.Test.Qxb6000102aOpA
import Derived.Test.Qxb6000102aWaJ
namespace Go.Proofs.Qxb6000102a.fnAttributeShadowing
open Go.ChangeShapes Go.WideShapes Go.ChangeAt Go.RowKit
open Go.ChangeMaps (open_string shut_string)
open Go.Fw

theorem own : ownKnob Try.prog.godebug = none := by kernel_rfl
theorem laidOut : laidOutB Try.prog = true := by kernel_rfl

set_option maxRecDepth 100000 in
theorem lifted (os : Os) (started : os.Started) (H : Type) (enc : TypeId × Value → H) :
    ReturnsInHanded {} Try.checked os 4 .any (Rows.fnAttributeShadowingSpec.pre6 enc Try.prog Try.f4 Rows.fnAttributeShadowingRow.domain false) (Rows.fnAttributeShadowingSpec.post enc Try.prog Try.f4 false true false false) := by
  refine returnsInHanded_of_change (C := Try.checked) own started (by kernel_rfl) Try.func4
    (ChangeSpec.witness6 (enc := enc) (C := Try.checked) false ⟨#[], #[.slice none 0 0, .agg (rowL z0).toArray, .string ByteArray.empty], []⟩ 8 (by kernel_rfl) (by kernel_rfl) (by kernel_rfl) (by kernel_rfl)) ?_
  intro W base args ds gs before hval0 hW hcnd _
  have hval : ∀ (j : Nat) t v, Try.f4.params[j]? = some t → args[j]? = some v → Value.okWide Try.prog W .any base t v := hval0
  have hW' := hW
  obtain ⟨p, q, hA0, hV, rfl, hfz, hnd⟩ := hW
  have hA : DataW.TrodAll enc Try.prog W 0 (fun _ => true) true Try.f4.params.toList args.toList ds p := hA0
  rw [Try.params4] at hA hval
  obtain ⟨v0, vs0, d0, ds0, p0, q0, hargs, rfl, rfl, h0, r0⟩ := trodAll_cons hA
  obtain ⟨v1, vs1, d1, ds1, p1, q1, rfl, rfl, rfl, h1, r1⟩ := trodAll_cons r0
  obtain ⟨v2, vs2, d2, ds2, p2, q2, rfl, rfl, rfl, h2, r2⟩ := trodAll_cons r1
  obtain ⟨rfl, rfl, rfl⟩ := trodAll_nil r2
  obtain rfl : args = #[v0, v1, v2] := by cases args; simp_all
  obtain ⟨rfl, rfl⟩ := trodVars_none hV
  obtain ⟨a2, rfl, rfl, rfl, w2⟩ := open_string und9 (hval 2 9 v2 rfl rfl) h2
  obtain ⟨n, R, hr⟩ := rows_of (okWide_slice und22 (hval 0 22 v0 rfl rfl)) h0
  obtain ⟨X, rfl⟩ := row_val (hval 1 33 v1 rfl rfl) h1
  clear hA0 hval0
  simp only [List.append_nil] at hW'
  have hlt : ∀ x ∈ p0, x.block < W.heap.size := fun x hx => hW'.lt x (by simp [hx])
  have hlt1 : ∀ x ∈ p1, x.block < W.heap.size := fun x hx => hW'.lt x (by simp [hx])
  refine (f4_any W v0 n R hr X a2).mono fun e W' ⟨v, he, hv, hk⟩ => ?_
  subst he
  subst hv
  have hg : Below W.heap.size W W' := hk.below (fun k hk => ⟨hk, fun h => h⟩)
  exact ⟨_, rfl, ⟨_, _, _, [], _, [], hW', (trodAll_cons_mk (shut_bool und4 _) trodAll_mk0), (trodAll_cons_mk (Below.trod laidOut (by kernel_rfl) (of_decide_eq_true (by kernel_rfl)) h0 hg hlt) (trodAll_cons_mk (Below.trod laidOut (by kernel_rfl) (of_decide_eq_true (by kernel_rfl)) h1 hg hlt1) (trodAll_cons_mk (shut_string und9 w2) trodAll_mk0))), rfl, hg.frame _, fun h => by cases h⟩⟩

theorem over : Rows.fnAttributeShadowingRow.holds Try.pinned (OpenSpec.ofChange Rows.fnAttributeShadowingSpec) :=
  OpenClaim.holds_of_wide 4 Try.f4 rfl rfl rfl rfl rfl rfl rfl ⟨rfl, rfl, rfl, rfl, rfl⟩ rfl rfl rfl rfl rfl (by kernel_rfl) Try.func4 (by kernel_rfl)
    (of_decide_eq_true (by kernel_rfl)) (by unfold Func.isWrapper; first | (rw [if_pos (by decide +kernel)]; kernel_rfl) | (rw [if_neg (by decide +kernel)]; exact ⟨rfl, rfl⟩))
    (fun os started H enc _ => lifted os started H enc)

/-- THE STATEMENT. -/
theorem proved : Rows.FnAttributeShadowingSaid :=
  over
end Go.Proofs.Qxb6000102a.fnAttributeShadowing

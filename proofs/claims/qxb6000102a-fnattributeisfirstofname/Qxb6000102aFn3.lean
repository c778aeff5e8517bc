/-
  THE ROW of FnAttributeIsFirstOfName. The frame: the guide's shell for this seat's other functions; the walk: own work.
-/
import Derived.Test.Qxb6000102aOpA
import Derived.Test.Qxb6000102aWaI
namespace Go.Proofs.Qxb6000102a.fnAttributeIsFirstOfName
open Go.ChangeShapes Go.WideShapes Go.ChangeAt Go.RowKit
open Go.ChangeMaps (open_string shut_string)
open Go.Fw

theorem own : ownKnob Try.prog.godebug = none := by kernel_rfl
theorem laidOut : laidOutB Try.prog = true := by kernel_rfl

set_option maxRecDepth 100000 in
theorem lifted (os : Os) (started : os.Started) (H : Type) (enc : TypeId × Value → H) :
    ReturnsInHanded {} Try.checked os 3 .any (Rows.fnAttributeIsFirstOfNameSpec.pre6 enc Try.prog Try.f3 Rows.fnAttributeIsFirstOfNameRow.domain false) (Rows.fnAttributeIsFirstOfNameSpec.post enc Try.prog Try.f3 false true false false) := by
  refine returnsInHanded_of_change (C := Try.checked) own started (by kernel_rfl) Try.func3
    (ChangeSpec.witness6 (enc := enc) (C := Try.checked) false ⟨#[], #[.slice none 0 0, .string ByteArray.empty], []⟩ 8 (by kernel_rfl) (by kernel_rfl) (by kernel_rfl) (by kernel_rfl)) ?_
  intro W base args ds gs before hval0 hW hcnd _
  have hval : ∀ (j : Nat) t v, Try.f3.params[j]? = some t → args[j]? = some v → Value.okWide Try.prog W .any base t v := hval0
  have hW' := hW
  obtain ⟨p, q, hA0, hV, rfl, hfz, hnd⟩ := hW
  have hA : DataW.TrodAll enc Try.prog W 0 (fun _ => true) true Try.f3.params.toList args.toList ds p := hA0
  rw [Try.params3] at hA hval
  obtain ⟨v0, vs0, d0, ds0, p0, q0, hargs, rfl, rfl, h0, r0⟩ := trodAll_cons hA
  obtain ⟨v1, vs1, d1, ds1, p1, q1, rfl, rfl, rfl, h1, r1⟩ := trodAll_cons r0
  obtain ⟨rfl, rfl, rfl⟩ := trodAll_nil r1
  obtain rfl : args = #[v0, v1] := by cases args; simp_all
  obtain ⟨rfl, rfl⟩ := trodVars_none hV
  obtain ⟨a1, rfl, rfl, rfl, w1⟩ := open_string und9 (hval 1 9 v1 rfl rfl) h1
  obtain ⟨n, R, hr⟩ := rows_of (okWide_slice und22 (hval 0 22 v0 rfl rfl)) h0
  clear hA0 hval0
  simp only [List.append_nil] at hW'
  have hlt : ∀ x ∈ p0, x.block < W.heap.size := fun x hx => hW'.lt x (by simp [hx])
  refine (f3_any W v0 n R hr a1).mono fun e W' ⟨v, he, hv, hk⟩ => ?_
  subst he
  subst hv
  have hg : Below W.heap.size W W' := hk.below (fun k hk => ⟨hk, fun h => h⟩)
  exact ⟨_, rfl, ⟨_, _, _, [], _, [], hW', (trodAll_cons_mk (shut_bool und4 _) trodAll_mk0), (trodAll_cons_mk (Below.trod laidOut (by kernel_rfl) (of_decide_eq_true (by kernel_rfl)) h0 hg hlt) (trodAll_cons_mk (shut_string und9 w1) trodAll_mk0)), rfl, hg.frame _, fun h => by cases h⟩⟩

theorem over : Rows.fnAttributeIsFirstOfNameRow.holds Try.pinned (OpenSpec.ofChange Rows.fnAttributeIsFirstOfNameSpec) :=
  OpenClaim.holds_of_wide 3 Try.f3 rfl rfl rfl rfl rfl rfl rfl ⟨rfl, rfl, rfl, rfl, rfl⟩ rfl rfl rfl rfl rfl (by kernel_rfl) Try.func3 (by kernel_rfl)
    (of_decide_eq_true (by kernel_rfl)) (by unfold Func.isWrapper; first | (rw [if_pos (by decide +kernel)]; kernel_rfl) | (rw [if_neg (by decide +kernel)]; exact ⟨rfl, rfl⟩))
    (fun os started H enc _ => lifted os started H enc)

/-- THE STATEMENT. -/
theorem proved : Rows.FnAttributeIsFirstOfNameSaid :=
  over
end Go.Proofs.Qxb6000102a.fnAttributeIsFirstOfName

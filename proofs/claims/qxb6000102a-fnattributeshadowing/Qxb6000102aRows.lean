/-
  No cell of these rows narrows 'for every input' (looked for: loops, veiled, ifaces, maps, wideKeys, modest, calm, conditions, laid).
  DERIVED. THE GIVEN ROWS OF THIS SEAT. 6 by the template 'for every input the law returns true; each argument reads behind the call as it read before'; 0 by the template 'total and deterministic' (their statements: Qxb6000102aTotals.lean).
  GIVEN WITH THE SEED: the statements are not yours to turn. If you find one false, say at which input.
  Laid BY PROGRAM, IN A SANDBOX (cutbox-rows.mjs): the forced cells as the released guide's own fill.sh prints them over the translation 10db8890069534e9… (all of the seat's roots in one cut). By AI agents, Wed Nov 11 2026. No macro, syntax, notation, axiom, sorry.
-/
import Derived.Test.Qxb6000102aChecked
import GoSem.Claim
import GoSem.ClaimJoined
import GoSem.ClaimMapViews
import Derived.JoinedTies
import Derived.KernelRfl
namespace Go.Proofs.Qxb6000102a
/- THE CELL 'sum', in the pinned program and in every row, IS THE sha256 OF THE DUMP (.gsa) THAT Qxb6000102aProg.lean LOADS. Nothing in Lean hashes anything: it is a label: what it is worth is what the hold of that sum in a sandbox is worth. -/
noncomputable def Try.pinned : Pinned := { name := "qxb6000102a", sum := "10db8890069534e957fdf8cf67fa15358ad47b3f5e03ddcdec99730bec92c327", checked := Try.checked }
namespace Rows
def none {H : Type} : Left H := { results := [], args := [] }

/-- 'zzlaws_internal_model_b1.FnAttributeIsFirstOfName': WHATEVER THE INPUT: true; the input reads as it did. -/
def fnAttributeIsFirstOfNameSpec : ChangeSpec := { name := "fnAttributeIsFirstOfName", fn := fun _ => fun
  | [d1, d2] => { results := [.lit (.bool true)], args := [d1, d2] }
  | _ => none }
def fnAttributeIsFirstOfNameRow : OpenClaim := { program := "qxb6000102a", sum := "10db8890069534e957fdf8cf67fa15358ad47b3f5e03ddcdec99730bec92c327", func := "example.com/modelwright/modelwright/zzlaws_internal_model_b1.FnAttributeIsFirstOfName", spec := "fnAttributeIsFirstOfName", apart := false }
def FnAttributeIsFirstOfNameSaid : Prop := fnAttributeIsFirstOfNameRow.holds Try.pinned (OpenSpec.ofChange fnAttributeIsFirstOfNameSpec)

/-- ITS FALSE NEIGHBOUR: 'it returns false'. Refute it at one input. -/
def fnAttributeIsFirstOfNameWrong : ChangeSpec := { name := "fnAttributeIsFirstOfName", fn := fun _ => fun
  | [d1, d2] => { results := [.lit (.bool false)], args := [d1, d2] }
  | _ => none }
def FnAttributeIsFirstOfNameWrongFalsely : Prop := fnAttributeIsFirstOfNameRow.holds Try.pinned (OpenSpec.ofChange fnAttributeIsFirstOfNameWrong)

/-- 'zzlaws_internal_model_b1.FnAttributeShadowing': WHATEVER THE INPUT: true; the input reads as it did. -/
def fnAttributeShadowingSpec : ChangeSpec := { name := "fnAttributeShadowing", fn := fun _ => fun
  | [d1, d2, d3] => { results := [.lit (.bool true)], args := [d1, d2, d3] }
  | _ => none }
def fnAttributeShadowingRow : OpenClaim := { program := "qxb6000102a", sum := "10db8890069534e957fdf8cf67fa15358ad47b3f5e03ddcdec99730bec92c327", func := "example.com/modelwright/modelwright/zzlaws_internal_model_b1.FnAttributeShadowing", spec := "fnAttributeShadowing", apart := false }
def FnAttributeShadowingSaid : Prop := fnAttributeShadowingRow.holds Try.pinned (OpenSpec.ofChange fnAttributeShadowingSpec)

/-- ITS FALSE NEIGHBOUR: 'it returns false'. Refute it at one input. -/
def fnAttributeShadowingWrong : ChangeSpec := { name := "fnAttributeShadowing", fn := fun _ => fun
  | [d1, d2, d3] => { results := [.lit (.bool false)], args := [d1, d2, d3] }
  | _ => none }
def FnAttributeShadowingWrongFalsely : Prop := fnAttributeShadowingRow.holds Try.pinned (OpenSpec.ofChange fnAttributeShadowingWrong)

/-- 'zzlaws_internal_model_b1.FnExtremeOfKinds': WHATEVER THE INPUT: true; the input reads as it did. -/
def fnExtremeOfKindsSpec : ChangeSpec := { name := "fnExtremeOfKinds", fn := fun _ => fun
  | [d] => { results := [.lit (.bool true)], args := [d] }
  | _ => none }
def fnExtremeOfKindsRow : OpenClaim := { program := "qxb6000102a", sum := "10db8890069534e957fdf8cf67fa15358ad47b3f5e03ddcdec99730bec92c327", func := "example.com/modelwright/modelwright/zzlaws_internal_model_b1.FnExtremeOfKinds", spec := "fnExtremeOfKinds", apart := false }
def FnExtremeOfKindsSaid : Prop := fnExtremeOfKindsRow.holds Try.pinned (OpenSpec.ofChange fnExtremeOfKindsSpec)

/-- ITS FALSE NEIGHBOUR: 'it returns false'. Refute it at one input. -/
def fnExtremeOfKindsWrong : ChangeSpec := { name := "fnExtremeOfKinds", fn := fun _ => fun
  | [d] => { results := [.lit (.bool false)], args := [d] }
  | _ => none }
def FnExtremeOfKindsWrongFalsely : Prop := fnExtremeOfKindsRow.holds Try.pinned (OpenSpec.ofChange fnExtremeOfKindsWrong)

/-- 'zzlaws_internal_model_b1.FnReversedAsTargetSeesIt': WHATEVER THE INPUT: true; the input reads as it did. -/
def fnReversedAsTargetSeesItSpec : ChangeSpec := { name := "fnReversedAsTargetSeesIt", fn := fun _ => fun
  | [d1, d2, d3, d4, d5, d6, d7, d8, d9, d10, d11] => { results := [.lit (.bool true)], args := [d1, d2, d3, d4, d5, d6, d7, d8, d9, d10, d11] }
  | _ => none }
def fnReversedAsTargetSeesItRow : OpenClaim := { program := "qxb6000102a", sum := "10db8890069534e957fdf8cf67fa15358ad47b3f5e03ddcdec99730bec92c327", func := "example.com/modelwright/modelwright/zzlaws_internal_model_b1.FnReversedAsTargetSeesIt", spec := "fnReversedAsTargetSeesIt", apart := false }
def FnReversedAsTargetSeesItSaid : Prop := fnReversedAsTargetSeesItRow.holds Try.pinned (OpenSpec.ofChange fnReversedAsTargetSeesItSpec)

/-- ITS FALSE NEIGHBOUR: 'it returns false'. Refute it at one input. -/
def fnReversedAsTargetSeesItWrong : ChangeSpec := { name := "fnReversedAsTargetSeesIt", fn := fun _ => fun
  | [d1, d2, d3, d4, d5, d6, d7, d8, d9, d10, d11] => { results := [.lit (.bool false)], args := [d1, d2, d3, d4, d5, d6, d7, d8, d9, d10, d11] }
  | _ => none }
def FnReversedAsTargetSeesItWrongFalsely : Prop := fnReversedAsTargetSeesItRow.holds Try.pinned (OpenSpec.ofChange fnReversedAsTargetSeesItWrong)

/-- 'zzlaws_internal_model_b1.FnReversedTwiceRestoresLinks': WHATEVER THE INPUT: true; the input reads as it did. -/
def fnReversedTwiceRestoresLinksSpec : ChangeSpec := { name := "fnReversedTwiceRestoresLinks", fn := fun _ => fun
  | [d1, d2, d3, d4, d5, d6, d7, d8, d9, d10, d11] => { results := [.lit (.bool true)], args := [d1, d2, d3, d4, d5, d6, d7, d8, d9, d10, d11] }
  | _ => none }
def fnReversedTwiceRestoresLinksRow : OpenClaim := { program := "qxb6000102a", sum := "10db8890069534e957fdf8cf67fa15358ad47b3f5e03ddcdec99730bec92c327", func := "example.com/modelwright/modelwright/zzlaws_internal_model_b1.FnReversedTwiceRestoresLinks", spec := "fnReversedTwiceRestoresLinks", apart := false }
def FnReversedTwiceRestoresLinksSaid : Prop := fnReversedTwiceRestoresLinksRow.holds Try.pinned (OpenSpec.ofChange fnReversedTwiceRestoresLinksSpec)

/-- ITS FALSE NEIGHBOUR: 'it returns false'. Refute it at one input. -/
def fnReversedTwiceRestoresLinksWrong : ChangeSpec := { name := "fnReversedTwiceRestoresLinks", fn := fun _ => fun
  | [d1, d2, d3, d4, d5, d6, d7, d8, d9, d10, d11] => { results := [.lit (.bool false)], args := [d1, d2, d3, d4, d5, d6, d7, d8, d9, d10, d11] }
  | _ => none }
def FnReversedTwiceRestoresLinksWrongFalsely : Prop := fnReversedTwiceRestoresLinksRow.holds Try.pinned (OpenSpec.ofChange fnReversedTwiceRestoresLinksWrong)

/-- 'zzlaws_internal_model_b1.FnReversedThriceIsOnce': WHATEVER THE INPUT: true; the input reads as it did. -/
def fnReversedThriceIsOnceSpec : ChangeSpec := { name := "fnReversedThriceIsOnce", fn := fun _ => fun
  | [d1, d2, d3, d4, d5, d6, d7, d8, d9, d10, d11] => { results := [.lit (.bool true)], args := [d1, d2, d3, d4, d5, d6, d7, d8, d9, d10, d11] }
  | _ => none }
def fnReversedThriceIsOnceRow : OpenClaim := { program := "qxb6000102a", sum := "10db8890069534e957fdf8cf67fa15358ad47b3f5e03ddcdec99730bec92c327", func := "example.com/modelwright/modelwright/zzlaws_internal_model_b1.FnReversedThriceIsOnce", spec := "fnReversedThriceIsOnce", apart := false }
def FnReversedThriceIsOnceSaid : Prop := fnReversedThriceIsOnceRow.holds Try.pinned (OpenSpec.ofChange fnReversedThriceIsOnceSpec)

/-- ITS FALSE NEIGHBOUR: 'it returns false'. Refute it at one input. -/
def fnReversedThriceIsOnceWrong : ChangeSpec := { name := "fnReversedThriceIsOnce", fn := fun _ => fun
  | [d1, d2, d3, d4, d5, d6, d7, d8, d9, d10, d11] => { results := [.lit (.bool false)], args := [d1, d2, d3, d4, d5, d6, d7, d8, d9, d10, d11] }
  | _ => none }
def FnReversedThriceIsOnceWrongFalsely : Prop := fnReversedThriceIsOnceRow.holds Try.pinned (OpenSpec.ofChange fnReversedThriceIsOnceWrong)

end Rows
end Go.Proofs.Qxb6000102a

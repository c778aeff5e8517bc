/-
  No cell of these rows narrows 'for every input' (looked for: loops, veiled, ifaces, maps, wideKeys, modest, calm, conditions, laid).
  DERIVED. THE GIVEN ROWS OF THIS SEAT. 1 by the template 'for every input the law returns true; each argument reads behind the call as it read before'; 0 by the template 'total and deterministic' (their statements: Qxb6001707aTotals.lean).
  GIVEN WITH THE SEED: the statements are not yours to turn. If you find one false, say at which input.
  Laid BY PROGRAM, IN A SANDBOX (cutbox-rows.mjs): the forced cells as the released guide's own fill.sh prints them over the translation db6c9d09a2be688e… (all of the seat's roots in one cut). By AI agents, Wed Nov 11 2026. No macro, syntax, notation, axiom, sorry.
-/
import Derived.Test.Qxb6001707aChecked
import GoSem.Claim
import GoSem.ClaimJoined
import GoSem.ClaimMapViews
import Derived.JoinedTies
import Derived.KernelRfl
namespace Go.Proofs.Qxb6001707a
/- THE CELL 'sum', in the pinned program and in every row, IS THE sha256 OF THE DUMP (.gsa) THAT Qxb6001707aProg.lean LOADS. Nothing in Lean hashes anything: it is a label: what it is worth is what the hold of that sum in a sandbox is worth. -/
noncomputable def Try.pinned : Pinned := { name := "qxb6001707a", sum := "db6c9d09a2be688e1c05b56a9158fc9ff12b9a145707f715e0cb20363aab80e6", checked := Try.checked }
namespace Rows
def none {H : Type} : Left H := { results := [], args := [] }

/-- 'zzlaws_clocksync_e1.FnNTPExchangeBounds': WHATEVER THE INPUT: true; the input reads as it did. -/
def fnNTPExchangeBoundsSpec : ChangeSpec := { name := "fnNTPExchangeBounds", fn := fun _ => fun
  | [d1, d2, d3, d4] => { results := [.lit (.bool true)], args := [d1, d2, d3, d4] }
  | _ => none }
def fnNTPExchangeBoundsRow : OpenClaim := { program := "qxb6001707a", sum := "db6c9d09a2be688e1c05b56a9158fc9ff12b9a145707f715e0cb20363aab80e6", func := "example.com/beforehand/beforehand/zzlaws_clocksync_e1.FnNTPExchangeBounds", spec := "fnNTPExchangeBounds", apart := false }
def FnNTPExchangeBoundsSaid : Prop := fnNTPExchangeBoundsRow.holds Try.pinned (OpenSpec.ofChange fnNTPExchangeBoundsSpec)

/-- ITS FALSE NEIGHBOUR: 'it returns false'. Refute it at one input. -/
def fnNTPExchangeBoundsWrong : ChangeSpec := { name := "fnNTPExchangeBounds", fn := fun _ => fun
  | [d1, d2, d3, d4] => { results := [.lit (.bool false)], args := [d1, d2, d3, d4] }
  | _ => none }
def FnNTPExchangeBoundsWrongFalsely : Prop := fnNTPExchangeBoundsRow.holds Try.pinned (OpenSpec.ofChange fnNTPExchangeBoundsWrong)

end Rows
end Go.Proofs.Qxb6001707a

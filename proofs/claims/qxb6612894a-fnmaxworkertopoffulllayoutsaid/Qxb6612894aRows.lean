/-
  No cell of these rows narrows 'for every input' (looked for: loops, veiled, ifaces, maps, wideKeys, modest, calm, conditions, laid).
  DERIVED. THE GIVEN ROWS OF THIS SEAT. 1 by the template 'for every input the law returns true; each argument reads behind the call as it read before'; 0 by the template 'total and deterministic' (their statements: Qxb6612894aTotals.lean).
  GIVEN WITH THE SEED: the statements are not yours to turn. If you find one false, say at which input.
  Laid BY PROGRAM, IN A SANDBOX (cutbox-rows.mjs): the forced cells as the released guide's own fill.sh prints them over the translation 93496fcf6f07bffd… (all of the seat's roots in one cut). By AI agents, Wed Nov 11 2026. No macro, syntax, notation, axiom, sorry.
-/
import Derived.Test.Qxb6612894aChecked
import GoSem.Claim
import GoSem.ClaimJoined
import GoSem.ClaimMapViews
import Derived.JoinedTies
import Derived.KernelRfl
namespace Go.Proofs.Qxb6612894a
/- THE CELL 'sum', in the pinned program and in every row, IS THE sha256 OF THE DUMP (.gsa) THAT Qxb6612894aProg.lean LOADS. Nothing in Lean hashes anything: it is a label: what it is worth is what the hold of that sum in a sandbox is worth. -/
noncomputable def Try.pinned : Pinned := { name := "qxb6612894a", sum := "93496fcf6f07bffd57e65fa85e0a2abb1d829e07c47cae698fe36bfad5236fb2", checked := Try.checked }
namespace Rows
def none {H : Type} : Left H := { results := [], args := [] }

/-- 'zzlaws_intid_b1.FnMaxWorkerTopOfFullLayout': WHATEVER THE INPUT: true; the input reads as it did. -/
def fnMaxWorkerTopOfFullLayoutSpec : ChangeSpec := { name := "fnMaxWorkerTopOfFullLayout", fn := fun _ => fun
  | [d1, d2, d3] => { results := [.lit (.bool true)], args := [d1, d2, d3] }
  | _ => none }
def fnMaxWorkerTopOfFullLayoutRow : OpenClaim := { program := "qxb6612894a", sum := "93496fcf6f07bffd57e65fa85e0a2abb1d829e07c47cae698fe36bfad5236fb2", func := "example.com/keymint/keymint/zzlaws_intid_b1.FnMaxWorkerTopOfFullLayout", spec := "fnMaxWorkerTopOfFullLayout", apart := false }
def FnMaxWorkerTopOfFullLayoutSaid : Prop := fnMaxWorkerTopOfFullLayoutRow.holds Try.pinned (OpenSpec.ofChange fnMaxWorkerTopOfFullLayoutSpec)

/-- ITS FALSE NEIGHBOUR: 'it returns false'. Refute it at one input. -/
def fnMaxWorkerTopOfFullLayoutWrong : ChangeSpec := { name := "fnMaxWorkerTopOfFullLayout", fn := fun _ => fun
  | [d1, d2, d3] => { results := [.lit (.bool false)], args := [d1, d2, d3] }
  | _ => none }
def FnMaxWorkerTopOfFullLayoutWrongFalsely : Prop := fnMaxWorkerTopOfFullLayoutRow.holds Try.pinned (OpenSpec.ofChange fnMaxWorkerTopOfFullLayoutWrong)

end Rows
end Go.Proofs.Qxb6612894a

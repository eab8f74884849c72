/-
  No cell of these rows narrows 'for every input' (looked for: loops, veiled, ifaces, maps, wideKeys, modest, calm, conditions, laid).
  DERIVED. THE GIVEN ROWS OF THIS SEAT. 1 by the template 'for every input the law returns true; each argument reads behind the call as it read before'; 0 by the template 'total and deterministic' (their statements: Qxb6612841aTotals.lean).
  GIVEN WITH THE SEED: the statements are not yours to turn. If you find one false, say at which input.
  Laid BY PROGRAM, IN A SANDBOX (cutbox-rows.mjs): the forced cells as the released guide's own fill.sh prints them over the translation d6c17a7c8b9db108… (all of the seat's roots in one cut). By AI agents, Wed Nov 11 2026. No macro, syntax, notation, axiom, sorry.
-/
import Derived.Test.Qxb6612841aChecked
import GoSem.Claim
import GoSem.ClaimJoined
import GoSem.ClaimMapViews
import Derived.JoinedTies
import Derived.KernelRfl
namespace Go.Proofs.Qxb6612841a
/- THE CELL 'sum', in the pinned program and in every row, IS THE sha256 OF THE DUMP (.gsa) THAT Qxb6612841aProg.lean LOADS. Nothing in Lean hashes anything: it is a label: what it is worth is what the hold of that sum in a sandbox is worth. -/
noncomputable def Try.pinned : Pinned := { name := "qxb6612841a", sum := "d6c17a7c8b9db1085f54bae37878d31a0750d3240baea1c3fb053368d7658592", checked := Try.checked }
namespace Rows
def none {H : Type} : Left H := { results := [], args := [] }

/-- 'zzlaws_pkg_nbd_b1.FnDirtyBitmapParsesBack': WHATEVER THE INPUT: true; the input reads as it did. -/
def fnDirtyBitmapParsesBackSpec : ChangeSpec := { name := "fnDirtyBitmapParsesBack", fn := fun _ => fun
  | [d1, d2] => { results := [.lit (.bool true)], args := [d1, d2] }
  | _ => none }
def fnDirtyBitmapParsesBackRow : OpenClaim := { program := "qxb6612841a", sum := "d6c17a7c8b9db1085f54bae37878d31a0750d3240baea1c3fb053368d7658592", func := "example.com/tidemark/tidemark/zzlaws_pkg_nbd_b1.FnDirtyBitmapParsesBack", spec := "fnDirtyBitmapParsesBack", apart := false }
def FnDirtyBitmapParsesBackSaid : Prop := fnDirtyBitmapParsesBackRow.holds Try.pinned (OpenSpec.ofChange fnDirtyBitmapParsesBackSpec)

/-- ITS FALSE NEIGHBOUR: 'it returns false'. Refute it at one input. -/
def fnDirtyBitmapParsesBackWrong : ChangeSpec := { name := "fnDirtyBitmapParsesBack", fn := fun _ => fun
  | [d1, d2] => { results := [.lit (.bool false)], args := [d1, d2] }
  | _ => none }
def FnDirtyBitmapParsesBackWrongFalsely : Prop := fnDirtyBitmapParsesBackRow.holds Try.pinned (OpenSpec.ofChange fnDirtyBitmapParsesBackWrong)

end Rows
end Go.Proofs.Qxb6612841a

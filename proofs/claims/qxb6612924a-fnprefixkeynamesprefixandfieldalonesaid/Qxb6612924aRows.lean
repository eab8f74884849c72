/-
  No cell of these rows narrows 'for every input' (looked for: loops, veiled, ifaces, maps, wideKeys, modest, calm, conditions, laid).
  DERIVED. THE GIVEN ROWS OF THIS SEAT. 3 by the template 'for every input the law returns true; each argument reads behind the call as it read before'; 0 by the template 'total and deterministic' (their statements: Qxb6612924aTotals.lean).
  GIVEN WITH THE SEED: the statements are not yours to turn. If you find one false, say at which input.
  Laid BY PROGRAM, IN A SANDBOX (cutbox-rows.mjs): the forced cells as the released guide's own fill.sh prints them over the translation 8c421f08adfc30bd… (all of the seat's roots in one cut). By AI agents, Wed Nov 11 2026. No macro, syntax, notation, axiom, sorry.
-/
import Derived.Test.Qxb6612924aChecked
import GoSem.Claim
import GoSem.ClaimJoined
import GoSem.ClaimMapViews
import Derived.JoinedTies
import Derived.KernelRfl
namespace Go.Proofs.Qxb6612924a
/- THE CELL 'sum', in the pinned program and in every row, IS THE sha256 OF THE DUMP (.gsa) THAT Qxb6612924aProg.lean LOADS. Nothing in Lean hashes anything: it is a label: what it is worth is what the hold of that sum in a sandbox is worth. -/
noncomputable def Try.pinned : Pinned := { name := "qxb6612924a", sum := "8c421f08adfc30bdf1aeb53cd78b63419c69385c0789a4b9d4e14d81e15f1c72", checked := Try.checked }
namespace Rows
def none {H : Type} : Left H := { results := [], args := [] }

/-- 'zzlaws_internal_collection_b1.FnScoredMatchesEachDocAtAnyCut': WHATEVER THE INPUT: true; the input reads as it did. -/
def fnScoredMatchesEachDocAtAnyCutSpec : ChangeSpec := { name := "fnScoredMatchesEachDocAtAnyCut", fn := fun _ => fun
  | [d1, d2, d3, d4, d5, d6, d7, d8, d9, d10] => { results := [.lit (.bool true)], args := [d1, d2, d3, d4, d5, d6, d7, d8, d9, d10] }
  | _ => none }
def fnScoredMatchesEachDocAtAnyCutRow : OpenClaim := { program := "qxb6612924a", sum := "8c421f08adfc30bdf1aeb53cd78b63419c69385c0789a4b9d4e14d81e15f1c72", func := "example.com/trawlgate/trawlgate/zzlaws_internal_collection_b1.FnScoredMatchesEachDocAtAnyCut", spec := "fnScoredMatchesEachDocAtAnyCut", apart := false }
def FnScoredMatchesEachDocAtAnyCutSaid : Prop := fnScoredMatchesEachDocAtAnyCutRow.holds Try.pinned (OpenSpec.ofChange fnScoredMatchesEachDocAtAnyCutSpec)

/-- ITS FALSE NEIGHBOUR: 'it returns false'. Refute it at one input. -/
def fnScoredMatchesEachDocAtAnyCutWrong : ChangeSpec := { name := "fnScoredMatchesEachDocAtAnyCut", fn := fun _ => fun
  | [d1, d2, d3, d4, d5, d6, d7, d8, d9, d10] => { results := [.lit (.bool false)], args := [d1, d2, d3, d4, d5, d6, d7, d8, d9, d10] }
  | _ => none }
def FnScoredMatchesEachDocAtAnyCutWrongFalsely : Prop := fnScoredMatchesEachDocAtAnyCutRow.holds Try.pinned (OpenSpec.ofChange fnScoredMatchesEachDocAtAnyCutWrong)

/-- 'zzlaws_internal_collection_b1.FnScoredHangsOnBoostsAndDocsAlone': WHATEVER THE INPUT: true; the input reads as it did. -/
def fnScoredHangsOnBoostsAndDocsAloneSpec : ChangeSpec := { name := "fnScoredHangsOnBoostsAndDocsAlone", fn := fun _ => fun
  | [d1, d2, d3, d4, d5, d6, d7, d8, d9, d10, d11] => { results := [.lit (.bool true)], args := [d1, d2, d3, d4, d5, d6, d7, d8, d9, d10, d11] }
  | _ => none }
def fnScoredHangsOnBoostsAndDocsAloneRow : OpenClaim := { program := "qxb6612924a", sum := "8c421f08adfc30bdf1aeb53cd78b63419c69385c0789a4b9d4e14d81e15f1c72", func := "example.com/trawlgate/trawlgate/zzlaws_internal_collection_b1.FnScoredHangsOnBoostsAndDocsAlone", spec := "fnScoredHangsOnBoostsAndDocsAlone", apart := false }
def FnScoredHangsOnBoostsAndDocsAloneSaid : Prop := fnScoredHangsOnBoostsAndDocsAloneRow.holds Try.pinned (OpenSpec.ofChange fnScoredHangsOnBoostsAndDocsAloneSpec)

/-- ITS FALSE NEIGHBOUR: 'it returns false'. Refute it at one input. -/
def fnScoredHangsOnBoostsAndDocsAloneWrong : ChangeSpec := { name := "fnScoredHangsOnBoostsAndDocsAlone", fn := fun _ => fun
  | [d1, d2, d3, d4, d5, d6, d7, d8, d9, d10, d11] => { results := [.lit (.bool false)], args := [d1, d2, d3, d4, d5, d6, d7, d8, d9, d10, d11] }
  | _ => none }
def FnScoredHangsOnBoostsAndDocsAloneWrongFalsely : Prop := fnScoredHangsOnBoostsAndDocsAloneRow.holds Try.pinned (OpenSpec.ofChange fnScoredHangsOnBoostsAndDocsAloneWrong)

/-- 'zzlaws_internal_collection_b1.FnPrefixKeyNamesPrefixAndFieldAlone': WHATEVER THE INPUT: true; the input reads as it did. -/
def fnPrefixKeyNamesPrefixAndFieldAloneSpec : ChangeSpec := { name := "fnPrefixKeyNamesPrefixAndFieldAlone", fn := fun _ => fun
  | [d1, d2, d3, d4, d5, d6] => { results := [.lit (.bool true)], args := [d1, d2, d3, d4, d5, d6] }
  | _ => none }
def fnPrefixKeyNamesPrefixAndFieldAloneRow : OpenClaim := { program := "qxb6612924a", sum := "8c421f08adfc30bdf1aeb53cd78b63419c69385c0789a4b9d4e14d81e15f1c72", func := "example.com/trawlgate/trawlgate/zzlaws_internal_collection_b1.FnPrefixKeyNamesPrefixAndFieldAlone", spec := "fnPrefixKeyNamesPrefixAndFieldAlone", apart := false }
def FnPrefixKeyNamesPrefixAndFieldAloneSaid : Prop := fnPrefixKeyNamesPrefixAndFieldAloneRow.holds Try.pinned (OpenSpec.ofChange fnPrefixKeyNamesPrefixAndFieldAloneSpec)

/-- ITS FALSE NEIGHBOUR: 'it returns false'. Refute it at one input. -/
def fnPrefixKeyNamesPrefixAndFieldAloneWrong : ChangeSpec := { name := "fnPrefixKeyNamesPrefixAndFieldAlone", fn := fun _ => fun
  | [d1, d2, d3, d4, d5, d6] => { results := [.lit (.bool false)], args := [d1, d2, d3, d4, d5, d6] }
  | _ => none }
def FnPrefixKeyNamesPrefixAndFieldAloneWrongFalsely : Prop := fnPrefixKeyNamesPrefixAndFieldAloneRow.holds Try.pinned (OpenSpec.ofChange fnPrefixKeyNamesPrefixAndFieldAloneWrong)

end Rows
end Go.Proofs.Qxb6612924a

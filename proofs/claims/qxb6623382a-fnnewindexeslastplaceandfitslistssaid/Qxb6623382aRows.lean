/-
  No cell of these rows narrows 'for every input' (looked for: loops, veiled, ifaces, maps, wideKeys, modest, calm, conditions, laid).
  DERIVED. THE GIVEN ROWS OF THIS SEAT. 1 by the template 'for every input the law returns true; each argument reads behind the call as it read before'; 0 by the template 'total and deterministic' (their statements: Qxb6623382aTotals.lean).
  GIVEN WITH THE SEED: the statements are not yours to turn. If you find one false, say at which input.
  Laid BY PROGRAM, IN A SANDBOX (cutbox-rows.mjs): the forced cells as the released guide's own fill.sh prints them over the translation 09f4a23db7abcdfa… (all of the seat's roots in one cut). By AI agents, Wed Nov 11 2026. No macro, syntax, notation, axiom, sorry.
-/
import Derived.Test.Qxb6623382aChecked
import GoSem.Claim
import GoSem.ClaimJoined
import GoSem.ClaimMapViews
import Derived.JoinedTies
import Derived.KernelRfl
namespace Go.Proofs.Qxb6623382a
/- THE CELL 'sum', in the pinned program and in every row, IS THE sha256 OF THE DUMP (.gsa) THAT Qxb6623382aProg.lean LOADS. Nothing in Lean hashes anything: it is a label: what it is worth is what the hold of that sum in a sandbox is worth. -/
noncomputable def Try.pinned : Pinned := { name := "qxb6623382a", sum := "09f4a23db7abcdfa3b14fb099678175d1e92aa5dd62134b6a7003ea07384bb3f", checked := Try.checked }
namespace Rows
def none {H : Type} : Left H := { results := [], args := [] }

/-- 'zzlaws_graph_b1.FnNewIndexesLastPlaceAndFitsLists': WHATEVER THE INPUT: true; the input reads as it did. -/
def fnNewIndexesLastPlaceAndFitsListsSpec : ChangeSpec := { name := "fnNewIndexesLastPlaceAndFitsLists", fn := fun _ => fun
  | [d1, d2] => { results := [.lit (.bool true)], args := [d1, d2] }
  | _ => none }
def fnNewIndexesLastPlaceAndFitsListsRow : OpenClaim := { program := "qxb6623382a", sum := "09f4a23db7abcdfa3b14fb099678175d1e92aa5dd62134b6a7003ea07384bb3f", func := "example.com/serialix/serialix/zzlaws_graph_b1.FnNewIndexesLastPlaceAndFitsLists", spec := "fnNewIndexesLastPlaceAndFitsLists", apart := false }
def FnNewIndexesLastPlaceAndFitsListsSaid : Prop := fnNewIndexesLastPlaceAndFitsListsRow.holds Try.pinned (OpenSpec.ofChange fnNewIndexesLastPlaceAndFitsListsSpec)

/-- ITS FALSE NEIGHBOUR: 'it returns false'. Refute it at one input. -/
def fnNewIndexesLastPlaceAndFitsListsWrong : ChangeSpec := { name := "fnNewIndexesLastPlaceAndFitsLists", fn := fun _ => fun
  | [d1, d2] => { results := [.lit (.bool false)], args := [d1, d2] }
  | _ => none }
def FnNewIndexesLastPlaceAndFitsListsWrongFalsely : Prop := fnNewIndexesLastPlaceAndFitsListsRow.holds Try.pinned (OpenSpec.ofChange fnNewIndexesLastPlaceAndFitsListsWrong)

end Rows
end Go.Proofs.Qxb6623382a

/-
  No cell of these rows narrows 'for every input' (looked for: loops, veiled, ifaces, maps, wideKeys, modest, calm, conditions, laid).
  DERIVED. THE GIVEN ROWS OF THIS SEAT. 2 by the template 'for every input the law returns true; each argument reads behind the call as it read before'; 0 by the template 'total and deterministic' (their statements: Qxb6623417aTotals.lean).
  GIVEN WITH THE SEED: the statements are not yours to turn. If you find one false, say at which input.
  Laid BY PROGRAM, IN A SANDBOX (cutbox-rows.mjs): the forced cells as the released guide's own fill.sh prints them over the translation 2d01c6811f9df1ec… (all of the seat's roots in one cut). By AI agents, Wed Nov 11 2026. No macro, syntax, notation, axiom, sorry.
-/
import Derived.Test.Qxb6623417aChecked
import GoSem.Claim
import GoSem.ClaimJoined
import GoSem.ClaimMapViews
import Derived.JoinedTies
import Derived.KernelRfl
namespace Go.Proofs.Qxb6623417a
/- THE CELL 'sum', in the pinned program and in every row, IS THE sha256 OF THE DUMP (.gsa) THAT Qxb6623417aProg.lean LOADS. Nothing in Lean hashes anything: it is a label: what it is worth is what the hold of that sum in a sandbox is worth. -/
noncomputable def Try.pinned : Pinned := { name := "qxb6623417a", sum := "2d01c6811f9df1ec1cc91a41f09a52f3df388bec9dfe1ac1ca4388daf0f7eb91", checked := Try.checked }
namespace Rows
def none {H : Type} : Left H := { results := [], args := [] }

/-- 'zzlaws_pkg_config_b1.FnJoinFoldIsDottedPathFromFirstNonEmpty': WHATEVER THE INPUT: true; the input reads as it did. -/
def fnJoinFoldIsDottedPathFromFirstNonEmptySpec : ChangeSpec := { name := "fnJoinFoldIsDottedPathFromFirstNonEmpty", fn := fun _ => fun
  | [d] => { results := [.lit (.bool true)], args := [d] }
  | _ => none }
def fnJoinFoldIsDottedPathFromFirstNonEmptyRow : OpenClaim := { program := "qxb6623417a", sum := "2d01c6811f9df1ec1cc91a41f09a52f3df388bec9dfe1ac1ca4388daf0f7eb91", func := "example.com/tollward/tollward/zzlaws_pkg_config_b1.FnJoinFoldIsDottedPathFromFirstNonEmpty", spec := "fnJoinFoldIsDottedPathFromFirstNonEmpty", apart := false }
def FnJoinFoldIsDottedPathFromFirstNonEmptySaid : Prop := fnJoinFoldIsDottedPathFromFirstNonEmptyRow.holds Try.pinned (OpenSpec.ofChange fnJoinFoldIsDottedPathFromFirstNonEmptySpec)

/-- ITS FALSE NEIGHBOUR: 'it returns false'. Refute it at one input. -/
def fnJoinFoldIsDottedPathFromFirstNonEmptyWrong : ChangeSpec := { name := "fnJoinFoldIsDottedPathFromFirstNonEmpty", fn := fun _ => fun
  | [d] => { results := [.lit (.bool false)], args := [d] }
  | _ => none }
def FnJoinFoldIsDottedPathFromFirstNonEmptyWrongFalsely : Prop := fnJoinFoldIsDottedPathFromFirstNonEmptyRow.holds Try.pinned (OpenSpec.ofChange fnJoinFoldIsDottedPathFromFirstNonEmptyWrong)

/-- 'zzlaws_pkg_config_b1.FnJoinRegroupsAroundNonEmptyMiddle': WHATEVER THE INPUT: true; the input reads as it did. -/
def fnJoinRegroupsAroundNonEmptyMiddleSpec : ChangeSpec := { name := "fnJoinRegroupsAroundNonEmptyMiddle", fn := fun _ => fun
  | [d1, d2, d3] => { results := [.lit (.bool true)], args := [d1, d2, d3] }
  | _ => none }
def fnJoinRegroupsAroundNonEmptyMiddleRow : OpenClaim := { program := "qxb6623417a", sum := "2d01c6811f9df1ec1cc91a41f09a52f3df388bec9dfe1ac1ca4388daf0f7eb91", func := "example.com/tollward/tollward/zzlaws_pkg_config_b1.FnJoinRegroupsAroundNonEmptyMiddle", spec := "fnJoinRegroupsAroundNonEmptyMiddle", apart := false }
def FnJoinRegroupsAroundNonEmptyMiddleSaid : Prop := fnJoinRegroupsAroundNonEmptyMiddleRow.holds Try.pinned (OpenSpec.ofChange fnJoinRegroupsAroundNonEmptyMiddleSpec)

/-- ITS FALSE NEIGHBOUR: 'it returns false'. Refute it at one input. -/
def fnJoinRegroupsAroundNonEmptyMiddleWrong : ChangeSpec := { name := "fnJoinRegroupsAroundNonEmptyMiddle", fn := fun _ => fun
  | [d1, d2, d3] => { results := [.lit (.bool false)], args := [d1, d2, d3] }
  | _ => none }
def FnJoinRegroupsAroundNonEmptyMiddleWrongFalsely : Prop := fnJoinRegroupsAroundNonEmptyMiddleRow.holds Try.pinned (OpenSpec.ofChange fnJoinRegroupsAroundNonEmptyMiddleWrong)

end Rows
end Go.Proofs.Qxb6623417a

/-
  No cell of these rows narrows 'for every input' (looked for: loops, veiled, ifaces, maps, wideKeys, modest, calm, conditions, laid).
  DERIVED. THE GIVEN ROWS OF THIS SEAT. 2 by the template 'for every input the law returns true; each argument reads behind the call as it read before'; 0 by the template 'total and deterministic' (their statements: Qxb6623256aTotals.lean).
  GIVEN WITH THE SEED: the statements are not yours to turn. If you find one false, say at which input.
  Laid BY PROGRAM, IN A SANDBOX (cutbox-rows.mjs): the forced cells as the released guide's own fill.sh prints them over the translation 010c0f87128f4846… (all of the seat's roots in one cut). By AI agents, Wed Nov 11 2026. No macro, syntax, notation, axiom, sorry.
-/
import Derived.Test.Qxb6623256aChecked
import GoSem.Claim
import GoSem.ClaimJoined
import GoSem.ClaimMapViews
import Derived.JoinedTies
import Derived.KernelRfl
namespace Go.Proofs.Qxb6623256a
/- THE CELL 'sum', in the pinned program and in every row, IS THE sha256 OF THE DUMP (.gsa) THAT Qxb6623256aProg.lean LOADS. Nothing in Lean hashes anything: it is a label: what it is worth is what the hold of that sum in a sandbox is worth. -/
noncomputable def Try.pinned : Pinned := { name := "qxb6623256a", sum := "010c0f87128f4846719f93073b60d80f91b04c8601e9ce5caffd9d938b537ad5", checked := Try.checked }
namespace Rows
def none {H : Type} : Left H := { results := [], args := [] }

/-- 'zzlaws_tuple_b1.FnTupleStringDecodesBack': WHATEVER THE INPUT: true; the input reads as it did. -/
def fnTupleStringDecodesBackSpec : ChangeSpec := { name := "fnTupleStringDecodesBack", fn := fun _ => fun
  | [d1, d2, d3, d4, d5, d6] => { results := [.lit (.bool true)], args := [d1, d2, d3, d4, d5, d6] }
  | _ => none }
def fnTupleStringDecodesBackRow : OpenClaim := { program := "qxb6623256a", sum := "010c0f87128f4846719f93073b60d80f91b04c8601e9ce5caffd9d938b537ad5", func := "example.com/permission-graph/permission-graph/zzlaws_tuple_b1.FnTupleStringDecodesBack", spec := "fnTupleStringDecodesBack", apart := false }
def FnTupleStringDecodesBackSaid : Prop := fnTupleStringDecodesBackRow.holds Try.pinned (OpenSpec.ofChange fnTupleStringDecodesBackSpec)

/-- ITS FALSE NEIGHBOUR: 'it returns false'. Refute it at one input. -/
def fnTupleStringDecodesBackWrong : ChangeSpec := { name := "fnTupleStringDecodesBack", fn := fun _ => fun
  | [d1, d2, d3, d4, d5, d6] => { results := [.lit (.bool false)], args := [d1, d2, d3, d4, d5, d6] }
  | _ => none }
def FnTupleStringDecodesBackWrongFalsely : Prop := fnTupleStringDecodesBackRow.holds Try.pinned (OpenSpec.ofChange fnTupleStringDecodesBackWrong)

/-- 'zzlaws_tuple_b1.FnTupleStringUsersetSuffix': WHATEVER THE INPUT: true; the input reads as it did. -/
def fnTupleStringUsersetSuffixSpec : ChangeSpec := { name := "fnTupleStringUsersetSuffix", fn := fun _ => fun
  | [d1, d2, d3, d4, d5, d6] => { results := [.lit (.bool true)], args := [d1, d2, d3, d4, d5, d6] }
  | _ => none }
def fnTupleStringUsersetSuffixRow : OpenClaim := { program := "qxb6623256a", sum := "010c0f87128f4846719f93073b60d80f91b04c8601e9ce5caffd9d938b537ad5", func := "example.com/permission-graph/permission-graph/zzlaws_tuple_b1.FnTupleStringUsersetSuffix", spec := "fnTupleStringUsersetSuffix", apart := false }
def FnTupleStringUsersetSuffixSaid : Prop := fnTupleStringUsersetSuffixRow.holds Try.pinned (OpenSpec.ofChange fnTupleStringUsersetSuffixSpec)

/-- ITS FALSE NEIGHBOUR: 'it returns false'. Refute it at one input. -/
def fnTupleStringUsersetSuffixWrong : ChangeSpec := { name := "fnTupleStringUsersetSuffix", fn := fun _ => fun
  | [d1, d2, d3, d4, d5, d6] => { results := [.lit (.bool false)], args := [d1, d2, d3, d4, d5, d6] }
  | _ => none }
def FnTupleStringUsersetSuffixWrongFalsely : Prop := fnTupleStringUsersetSuffixRow.holds Try.pinned (OpenSpec.ofChange fnTupleStringUsersetSuffixWrong)

end Rows
end Go.Proofs.Qxb6623256a

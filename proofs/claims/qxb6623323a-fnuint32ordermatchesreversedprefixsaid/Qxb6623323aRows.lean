/-
  No cell of these rows narrows 'for every input' (looked for: loops, veiled, ifaces, maps, wideKeys, modest, calm, conditions, laid).
  DERIVED. THE GIVEN ROWS OF THIS SEAT. 2 by the template 'for every input the law returns true; each argument reads behind the call as it read before'; 0 by the template 'total and deterministic' (their statements: Qxb6623323aTotals.lean).
  GIVEN WITH THE SEED: the statements are not yours to turn. If you find one false, say at which input.
  Laid BY PROGRAM, IN A SANDBOX (cutbox-rows.mjs): the forced cells as the released guide's own fill.sh prints them over the translation 9eb228d017937d6d… (all of the seat's roots in one cut). By AI agents, Wed Nov 11 2026. No macro, syntax, notation, axiom, sorry.
-/
import Derived.Test.Qxb6623323aChecked
import GoSem.Claim
import GoSem.ClaimJoined
import GoSem.ClaimMapViews
import Derived.JoinedTies
import Derived.KernelRfl
namespace Go.Proofs.Qxb6623323a
/- THE CELL 'sum', in the pinned program and in every row, IS THE sha256 OF THE DUMP (.gsa) THAT Qxb6623323aProg.lean LOADS. Nothing in Lean hashes anything: it is a label: what it is worth is what the hold of that sum in a sandbox is worth. -/
noncomputable def Try.pinned : Pinned := { name := "qxb6623323a", sum := "9eb228d017937d6ddcb5255424d660f4019429c3f198eddb7a5f0d49e41b80d2", checked := Try.checked }
namespace Rows
def none {H : Type} : Left H := { results := [], args := [] }

/-- 'zzlaws_internal_littleendian_b1.FnUint32ShiftByOneByte': WHATEVER THE INPUT: true; the input reads as it did. -/
def fnUint32ShiftByOneByteSpec : ChangeSpec := { name := "fnUint32ShiftByOneByte", fn := fun _ => fun
  | [d] => { results := [.lit (.bool true)], args := [d] }
  | _ => none }
def fnUint32ShiftByOneByteRow : OpenClaim := { program := "qxb6623323a", sum := "9eb228d017937d6ddcb5255424d660f4019429c3f198eddb7a5f0d49e41b80d2", func := "example.com/grimstad/grimstad/zzlaws_internal_littleendian_b1.FnUint32ShiftByOneByte", spec := "fnUint32ShiftByOneByte", apart := false }
def FnUint32ShiftByOneByteSaid : Prop := fnUint32ShiftByOneByteRow.holds Try.pinned (OpenSpec.ofChange fnUint32ShiftByOneByteSpec)

/-- ITS FALSE NEIGHBOUR: 'it returns false'. Refute it at one input. -/
def fnUint32ShiftByOneByteWrong : ChangeSpec := { name := "fnUint32ShiftByOneByte", fn := fun _ => fun
  | [d] => { results := [.lit (.bool false)], args := [d] }
  | _ => none }
def FnUint32ShiftByOneByteWrongFalsely : Prop := fnUint32ShiftByOneByteRow.holds Try.pinned (OpenSpec.ofChange fnUint32ShiftByOneByteWrong)

/-- 'zzlaws_internal_littleendian_b1.FnUint32OrderMatchesReversedPrefix': WHATEVER THE INPUT: true; the input reads as it did. -/
def fnUint32OrderMatchesReversedPrefixSpec : ChangeSpec := { name := "fnUint32OrderMatchesReversedPrefix", fn := fun _ => fun
  | [d1, d2] => { results := [.lit (.bool true)], args := [d1, d2] }
  | _ => none }
def fnUint32OrderMatchesReversedPrefixRow : OpenClaim := { program := "qxb6623323a", sum := "9eb228d017937d6ddcb5255424d660f4019429c3f198eddb7a5f0d49e41b80d2", func := "example.com/grimstad/grimstad/zzlaws_internal_littleendian_b1.FnUint32OrderMatchesReversedPrefix", spec := "fnUint32OrderMatchesReversedPrefix", apart := false }
def FnUint32OrderMatchesReversedPrefixSaid : Prop := fnUint32OrderMatchesReversedPrefixRow.holds Try.pinned (OpenSpec.ofChange fnUint32OrderMatchesReversedPrefixSpec)

/-- ITS FALSE NEIGHBOUR: 'it returns false'. Refute it at one input. -/
def fnUint32OrderMatchesReversedPrefixWrong : ChangeSpec := { name := "fnUint32OrderMatchesReversedPrefix", fn := fun _ => fun
  | [d1, d2] => { results := [.lit (.bool false)], args := [d1, d2] }
  | _ => none }
def FnUint32OrderMatchesReversedPrefixWrongFalsely : Prop := fnUint32OrderMatchesReversedPrefixRow.holds Try.pinned (OpenSpec.ofChange fnUint32OrderMatchesReversedPrefixWrong)

end Rows
end Go.Proofs.Qxb6623323a

/-
  No cell of these rows narrows 'for every input' (looked for: loops, veiled, ifaces, maps, wideKeys, modest, calm, conditions, laid).
  DERIVED. THE GIVEN ROWS OF THIS SEAT. 3 by the template 'for every input the law returns true; each argument reads behind the call as it read before'; 0 by the template 'total and deterministic' (their statements: Qxb6615047aTotals.lean).
  GIVEN WITH THE SEED: the statements are not yours to turn. If you find one false, say at which input.
  Laid BY PROGRAM, IN A SANDBOX (cutbox-rows.mjs): the forced cells as the released guide's own fill.sh prints them over the translation e099ee8b80d33255… (all of the seat's roots in one cut). By AI agents, Wed Nov 11 2026. No macro, syntax, notation, axiom, sorry.
-/
import Derived.Test.Qxb6615047aChecked
import GoSem.Claim
import GoSem.ClaimJoined
import GoSem.ClaimMapViews
import Derived.JoinedTies
import Derived.KernelRfl
namespace Go.Proofs.Qxb6615047a
/- THE CELL 'sum', in the pinned program and in every row, IS THE sha256 OF THE DUMP (.gsa) THAT Qxb6615047aProg.lean LOADS. Nothing in Lean hashes anything: it is a label: what it is worth is what the hold of that sum in a sandbox is worth. -/
noncomputable def Try.pinned : Pinned := { name := "qxb6615047a", sum := "e099ee8b80d33255f62f8cd6d6706bd6158e2f5a1c5f6059b83ad72d24d3cc6f", checked := Try.checked }
namespace Rows
def none {H : Type} : Left H := { results := [], args := [] }

/-- 'zzlaws_internal_wire_b1.FnNewCursorThenDoneExact': WHATEVER THE INPUT: true; the input reads as it did. -/
def fnNewCursorThenDoneExactSpec : ChangeSpec := { name := "fnNewCursorThenDoneExact", fn := fun _ => fun
  | [d] => { results := [.lit (.bool true)], args := [d] }
  | _ => none }
def fnNewCursorThenDoneExactRow : OpenClaim := { program := "qxb6615047a", sum := "e099ee8b80d33255f62f8cd6d6706bd6158e2f5a1c5f6059b83ad72d24d3cc6f", func := "example.com/sandglass/sandglass/zzlaws_internal_wire_b1.FnNewCursorThenDoneExact", spec := "fnNewCursorThenDoneExact", unfollowed := true, recurses := true, apart := false }
def FnNewCursorThenDoneExactSaid : Prop := fnNewCursorThenDoneExactRow.holds Try.pinned (OpenSpec.ofChange fnNewCursorThenDoneExactSpec)

/-- ITS FALSE NEIGHBOUR: 'it returns false'. Refute it at one input. -/
def fnNewCursorThenDoneExactWrong : ChangeSpec := { name := "fnNewCursorThenDoneExact", fn := fun _ => fun
  | [d] => { results := [.lit (.bool false)], args := [d] }
  | _ => none }
def FnNewCursorThenDoneExactWrongFalsely : Prop := fnNewCursorThenDoneExactRow.holds Try.pinned (OpenSpec.ofChange fnNewCursorThenDoneExactWrong)

/-- 'zzlaws_internal_wire_b1.FnCursorDoneIgnoresTrailingBlanks': WHATEVER THE INPUT: true; the input reads as it did. -/
def fnCursorDoneIgnoresTrailingBlanksSpec : ChangeSpec := { name := "fnCursorDoneIgnoresTrailingBlanks", fn := fun _ => fun
  | [d1, d2, d3] => { results := [.lit (.bool true)], args := [d1, d2, d3] }
  | _ => none }
def fnCursorDoneIgnoresTrailingBlanksRow : OpenClaim := { program := "qxb6615047a", sum := "e099ee8b80d33255f62f8cd6d6706bd6158e2f5a1c5f6059b83ad72d24d3cc6f", func := "example.com/sandglass/sandglass/zzlaws_internal_wire_b1.FnCursorDoneIgnoresTrailingBlanks", spec := "fnCursorDoneIgnoresTrailingBlanks", unfollowed := true, recurses := true, apart := false }
def FnCursorDoneIgnoresTrailingBlanksSaid : Prop := fnCursorDoneIgnoresTrailingBlanksRow.holds Try.pinned (OpenSpec.ofChange fnCursorDoneIgnoresTrailingBlanksSpec)

/-- ITS FALSE NEIGHBOUR: 'it returns false'. Refute it at one input. -/
def fnCursorDoneIgnoresTrailingBlanksWrong : ChangeSpec := { name := "fnCursorDoneIgnoresTrailingBlanks", fn := fun _ => fun
  | [d1, d2, d3] => { results := [.lit (.bool false)], args := [d1, d2, d3] }
  | _ => none }
def FnCursorDoneIgnoresTrailingBlanksWrongFalsely : Prop := fnCursorDoneIgnoresTrailingBlanksRow.holds Try.pinned (OpenSpec.ofChange fnCursorDoneIgnoresTrailingBlanksWrong)

/-- 'zzlaws_internal_wire_b1.FnCursorDoneTwiceSame': WHATEVER THE INPUT: true; the input reads as it did. -/
def fnCursorDoneTwiceSameSpec : ChangeSpec := { name := "fnCursorDoneTwiceSame", fn := fun _ => fun
  | [d1, d2] => { results := [.lit (.bool true)], args := [d1, d2] }
  | _ => none }
def fnCursorDoneTwiceSameRow : OpenClaim := { program := "qxb6615047a", sum := "e099ee8b80d33255f62f8cd6d6706bd6158e2f5a1c5f6059b83ad72d24d3cc6f", func := "example.com/sandglass/sandglass/zzlaws_internal_wire_b1.FnCursorDoneTwiceSame", spec := "fnCursorDoneTwiceSame", unfollowed := true, recurses := true, apart := false }
def FnCursorDoneTwiceSameSaid : Prop := fnCursorDoneTwiceSameRow.holds Try.pinned (OpenSpec.ofChange fnCursorDoneTwiceSameSpec)

/-- ITS FALSE NEIGHBOUR: 'it returns false'. Refute it at one input. -/
def fnCursorDoneTwiceSameWrong : ChangeSpec := { name := "fnCursorDoneTwiceSame", fn := fun _ => fun
  | [d1, d2] => { results := [.lit (.bool false)], args := [d1, d2] }
  | _ => none }
def FnCursorDoneTwiceSameWrongFalsely : Prop := fnCursorDoneTwiceSameRow.holds Try.pinned (OpenSpec.ofChange fnCursorDoneTwiceSameWrong)

end Rows
end Go.Proofs.Qxb6615047a

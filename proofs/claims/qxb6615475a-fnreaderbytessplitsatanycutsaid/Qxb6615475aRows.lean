/-
  No cell of these rows narrows 'for every input' (looked for: loops, veiled, ifaces, maps, wideKeys, modest, calm, conditions, laid).
  DERIVED. THE GIVEN ROWS OF THIS SEAT. 2 by the template 'for every input the law returns true; each argument reads behind the call as it read before'; 0 by the template 'total and deterministic' (their statements: Qxb6615475aTotals.lean).
  GIVEN WITH THE SEED: the statements are not yours to turn. If you find one false, say at which input.
  Laid BY PROGRAM, IN A SANDBOX (cutbox-rows.mjs): the forced cells as the released guide's own fill.sh prints them over the translation e9831d92cb3a40db… (all of the seat's roots in one cut). By AI agents, Wed Nov 11 2026. No macro, syntax, notation, axiom, sorry.
-/
import Derived.Test.Qxb6615475aChecked
import GoSem.Claim
import GoSem.ClaimJoined
import GoSem.ClaimMapViews
import Derived.JoinedTies
import Derived.KernelRfl
namespace Go.Proofs.Qxb6615475a
/- THE CELL 'sum', in the pinned program and in every row, IS THE sha256 OF THE DUMP (.gsa) THAT Qxb6615475aProg.lean LOADS. Nothing in Lean hashes anything: it is a label: what it is worth is what the hold of that sum in a sandbox is worth. -/
noncomputable def Try.pinned : Pinned := { name := "qxb6615475a", sum := "e9831d92cb3a40dbfe2e0408fdc415b8b8aec16124b99ad45c51155d3509c9df", checked := Try.checked }
namespace Rows
def none {H : Type} : Left H := { results := [], args := [] }

/-- 'zzlaws_wire_b1.FnReaderBytesSplitsAtAnyCut': WHATEVER THE INPUT: true; the input reads as it did. -/
def fnReaderBytesSplitsAtAnyCutSpec : ChangeSpec := { name := "fnReaderBytesSplitsAtAnyCut", fn := fun _ => fun
  | [d1, d2, d3, d4, d5, d6, d7] => { results := [.lit (.bool true)], args := [d1, d2, d3, d4, d5, d6, d7] }
  | _ => none }
def fnReaderBytesSplitsAtAnyCutRow : OpenClaim := { program := "qxb6615475a", sum := "e9831d92cb3a40dbfe2e0408fdc415b8b8aec16124b99ad45c51155d3509c9df", func := "example.com/zoneglass/zoneglass/zzlaws_wire_b1.FnReaderBytesSplitsAtAnyCut", spec := "fnReaderBytesSplitsAtAnyCut", apart := false }
def FnReaderBytesSplitsAtAnyCutSaid : Prop := fnReaderBytesSplitsAtAnyCutRow.holds Try.pinned (OpenSpec.ofChange fnReaderBytesSplitsAtAnyCutSpec)

/-- ITS FALSE NEIGHBOUR: 'it returns false'. Refute it at one input. -/
def fnReaderBytesSplitsAtAnyCutWrong : ChangeSpec := { name := "fnReaderBytesSplitsAtAnyCut", fn := fun _ => fun
  | [d1, d2, d3, d4, d5, d6, d7] => { results := [.lit (.bool false)], args := [d1, d2, d3, d4, d5, d6, d7] }
  | _ => none }
def FnReaderBytesSplitsAtAnyCutWrongFalsely : Prop := fnReaderBytesSplitsAtAnyCutRow.holds Try.pinned (OpenSpec.ofChange fnReaderBytesSplitsAtAnyCutWrong)

/-- 'zzlaws_wire_b1.FnReaderBytesFailureSticks': WHATEVER THE INPUT: true; the input reads as it did. -/
def fnReaderBytesFailureSticksSpec : ChangeSpec := { name := "fnReaderBytesFailureSticks", fn := fun _ => fun
  | [d1, d2, d3, d4, d5, d6, d7] => { results := [.lit (.bool true)], args := [d1, d2, d3, d4, d5, d6, d7] }
  | _ => none }
def fnReaderBytesFailureSticksRow : OpenClaim := { program := "qxb6615475a", sum := "e9831d92cb3a40dbfe2e0408fdc415b8b8aec16124b99ad45c51155d3509c9df", func := "example.com/zoneglass/zoneglass/zzlaws_wire_b1.FnReaderBytesFailureSticks", spec := "fnReaderBytesFailureSticks", apart := false }
def FnReaderBytesFailureSticksSaid : Prop := fnReaderBytesFailureSticksRow.holds Try.pinned (OpenSpec.ofChange fnReaderBytesFailureSticksSpec)

/-- ITS FALSE NEIGHBOUR: 'it returns false'. Refute it at one input. -/
def fnReaderBytesFailureSticksWrong : ChangeSpec := { name := "fnReaderBytesFailureSticks", fn := fun _ => fun
  | [d1, d2, d3, d4, d5, d6, d7] => { results := [.lit (.bool false)], args := [d1, d2, d3, d4, d5, d6, d7] }
  | _ => none }
def FnReaderBytesFailureSticksWrongFalsely : Prop := fnReaderBytesFailureSticksRow.holds Try.pinned (OpenSpec.ofChange fnReaderBytesFailureSticksWrong)

end Rows
end Go.Proofs.Qxb6615475a

/-
  No cell of these rows narrows 'for every input' (looked for: loops, veiled, ifaces, maps, wideKeys, modest, calm, conditions, laid).
  DERIVED. THE GIVEN ROWS OF THIS SEAT. 2 by the template 'for every input the law returns true; each argument reads behind the call as it read before'; 0 by the template 'total and deterministic' (their statements: Qxb6615643aTotals.lean).
  GIVEN WITH THE SEED: the statements are not yours to turn. If you find one false, say at which input.
  Laid BY PROGRAM, IN A SANDBOX (cutbox-rows.mjs): the forced cells as the released guide's own fill.sh prints them over the translation 641e83ace726eb2f… (all of the seat's roots in one cut). By AI agents, Wed Nov 11 2026. No macro, syntax, notation, axiom, sorry.
-/
import Derived.Test.Qxb6615643aChecked
import GoSem.Claim
import GoSem.ClaimJoined
import GoSem.ClaimMapViews
import Derived.JoinedTies
import Derived.KernelRfl
namespace Go.Proofs.Qxb6615643a
/- THE CELL 'sum', in the pinned program and in every row, IS THE sha256 OF THE DUMP (.gsa) THAT Qxb6615643aProg.lean LOADS. Nothing in Lean hashes anything: it is a label: what it is worth is what the hold of that sum in a sandbox is worth. -/
noncomputable def Try.pinned : Pinned := { name := "qxb6615643a", sum := "641e83ace726eb2fd8e48ac97001826d91098a24f6ffa2c48d221539fdf07b63", checked := Try.checked }
namespace Rows
def none {H : Type} : Left H := { results := [], args := [] }

/-- 'zzlaws_pkg_register_b1.FnGroupsAreUndirectedComponents': WHATEVER THE INPUT: true; the input reads as it did. -/
def fnGroupsAreUndirectedComponentsSpec : ChangeSpec := { name := "fnGroupsAreUndirectedComponents", fn := fun _ => fun
  | [d1, d2] => { results := [.lit (.bool true)], args := [d1, d2] }
  | _ => none }
def fnGroupsAreUndirectedComponentsRow : OpenClaim := { program := "qxb6615643a", sum := "641e83ace726eb2fd8e48ac97001826d91098a24f6ffa2c48d221539fdf07b63", func := "example.com/guanlian/guanlian/zzlaws_pkg_register_b1.FnGroupsAreUndirectedComponents", spec := "fnGroupsAreUndirectedComponents", unfollowed := true, recurses := true, apart := false }
def FnGroupsAreUndirectedComponentsSaid : Prop := fnGroupsAreUndirectedComponentsRow.holds Try.pinned (OpenSpec.ofChange fnGroupsAreUndirectedComponentsSpec)

/-- ITS FALSE NEIGHBOUR: 'it returns false'. Refute it at one input. -/
def fnGroupsAreUndirectedComponentsWrong : ChangeSpec := { name := "fnGroupsAreUndirectedComponents", fn := fun _ => fun
  | [d1, d2] => { results := [.lit (.bool false)], args := [d1, d2] }
  | _ => none }
def FnGroupsAreUndirectedComponentsWrongFalsely : Prop := fnGroupsAreUndirectedComponentsRow.holds Try.pinned (OpenSpec.ofChange fnGroupsAreUndirectedComponentsWrong)

/-- 'zzlaws_pkg_register_b1.FnGroupsIgnoreDirection': WHATEVER THE INPUT: true; the input reads as it did. -/
def fnGroupsIgnoreDirectionSpec : ChangeSpec := { name := "fnGroupsIgnoreDirection", fn := fun _ => fun
  | [d1, d2] => { results := [.lit (.bool true)], args := [d1, d2] }
  | _ => none }
def fnGroupsIgnoreDirectionRow : OpenClaim := { program := "qxb6615643a", sum := "641e83ace726eb2fd8e48ac97001826d91098a24f6ffa2c48d221539fdf07b63", func := "example.com/guanlian/guanlian/zzlaws_pkg_register_b1.FnGroupsIgnoreDirection", spec := "fnGroupsIgnoreDirection", unfollowed := true, recurses := true, apart := false }
def FnGroupsIgnoreDirectionSaid : Prop := fnGroupsIgnoreDirectionRow.holds Try.pinned (OpenSpec.ofChange fnGroupsIgnoreDirectionSpec)

/-- ITS FALSE NEIGHBOUR: 'it returns false'. Refute it at one input. -/
def fnGroupsIgnoreDirectionWrong : ChangeSpec := { name := "fnGroupsIgnoreDirection", fn := fun _ => fun
  | [d1, d2] => { results := [.lit (.bool false)], args := [d1, d2] }
  | _ => none }
def FnGroupsIgnoreDirectionWrongFalsely : Prop := fnGroupsIgnoreDirectionRow.holds Try.pinned (OpenSpec.ofChange fnGroupsIgnoreDirectionWrong)

end Rows
end Go.Proofs.Qxb6615643a

/-
  No cell of these rows narrows 'for every input' (looked for: loops, veiled, ifaces, maps, wideKeys, modest, calm, conditions, laid).
  DERIVED. THE GIVEN ROWS OF THIS SEAT. 2 by the template 'for every input the law returns true; each argument reads behind the call as it read before'; 0 by the template 'total and deterministic' (their statements: Qxb6618867aTotals.lean).
  GIVEN WITH THE SEED: the statements are not yours to turn. If you find one false, say at which input.
  Laid BY PROGRAM, IN A SANDBOX (cutbox-rows.mjs): the forced cells as the released guide's own fill.sh prints them over the translation 2d475dce9d9107b8… (all of the seat's roots in one cut). By AI agents, Wed Nov 11 2026. No macro, syntax, notation, axiom, sorry.
-/
import Derived.Test.Qxb6618867aChecked
import GoSem.Claim
import GoSem.ClaimJoined
import GoSem.ClaimMapViews
import Derived.JoinedTies
import Derived.KernelRfl
namespace Go.Proofs.Qxb6618867a
/- THE CELL 'sum', in the pinned program and in every row, IS THE sha256 OF THE DUMP (.gsa) THAT Qxb6618867aProg.lean LOADS. Nothing in Lean hashes anything: it is a label: what it is worth is what the hold of that sum in a sandbox is worth. -/
noncomputable def Try.pinned : Pinned := { name := "qxb6618867a", sum := "2d475dce9d9107b864aa9d1c45a3ed325fc01e70d9e322722f54faca073c875f", checked := Try.checked }
namespace Rows
def none {H : Type} : Left H := { results := [], args := [] }

/-- 'zzlaws_pkg_doh_b1.FnIsAlphanumericCountsUpTo': WHATEVER THE INPUT: true; the input reads as it did. -/
def fnIsAlphanumericCountsUpToSpec : ChangeSpec := { name := "fnIsAlphanumericCountsUpTo", fn := fun _ => fun
  | [d] => { results := [.lit (.bool true)], args := [d] }
  | _ => none }
def fnIsAlphanumericCountsUpToRow : OpenClaim := { program := "qxb6618867a", sum := "2d475dce9d9107b864aa9d1c45a3ed325fc01e70d9e322722f54faca073c875f", func := "example.com/quietdig/quietdig/zzlaws_pkg_doh_b1.FnIsAlphanumericCountsUpTo", spec := "fnIsAlphanumericCountsUpTo", apart := false }
def FnIsAlphanumericCountsUpToSaid : Prop := fnIsAlphanumericCountsUpToRow.holds Try.pinned (OpenSpec.ofChange fnIsAlphanumericCountsUpToSpec)

/-- ITS FALSE NEIGHBOUR: 'it returns false'. Refute it at one input. -/
def fnIsAlphanumericCountsUpToWrong : ChangeSpec := { name := "fnIsAlphanumericCountsUpTo", fn := fun _ => fun
  | [d] => { results := [.lit (.bool false)], args := [d] }
  | _ => none }
def FnIsAlphanumericCountsUpToWrongFalsely : Prop := fnIsAlphanumericCountsUpToRow.holds Try.pinned (OpenSpec.ofChange fnIsAlphanumericCountsUpToWrong)

/-- 'zzlaws_pkg_doh_b1.FnIsAlphanumericChangesOnlyAtSixEdges': WHATEVER THE INPUT: true; the input reads as it did. -/
def fnIsAlphanumericChangesOnlyAtSixEdgesSpec : ChangeSpec := { name := "fnIsAlphanumericChangesOnlyAtSixEdges", fn := fun _ => fun
  | [d] => { results := [.lit (.bool true)], args := [d] }
  | _ => none }
def fnIsAlphanumericChangesOnlyAtSixEdgesRow : OpenClaim := { program := "qxb6618867a", sum := "2d475dce9d9107b864aa9d1c45a3ed325fc01e70d9e322722f54faca073c875f", func := "example.com/quietdig/quietdig/zzlaws_pkg_doh_b1.FnIsAlphanumericChangesOnlyAtSixEdges", spec := "fnIsAlphanumericChangesOnlyAtSixEdges", apart := false }
def FnIsAlphanumericChangesOnlyAtSixEdgesSaid : Prop := fnIsAlphanumericChangesOnlyAtSixEdgesRow.holds Try.pinned (OpenSpec.ofChange fnIsAlphanumericChangesOnlyAtSixEdgesSpec)

/-- ITS FALSE NEIGHBOUR: 'it returns false'. Refute it at one input. -/
def fnIsAlphanumericChangesOnlyAtSixEdgesWrong : ChangeSpec := { name := "fnIsAlphanumericChangesOnlyAtSixEdges", fn := fun _ => fun
  | [d] => { results := [.lit (.bool false)], args := [d] }
  | _ => none }
def FnIsAlphanumericChangesOnlyAtSixEdgesWrongFalsely : Prop := fnIsAlphanumericChangesOnlyAtSixEdgesRow.holds Try.pinned (OpenSpec.ofChange fnIsAlphanumericChangesOnlyAtSixEdgesWrong)

end Rows
end Go.Proofs.Qxb6618867a

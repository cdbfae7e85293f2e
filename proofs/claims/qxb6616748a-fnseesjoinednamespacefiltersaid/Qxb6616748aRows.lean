/-
  No cell of these rows narrows 'for every input' (looked for: loops, veiled, ifaces, maps, wideKeys, modest, calm, conditions, laid).
  DERIVED. THE GIVEN ROWS OF THIS SEAT. 1 by the template 'for every input the law returns true; each argument reads behind the call as it read before'; 0 by the template 'total and deterministic' (their statements: Qxb6616748aTotals.lean).
  GIVEN WITH THE SEED: the statements are not yours to turn. If you find one false, say at which input.
  Laid BY PROGRAM, IN A SANDBOX (cutbox-rows.mjs): the forced cells as the released guide's own fill.sh prints them over the translation 69297cb585d9ff60… (all of the seat's roots in one cut). By AI agents, Wed Nov 11 2026. No macro, syntax, notation, axiom, sorry.
-/
import Derived.Test.Qxb6616748aChecked
import GoSem.Claim
import GoSem.ClaimJoined
import GoSem.ClaimMapViews
import Derived.JoinedTies
import Derived.KernelRfl
namespace Go.Proofs.Qxb6616748a
/- THE CELL 'sum', in the pinned program and in every row, IS THE sha256 OF THE DUMP (.gsa) THAT Qxb6616748aProg.lean LOADS. Nothing in Lean hashes anything: it is a label: what it is worth is what the hold of that sum in a sandbox is worth. -/
noncomputable def Try.pinned : Pinned := { name := "qxb6616748a", sum := "69297cb585d9ff60ff3d2c7c0375b4e18f48169d219fff8455146594f6896d90", checked := Try.checked }
namespace Rows
def none {H : Type} : Left H := { results := [], args := [] }

/-- 'zzlaws_internal_standin_b1.FnSeesJoinedNamespaceFilter': WHATEVER THE INPUT: true; the input reads as it did. -/
def fnSeesJoinedNamespaceFilterSpec : ChangeSpec := { name := "fnSeesJoinedNamespaceFilter", fn := fun _ => fun
  | [d1, d2, d3, d4, d5, d6, d7, d8] => { results := [.lit (.bool true)], args := [d1, d2, d3, d4, d5, d6, d7, d8] }
  | _ => none }
def fnSeesJoinedNamespaceFilterRow : OpenClaim := { program := "qxb6616748a", sum := "69297cb585d9ff60ff3d2c7c0375b4e18f48169d219fff8455146594f6896d90", func := "example.com/wideacre/wideacre/zzlaws_internal_standin_b1.FnSeesJoinedNamespaceFilter", spec := "fnSeesJoinedNamespaceFilter", unfollowed := true, recurses := true, apart := false }
def FnSeesJoinedNamespaceFilterSaid : Prop := fnSeesJoinedNamespaceFilterRow.holds Try.pinned (OpenSpec.ofChange fnSeesJoinedNamespaceFilterSpec)

/-- ITS FALSE NEIGHBOUR: 'it returns false'. Refute it at one input. -/
def fnSeesJoinedNamespaceFilterWrong : ChangeSpec := { name := "fnSeesJoinedNamespaceFilter", fn := fun _ => fun
  | [d1, d2, d3, d4, d5, d6, d7, d8] => { results := [.lit (.bool false)], args := [d1, d2, d3, d4, d5, d6, d7, d8] }
  | _ => none }
def FnSeesJoinedNamespaceFilterWrongFalsely : Prop := fnSeesJoinedNamespaceFilterRow.holds Try.pinned (OpenSpec.ofChange fnSeesJoinedNamespaceFilterWrong)

end Rows
end Go.Proofs.Qxb6616748a

/-
  No cell of these rows narrows 'for every input' (looked for: loops, veiled, ifaces, maps, wideKeys, modest, calm, conditions, laid).
  DERIVED. THE GIVEN ROWS OF THIS SEAT. 1 by the template 'for every input the law returns true; each argument reads behind the call as it read before'; 0 by the template 'total and deterministic' (their statements: Qxb6616607aFmtTotals.lean).
  GIVEN WITH THE SEED: the statements are not yours to turn. If you find one false, say at which input.
  Laid BY PROGRAM, IN A SANDBOX (cutbox-rows.mjs): the forced cells as the released guide's own fill.sh prints them over the translation 83a7ea79de46d9dc… (all of the seat's roots in one cut). By AI agents, Wed Nov 11 2026. No macro, syntax, notation, axiom, sorry.
-/
import Derived.Test.Qxb6616607aFmtChecked
import GoSem.Claim
import GoSem.ClaimJoined
import GoSem.ClaimMapViews
import Derived.JoinedTies
import Derived.KernelRfl
namespace Go.Proofs.Qxb6616607aFmt
/- THE CELL 'sum', in the pinned program and in every row, IS THE sha256 OF THE DUMP (.gsa) THAT Qxb6616607aFmtProg.lean LOADS. Nothing in Lean hashes anything: it is a label: what it is worth is what the hold of that sum in a sandbox is worth. -/
noncomputable def Tryf.pinned : Pinned := { name := "qxb6616607afmt", sum := "83a7ea79de46d9dc31d523e93383b341f009506827b6734ff5356f36b5448a88", checked := Tryf.checked }
namespace Rows
def none {H : Type} : Left H := { results := [], args := [] }

/-- 'zzlaws_plan_b1.FnNumberedTellsKeyAndNumberApart': WHATEVER THE INPUT: true; the input reads as it did. -/
def fnNumberedTellsKeyAndNumberApartSpec : ChangeSpec := { name := "fnNumberedTellsKeyAndNumberApart", fn := fun _ => fun
  | [d1, d2, d3, d4] => { results := [.lit (.bool true)], args := [d1, d2, d3, d4] }
  | _ => none }
def fnNumberedTellsKeyAndNumberApartRow : OpenClaim := { program := "qxb6616607afmt", sum := "83a7ea79de46d9dc31d523e93383b341f009506827b6734ff5356f36b5448a88", func := "example.com/vestwright/vestwright/zzlaws_plan_b1.FnNumberedTellsKeyAndNumberApart", spec := "fnNumberedTellsKeyAndNumberApart", stops := ["fmt.Sprintf"], inPlace := ["fmt.Sprintf"], apart := false }
/-- NO THEOREM (fmt's text is open here; it may be false): for the released tool's asking of the row's closed facts alone. THE STATEMENT IS 'FnNumberedTellsKeyAndNumberApartToldSaid' (Qxb6616607aFmtCards.lean). -/
def FnNumberedTellsKeyAndNumberApartFormAsk : Prop := fnNumberedTellsKeyAndNumberApartRow.holds Tryf.pinned (OpenSpec.ofChange fnNumberedTellsKeyAndNumberApartSpec)

/-- ITS FALSE NEIGHBOUR: 'it returns false'. Refute it at one input. -/
def fnNumberedTellsKeyAndNumberApartWrong : ChangeSpec := { name := "fnNumberedTellsKeyAndNumberApart", fn := fun _ => fun
  | [d1, d2, d3, d4] => { results := [.lit (.bool false)], args := [d1, d2, d3, d4] }
  | _ => none }
def FnNumberedTellsKeyAndNumberApartWrongFormAsk : Prop := fnNumberedTellsKeyAndNumberApartRow.holds Tryf.pinned (OpenSpec.ofChange fnNumberedTellsKeyAndNumberApartWrong)

end Rows
end Go.Proofs.Qxb6616607aFmt

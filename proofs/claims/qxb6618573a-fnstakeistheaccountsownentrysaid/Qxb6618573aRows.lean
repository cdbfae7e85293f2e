/-
  No cell of these rows narrows 'for every input' (looked for: loops, veiled, ifaces, maps, wideKeys, modest, calm, conditions, laid).
  DERIVED. THE GIVEN ROWS OF THIS SEAT. 3 by the template 'for every input the law returns true; each argument reads behind the call as it read before'; 0 by the template 'total and deterministic' (their statements: Qxb6618573aTotals.lean).
  GIVEN WITH THE SEED: the statements are not yours to turn. If you find one false, say at which input.
  Laid BY PROGRAM, IN A SANDBOX (cutbox-rows.mjs): the forced cells as the released guide's own fill.sh prints them over the translation f3b3b6964678b139… (all of the seat's roots in one cut). By AI agents, Wed Nov 11 2026. No macro, syntax, notation, axiom, sorry.
-/
import Derived.Test.Qxb6618573aChecked
import GoSem.Claim
import GoSem.ClaimJoined
import GoSem.ClaimMapViews
import Derived.JoinedTies
import Derived.KernelRfl
namespace Go.Proofs.Qxb6618573a
/- THE CELL 'sum', in the pinned program and in every row, IS THE sha256 OF THE DUMP (.gsa) THAT Qxb6618573aProg.lean LOADS. Nothing in Lean hashes anything: it is a label: what it is worth is what the hold of that sum in a sandbox is worth. -/
noncomputable def Try.pinned : Pinned := { name := "qxb6618573a", sum := "f3b3b6964678b1399f3c67390d17d1ba4cd7b51ff3f3de6ed079f18ea786d713", checked := Try.checked }
namespace Rows
def none {H : Type} : Left H := { results := [], args := [] }

/-- 'zzlaws_internal_ledger_b1.FnStakeFindsAnEntryPutInAtAnyPlace': WHATEVER THE INPUT: true; the input reads as it did. -/
def fnStakeFindsAnEntryPutInAtAnyPlaceSpec : ChangeSpec := { name := "fnStakeFindsAnEntryPutInAtAnyPlace", fn := fun _ => fun
  | [d1, d2, d3, d4, d5] => { results := [.lit (.bool true)], args := [d1, d2, d3, d4, d5] }
  | _ => none }
def fnStakeFindsAnEntryPutInAtAnyPlaceRow : OpenClaim := { program := "qxb6618573a", sum := "f3b3b6964678b1399f3c67390d17d1ba4cd7b51ff3f3de6ed079f18ea786d713", func := "example.com/vestledger/vestledger/zzlaws_internal_ledger_b1.FnStakeFindsAnEntryPutInAtAnyPlace", spec := "fnStakeFindsAnEntryPutInAtAnyPlace", unfollowed := true, recurses := true, plainKeys := false, apart := false }
def FnStakeFindsAnEntryPutInAtAnyPlaceSaid : Prop := fnStakeFindsAnEntryPutInAtAnyPlaceRow.holds Try.pinned (OpenSpec.ofChange fnStakeFindsAnEntryPutInAtAnyPlaceSpec)

/-- ITS FALSE NEIGHBOUR: 'it returns false'. Refute it at one input. -/
def fnStakeFindsAnEntryPutInAtAnyPlaceWrong : ChangeSpec := { name := "fnStakeFindsAnEntryPutInAtAnyPlace", fn := fun _ => fun
  | [d1, d2, d3, d4, d5] => { results := [.lit (.bool false)], args := [d1, d2, d3, d4, d5] }
  | _ => none }
def FnStakeFindsAnEntryPutInAtAnyPlaceWrongFalsely : Prop := fnStakeFindsAnEntryPutInAtAnyPlaceRow.holds Try.pinned (OpenSpec.ofChange fnStakeFindsAnEntryPutInAtAnyPlaceWrong)

/-- 'zzlaws_internal_ledger_b1.FnStakeIsTheAccountsOwnEntry': WHATEVER THE INPUT: true; the input reads as it did. -/
def fnStakeIsTheAccountsOwnEntrySpec : ChangeSpec := { name := "fnStakeIsTheAccountsOwnEntry", fn := fun _ => fun
  | [d1, d2, d3] => { results := [.lit (.bool true)], args := [d1, d2, d3] }
  | _ => none }
def fnStakeIsTheAccountsOwnEntryRow : OpenClaim := { program := "qxb6618573a", sum := "f3b3b6964678b1399f3c67390d17d1ba4cd7b51ff3f3de6ed079f18ea786d713", func := "example.com/vestledger/vestledger/zzlaws_internal_ledger_b1.FnStakeIsTheAccountsOwnEntry", spec := "fnStakeIsTheAccountsOwnEntry", unfollowed := true, recurses := true, plainKeys := false, apart := false }
def FnStakeIsTheAccountsOwnEntrySaid : Prop := fnStakeIsTheAccountsOwnEntryRow.holds Try.pinned (OpenSpec.ofChange fnStakeIsTheAccountsOwnEntrySpec)

/-- ITS FALSE NEIGHBOUR: 'it returns false'. Refute it at one input. -/
def fnStakeIsTheAccountsOwnEntryWrong : ChangeSpec := { name := "fnStakeIsTheAccountsOwnEntry", fn := fun _ => fun
  | [d1, d2, d3] => { results := [.lit (.bool false)], args := [d1, d2, d3] }
  | _ => none }
def FnStakeIsTheAccountsOwnEntryWrongFalsely : Prop := fnStakeIsTheAccountsOwnEntryRow.holds Try.pinned (OpenSpec.ofChange fnStakeIsTheAccountsOwnEntryWrong)

/-- 'zzlaws_internal_ledger_b1.FnGrantedSharesAddsOverAnyCut': WHATEVER THE INPUT: true; the input reads as it did. -/
def fnGrantedSharesAddsOverAnyCutSpec : ChangeSpec := { name := "fnGrantedSharesAddsOverAnyCut", fn := fun _ => fun
  | [d1, d2, d3, d4] => { results := [.lit (.bool true)], args := [d1, d2, d3, d4] }
  | _ => none }
def fnGrantedSharesAddsOverAnyCutRow : OpenClaim := { program := "qxb6618573a", sum := "f3b3b6964678b1399f3c67390d17d1ba4cd7b51ff3f3de6ed079f18ea786d713", func := "example.com/vestledger/vestledger/zzlaws_internal_ledger_b1.FnGrantedSharesAddsOverAnyCut", spec := "fnGrantedSharesAddsOverAnyCut", plainKeys := false, apart := false }
def FnGrantedSharesAddsOverAnyCutSaid : Prop := fnGrantedSharesAddsOverAnyCutRow.holds Try.pinned (OpenSpec.ofChange fnGrantedSharesAddsOverAnyCutSpec)

/-- ITS FALSE NEIGHBOUR: 'it returns false'. Refute it at one input. -/
def fnGrantedSharesAddsOverAnyCutWrong : ChangeSpec := { name := "fnGrantedSharesAddsOverAnyCut", fn := fun _ => fun
  | [d1, d2, d3, d4] => { results := [.lit (.bool false)], args := [d1, d2, d3, d4] }
  | _ => none }
def FnGrantedSharesAddsOverAnyCutWrongFalsely : Prop := fnGrantedSharesAddsOverAnyCutRow.holds Try.pinned (OpenSpec.ofChange fnGrantedSharesAddsOverAnyCutWrong)

end Rows
end Go.Proofs.Qxb6618573a

/-
  DERIVED. GIVEN WITH THE SEED: THE CARDS: each row of Qxb6616607aFmtRows.lean that lists a variable, with what it lists TIED to the program's text (the seventh form; the later family's looks); each row that meets fmt, with fmt's text TOLD by the authors' own Lean function (tested against real Go, not proved from fmt's source: count such statements apart). THE CARD IS WHAT COUNTS. Prove the row's statement (the work); the ties are given (Qxb6616607aFmtTie.lean); close each card by the builder's one call (the guide's Derived/Test/ToyasCard.lean, 'card_holds'). Laid BY PROGRAM, IN A SANDBOX (cutbox-door.mjs). By AI agents, Wed Nov 11 2026. No macro, syntax, notation, axiom, sorry.
-/
import Derived.Test.Qxb6616607aFmtRows
import GoSem.ClaimSeven
namespace Go.Proofs.Qxb6616607aFmt
namespace Rows

/-- THE TOLD CARD OF 'zzlaws_plan_b1.FnNumberedTellsKeyAndNumberApart'. -/
def fnNumberedTellsKeyAndNumberApartCard : Claim7 := { stood := { row := fnNumberedTellsKeyAndNumberApartRow, standIns := [], harness := (true, "401e0f77521e4b59094b7a068343cc5adf2b4e30e27111b5e5ecef95fb000ddc"), looks := false }, told := true, goes := false }
def FnNumberedTellsKeyAndNumberApartToldSaid : Prop := Claim7.holds Tryf.pinned (.plain (OpenSpec.ofChange fnNumberedTellsKeyAndNumberApartSpec)) fnNumberedTellsKeyAndNumberApartCard
/-- ITS FALSE NEIGHBOUR. Refute it at one input. -/
def FnNumberedTellsKeyAndNumberApartToldWrongFalsely : Prop := Claim7.holds Tryf.pinned (.plain (OpenSpec.ofChange fnNumberedTellsKeyAndNumberApartWrong)) fnNumberedTellsKeyAndNumberApartCard
end Rows
end Go.Proofs.Qxb6616607aFmt

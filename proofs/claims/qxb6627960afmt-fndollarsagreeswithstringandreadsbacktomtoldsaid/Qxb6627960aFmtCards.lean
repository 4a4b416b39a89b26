/-
  DERIVED. GIVEN WITH THE SEED: THE CARDS: each row of Qxb6627960aFmtRows.lean that lists a variable, with what it lists TIED to the program's text (the seventh form; the later family's looks); each row that meets fmt, with fmt's text TOLD by the authors' own Lean function (tested against real Go, not proved from fmt's source: count such statements apart). THE CARD IS WHAT COUNTS. Prove the row's statement (the work); the ties are given (Qxb6627960aFmtTie.lean); close each card by the builder's one call (the guide's Derived/Test/ToyasCard.lean, 'card_holds'). Laid BY PROGRAM, IN A SANDBOX (cutbox-door.mjs). By AI agents, Wed Nov 11 2026. No macro, syntax, notation, axiom, sorry.
-/
import Derived.Test.Qxb6627960aFmtRows
import GoSem.ClaimSeven
namespace Go.Proofs.Qxb6627960aFmt
namespace Rows

/-- THE TOLD AND TIED CARD OF 'zzlaws_internal_money_b1.FnDollarsAgreesWithStringAndReadsBackToM'. -/
def fnDollarsAgreesWithStringAndReadsBackToMCard : Claim7 := { stood := { row := fnDollarsAgreesWithStringAndReadsBackToMRow, standIns := [], harness := (true, "065e30e4f37e372f5c509fd21f407e7e4ccbd2b8d4628a086fc60fb661c9a66d"), looks := false }, told := true, laidByText := true, laidKinds := [.data, .data, .data], laidTests := true, laidLooks := .later, goes := false }
def FnDollarsAgreesWithStringAndReadsBackToMToldSaid : Prop := Claim7.holds Tryf.pinned (.plain (OpenSpec.ofChange fnDollarsAgreesWithStringAndReadsBackToMSpec)) fnDollarsAgreesWithStringAndReadsBackToMCard
/-- ITS FALSE NEIGHBOUR. Refute it at one input. -/
def FnDollarsAgreesWithStringAndReadsBackToMToldWrongFalsely : Prop := Claim7.holds Tryf.pinned (.plain (OpenSpec.ofChange fnDollarsAgreesWithStringAndReadsBackToMWrong)) fnDollarsAgreesWithStringAndReadsBackToMCard

/-- THE TOLD CARD OF 'zzlaws_internal_money_b1.FnDollarsOfNegationAddsMinusAndLengthCountsWholeDollars'. -/
def fnDollarsOfNegationAddsMinusAndLengthCountsWholeDollarsCard : Claim7 := { stood := { row := fnDollarsOfNegationAddsMinusAndLengthCountsWholeDollarsRow, standIns := [], harness := (true, "065e30e4f37e372f5c509fd21f407e7e4ccbd2b8d4628a086fc60fb661c9a66d"), looks := false }, told := true, goes := false }
def FnDollarsOfNegationAddsMinusAndLengthCountsWholeDollarsToldSaid : Prop := Claim7.holds Tryf.pinned (.plain (OpenSpec.ofChange fnDollarsOfNegationAddsMinusAndLengthCountsWholeDollarsSpec)) fnDollarsOfNegationAddsMinusAndLengthCountsWholeDollarsCard
/-- ITS FALSE NEIGHBOUR. Refute it at one input. -/
def FnDollarsOfNegationAddsMinusAndLengthCountsWholeDollarsToldWrongFalsely : Prop := Claim7.holds Tryf.pinned (.plain (OpenSpec.ofChange fnDollarsOfNegationAddsMinusAndLengthCountsWholeDollarsWrong)) fnDollarsOfNegationAddsMinusAndLengthCountsWholeDollarsCard
end Rows
end Go.Proofs.Qxb6627960aFmt

/-
  DERIVED. GIVEN WITH THE SEED: THE CARDS: each row of Qxb6616648aFmtRows.lean that lists a variable, with what it lists TIED to the program's text (the seventh form; the later family's looks); each row that meets fmt, with fmt's text TOLD by the authors' own Lean function (tested against real Go, not proved from fmt's source: count such statements apart). THE CARD IS WHAT COUNTS. Prove the row's statement (the work); the ties are given (Qxb6616648aFmtTie.lean); close each card by the builder's one call (the guide's Derived/Test/ToyasCard.lean, 'card_holds'). Laid BY PROGRAM, IN A SANDBOX (cutbox-door.mjs). By AI agents, Wed Nov 11 2026. No macro, syntax, notation, axiom, sorry.
-/
import Derived.Test.Qxb6616648aFmtRows
import GoSem.ClaimSeven
namespace Go.Proofs.Qxb6616648aFmt
namespace Rows

/-- THE TOLD CARD OF 'zzlaws_internal_chunk_b1.FnBoundColumnAppendsADigit'. -/
def fnBoundColumnAppendsADigitCard : Claim7 := { stood := { row := fnBoundColumnAppendsADigitRow, standIns := [], harness := (true, "0cb4112ffd7eef0e9a456dde5c8050219c84534eeb78be035e1ff96c68302660"), looks := false }, told := true, goes := false }
def FnBoundColumnAppendsADigitToldSaid : Prop := Claim7.holds Tryf.pinned (.plain (OpenSpec.ofChange fnBoundColumnAppendsADigitSpec)) fnBoundColumnAppendsADigitCard
/-- ITS FALSE NEIGHBOUR. Refute it at one input. -/
def FnBoundColumnAppendsADigitToldWrongFalsely : Prop := Claim7.holds Tryf.pinned (.plain (OpenSpec.ofChange fnBoundColumnAppendsADigitWrong)) fnBoundColumnAppendsADigitCard

/-- THE TOLD CARD OF 'zzlaws_internal_chunk_b1.FnBoundColumnNegationAddsAMinus'. -/
def fnBoundColumnNegationAddsAMinusCard : Claim7 := { stood := { row := fnBoundColumnNegationAddsAMinusRow, standIns := [], harness := (true, "0cb4112ffd7eef0e9a456dde5c8050219c84534eeb78be035e1ff96c68302660"), looks := false }, told := true, goes := false }
def FnBoundColumnNegationAddsAMinusToldSaid : Prop := Claim7.holds Tryf.pinned (.plain (OpenSpec.ofChange fnBoundColumnNegationAddsAMinusSpec)) fnBoundColumnNegationAddsAMinusCard
/-- ITS FALSE NEIGHBOUR. Refute it at one input. -/
def FnBoundColumnNegationAddsAMinusToldWrongFalsely : Prop := Claim7.holds Tryf.pinned (.plain (OpenSpec.ofChange fnBoundColumnNegationAddsAMinusWrong)) fnBoundColumnNegationAddsAMinusCard
end Rows
end Go.Proofs.Qxb6616648aFmt

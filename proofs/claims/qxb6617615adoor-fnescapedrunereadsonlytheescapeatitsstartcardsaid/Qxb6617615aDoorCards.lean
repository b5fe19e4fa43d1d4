/-
  DERIVED. GIVEN WITH THE SEED: THE CARDS: each row of Qxb6617615aDoorRows.lean that lists a variable, with what it lists TIED to the program's text (the seventh form; the later family's looks); each row that meets fmt, with fmt's text TOLD by the authors' own Lean function (tested against real Go, not proved from fmt's source: count such statements apart). THE CARD IS WHAT COUNTS. Prove the row's statement (the work); the ties are given (Qxb6617615aDoorTie.lean); close each card by the builder's one call (the guide's Derived/Test/ToyasCard.lean, 'card_holds'). Laid BY PROGRAM, IN A SANDBOX (cutbox-door.mjs). By AI agents, Wed Nov 11 2026. No macro, syntax, notation, axiom, sorry.
-/
import Derived.Test.Qxb6617615aDoorRows
import GoSem.ClaimSeven
namespace Go.Proofs.Qxb6617615aDoor
namespace Rows

/-- THE TIED CARD OF 'zzlaws_pkg_pinning_b1.FnEscapedRuneReadsOnlyTheEscapeAtItsStart'. -/
def fnEscapedRuneReadsOnlyTheEscapeAtItsStartCard : Claim7 := { stood := { row := fnEscapedRuneReadsOnlyTheEscapeAtItsStartRow, standIns := [], harness := (true, "63bbc3edb3f785299e2d58f0a4f990e81ee0e9b9e049b9f6316d2f9314ae98c8"), looks := true }, kinds := [], alts := [], laidByText := true, laidKinds := [.data, .data, .data, .sentinel, .sentinel], laidTests := true, laidLooks := .later }
def FnEscapedRuneReadsOnlyTheEscapeAtItsStartCardSaid : Prop := Claim7.holds Tryd.pinned (.plain (OpenSpec.ofChange fnEscapedRuneReadsOnlyTheEscapeAtItsStartSpec)) fnEscapedRuneReadsOnlyTheEscapeAtItsStartCard
end Rows
end Go.Proofs.Qxb6617615aDoor

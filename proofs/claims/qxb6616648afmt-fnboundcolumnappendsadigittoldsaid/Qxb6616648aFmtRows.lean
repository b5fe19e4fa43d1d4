/-
  No cell of these rows narrows 'for every input' (looked for: loops, veiled, ifaces, maps, wideKeys, modest, calm, conditions, laid).
  DERIVED. THE GIVEN ROWS OF THIS SEAT. 2 by the template 'for every input the law returns true; each argument reads behind the call as it read before'; 0 by the template 'total and deterministic' (their statements: Qxb6616648aFmtTotals.lean).
  GIVEN WITH THE SEED: the statements are not yours to turn. If you find one false, say at which input.
  Laid BY PROGRAM, IN A SANDBOX (cutbox-rows.mjs): the forced cells as the released guide's own fill.sh prints them over the translation 6d32beed7e867b15… (all of the seat's roots in one cut). By AI agents, Wed Nov 11 2026. No macro, syntax, notation, axiom, sorry.
-/
import Derived.Test.Qxb6616648aFmtChecked
import GoSem.Claim
import GoSem.ClaimJoined
import GoSem.ClaimMapViews
import Derived.JoinedTies
import Derived.KernelRfl
namespace Go.Proofs.Qxb6616648aFmt
/- THE CELL 'sum', in the pinned program and in every row, IS THE sha256 OF THE DUMP (.gsa) THAT Qxb6616648aFmtProg.lean LOADS. Nothing in Lean hashes anything: it is a label: what it is worth is what the hold of that sum in a sandbox is worth. -/
noncomputable def Tryf.pinned : Pinned := { name := "qxb6616648afmt", sum := "6d32beed7e867b154e961fe031516aaa9d18e5f34a2478b71c6775ea1e259a89", checked := Tryf.checked }
namespace Rows
def none {H : Type} : Left H := { results := [], args := [] }

/-- 'zzlaws_internal_chunk_b1.FnBoundColumnAppendsADigit': WHATEVER THE INPUT: true; the input reads as it did. -/
def fnBoundColumnAppendsADigitSpec : ChangeSpec := { name := "fnBoundColumnAppendsADigit", fn := fun _ => fun
  | [d1, d2] => { results := [.lit (.bool true)], args := [d1, d2] }
  | _ => none }
def fnBoundColumnAppendsADigitRow : OpenClaim := { program := "qxb6616648afmt", sum := "6d32beed7e867b154e961fe031516aaa9d18e5f34a2478b71c6775ea1e259a89", func := "example.com/crossfade/crossfade/zzlaws_internal_chunk_b1.FnBoundColumnAppendsADigit", spec := "fnBoundColumnAppendsADigit", stops := ["fmt.Sprintf"], inPlace := ["fmt.Sprintf"], apart := false }
/-- NO THEOREM (fmt's text is open here; it may be false): for the released tool's asking of the row's closed facts alone. THE STATEMENT IS 'FnBoundColumnAppendsADigitToldSaid' (Qxb6616648aFmtCards.lean). -/
def FnBoundColumnAppendsADigitFormAsk : Prop := fnBoundColumnAppendsADigitRow.holds Tryf.pinned (OpenSpec.ofChange fnBoundColumnAppendsADigitSpec)

/-- ITS FALSE NEIGHBOUR: 'it returns false'. Refute it at one input. -/
def fnBoundColumnAppendsADigitWrong : ChangeSpec := { name := "fnBoundColumnAppendsADigit", fn := fun _ => fun
  | [d1, d2] => { results := [.lit (.bool false)], args := [d1, d2] }
  | _ => none }
def FnBoundColumnAppendsADigitWrongFormAsk : Prop := fnBoundColumnAppendsADigitRow.holds Tryf.pinned (OpenSpec.ofChange fnBoundColumnAppendsADigitWrong)

/-- 'zzlaws_internal_chunk_b1.FnBoundColumnNegationAddsAMinus': WHATEVER THE INPUT: true; the input reads as it did. -/
def fnBoundColumnNegationAddsAMinusSpec : ChangeSpec := { name := "fnBoundColumnNegationAddsAMinus", fn := fun _ => fun
  | [d] => { results := [.lit (.bool true)], args := [d] }
  | _ => none }
def fnBoundColumnNegationAddsAMinusRow : OpenClaim := { program := "qxb6616648afmt", sum := "6d32beed7e867b154e961fe031516aaa9d18e5f34a2478b71c6775ea1e259a89", func := "example.com/crossfade/crossfade/zzlaws_internal_chunk_b1.FnBoundColumnNegationAddsAMinus", spec := "fnBoundColumnNegationAddsAMinus", stops := ["fmt.Sprintf"], inPlace := ["fmt.Sprintf"], apart := false }
/-- NO THEOREM (fmt's text is open here; it may be false): for the released tool's asking of the row's closed facts alone. THE STATEMENT IS 'FnBoundColumnNegationAddsAMinusToldSaid' (Qxb6616648aFmtCards.lean). -/
def FnBoundColumnNegationAddsAMinusFormAsk : Prop := fnBoundColumnNegationAddsAMinusRow.holds Tryf.pinned (OpenSpec.ofChange fnBoundColumnNegationAddsAMinusSpec)

/-- ITS FALSE NEIGHBOUR: 'it returns false'. Refute it at one input. -/
def fnBoundColumnNegationAddsAMinusWrong : ChangeSpec := { name := "fnBoundColumnNegationAddsAMinus", fn := fun _ => fun
  | [d] => { results := [.lit (.bool false)], args := [d] }
  | _ => none }
def FnBoundColumnNegationAddsAMinusWrongFormAsk : Prop := fnBoundColumnNegationAddsAMinusRow.holds Tryf.pinned (OpenSpec.ofChange fnBoundColumnNegationAddsAMinusWrong)

end Rows
end Go.Proofs.Qxb6616648aFmt

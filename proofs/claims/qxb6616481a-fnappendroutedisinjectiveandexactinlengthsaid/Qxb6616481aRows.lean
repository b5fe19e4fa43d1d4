/-
  No cell of these rows narrows 'for every input' (looked for: loops, veiled, ifaces, maps, wideKeys, modest, calm, conditions, laid).
  DERIVED. THE GIVEN ROWS OF THIS SEAT. 3 by the template 'for every input the law returns true; each argument reads behind the call as it read before'; 0 by the template 'total and deterministic' (their statements: Qxb6616481aTotals.lean).
  GIVEN WITH THE SEED: the statements are not yours to turn. If you find one false, say at which input.
  Laid BY PROGRAM, IN A SANDBOX (cutbox-rows.mjs): the forced cells as the released guide's own fill.sh prints them over the translation 01736b81d8d03ffa… (all of the seat's roots in one cut). By AI agents, Wed Nov 11 2026. No macro, syntax, notation, axiom, sorry.
-/
import Derived.Test.Qxb6616481aChecked
import GoSem.Claim
import GoSem.ClaimJoined
import GoSem.ClaimMapViews
import Derived.JoinedTies
import Derived.KernelRfl
namespace Go.Proofs.Qxb6616481a
/- THE CELL 'sum', in the pinned program and in every row, IS THE sha256 OF THE DUMP (.gsa) THAT Qxb6616481aProg.lean LOADS. Nothing in Lean hashes anything: it is a label: what it is worth is what the hold of that sum in a sandbox is worth. -/
noncomputable def Try.pinned : Pinned := { name := "qxb6616481a", sum := "01736b81d8d03ffa743d6f8a463b30700186c924e270f14d7b5fcc5d0b28b5f2", checked := Try.checked }
namespace Rows
def none {H : Type} : Left H := { results := [], args := [] }

/-- 'zzlaws_pkg_wire_b1.FnEndSignedInjectiveAndNeverASourceSigned': WHATEVER THE INPUT: true; the input reads as it did. -/
def fnEndSignedInjectiveAndNeverASourceSignedSpec : ChangeSpec := { name := "fnEndSignedInjectiveAndNeverASourceSigned", fn := fun _ => fun
  | [d1, d2, d3, d4, d5, d6] => { results := [.lit (.bool true)], args := [d1, d2, d3, d4, d5, d6] }
  | _ => none }
def fnEndSignedInjectiveAndNeverASourceSignedRow : OpenClaim := { program := "qxb6616481a", sum := "01736b81d8d03ffa743d6f8a463b30700186c924e270f14d7b5fcc5d0b28b5f2", func := "example.com/keyline/keyline/zzlaws_pkg_wire_b1.FnEndSignedInjectiveAndNeverASourceSigned", spec := "fnEndSignedInjectiveAndNeverASourceSigned", named := ["encoding/binary.BigEndian"], apart := false }
def FnEndSignedInjectiveAndNeverASourceSignedSaid : Prop := fnEndSignedInjectiveAndNeverASourceSignedRow.holds Try.pinned (OpenSpec.ofChange fnEndSignedInjectiveAndNeverASourceSignedSpec)

/-- ITS FALSE NEIGHBOUR: 'it returns false'. Refute it at one input. -/
def fnEndSignedInjectiveAndNeverASourceSignedWrong : ChangeSpec := { name := "fnEndSignedInjectiveAndNeverASourceSigned", fn := fun _ => fun
  | [d1, d2, d3, d4, d5, d6] => { results := [.lit (.bool false)], args := [d1, d2, d3, d4, d5, d6] }
  | _ => none }
def FnEndSignedInjectiveAndNeverASourceSignedWrongFalsely : Prop := fnEndSignedInjectiveAndNeverASourceSignedRow.holds Try.pinned (OpenSpec.ofChange fnEndSignedInjectiveAndNeverASourceSignedWrong)

/-- 'zzlaws_pkg_wire_b1.FnAppendRoutedDecodesToCoordsThenBody': WHATEVER THE INPUT: true; the input reads as it did. -/
def fnAppendRoutedDecodesToCoordsThenBodySpec : ChangeSpec := { name := "fnAppendRoutedDecodesToCoordsThenBody", fn := fun _ => fun
  | [d1, d2, d3] => { results := [.lit (.bool true)], args := [d1, d2, d3] }
  | _ => none }
def fnAppendRoutedDecodesToCoordsThenBodyRow : OpenClaim := { program := "qxb6616481a", sum := "01736b81d8d03ffa743d6f8a463b30700186c924e270f14d7b5fcc5d0b28b5f2", func := "example.com/keyline/keyline/zzlaws_pkg_wire_b1.FnAppendRoutedDecodesToCoordsThenBody", spec := "fnAppendRoutedDecodesToCoordsThenBody", apart := false }
def FnAppendRoutedDecodesToCoordsThenBodySaid : Prop := fnAppendRoutedDecodesToCoordsThenBodyRow.holds Try.pinned (OpenSpec.ofChange fnAppendRoutedDecodesToCoordsThenBodySpec)

/-- ITS FALSE NEIGHBOUR: 'it returns false'. Refute it at one input. -/
def fnAppendRoutedDecodesToCoordsThenBodyWrong : ChangeSpec := { name := "fnAppendRoutedDecodesToCoordsThenBody", fn := fun _ => fun
  | [d1, d2, d3] => { results := [.lit (.bool false)], args := [d1, d2, d3] }
  | _ => none }
def FnAppendRoutedDecodesToCoordsThenBodyWrongFalsely : Prop := fnAppendRoutedDecodesToCoordsThenBodyRow.holds Try.pinned (OpenSpec.ofChange fnAppendRoutedDecodesToCoordsThenBodyWrong)

/-- 'zzlaws_pkg_wire_b1.FnAppendRoutedIsInjectiveAndExactInLength': WHATEVER THE INPUT: true; the input reads as it did. -/
def fnAppendRoutedIsInjectiveAndExactInLengthSpec : ChangeSpec := { name := "fnAppendRoutedIsInjectiveAndExactInLength", fn := fun _ => fun
  | [d1, d2, d3, d4, d5] => { results := [.lit (.bool true)], args := [d1, d2, d3, d4, d5] }
  | _ => none }
def fnAppendRoutedIsInjectiveAndExactInLengthRow : OpenClaim := { program := "qxb6616481a", sum := "01736b81d8d03ffa743d6f8a463b30700186c924e270f14d7b5fcc5d0b28b5f2", func := "example.com/keyline/keyline/zzlaws_pkg_wire_b1.FnAppendRoutedIsInjectiveAndExactInLength", spec := "fnAppendRoutedIsInjectiveAndExactInLength", apart := false }
def FnAppendRoutedIsInjectiveAndExactInLengthSaid : Prop := fnAppendRoutedIsInjectiveAndExactInLengthRow.holds Try.pinned (OpenSpec.ofChange fnAppendRoutedIsInjectiveAndExactInLengthSpec)

/-- ITS FALSE NEIGHBOUR: 'it returns false'. Refute it at one input. -/
def fnAppendRoutedIsInjectiveAndExactInLengthWrong : ChangeSpec := { name := "fnAppendRoutedIsInjectiveAndExactInLength", fn := fun _ => fun
  | [d1, d2, d3, d4, d5] => { results := [.lit (.bool false)], args := [d1, d2, d3, d4, d5] }
  | _ => none }
def FnAppendRoutedIsInjectiveAndExactInLengthWrongFalsely : Prop := fnAppendRoutedIsInjectiveAndExactInLengthRow.holds Try.pinned (OpenSpec.ofChange fnAppendRoutedIsInjectiveAndExactInLengthWrong)

end Rows
end Go.Proofs.Qxb6616481a

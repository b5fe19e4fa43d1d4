/-
  No cell of these rows narrows 'for every input' (looked for: loops, veiled, ifaces, maps, wideKeys, modest, calm, conditions, laid).
  DERIVED. THE GIVEN ROWS OF THIS SEAT. 2 by the template 'for every input the law returns true; each argument reads behind the call as it read before'; 0 by the template 'total and deterministic' (their statements: Qxb6616648aTotals.lean).
  GIVEN WITH THE SEED: the statements are not yours to turn. If you find one false, say at which input.
  Laid BY PROGRAM, IN A SANDBOX (cutbox-rows.mjs): the forced cells as the released guide's own fill.sh prints them over the translation cc764c30b7348e5a… (all of the seat's roots in one cut). By AI agents, Wed Nov 11 2026. No macro, syntax, notation, axiom, sorry.
-/
import Derived.Test.Qxb6616648aChecked
import GoSem.Claim
import GoSem.ClaimJoined
import GoSem.ClaimMapViews
import Derived.JoinedTies
import Derived.KernelRfl
namespace Go.Proofs.Qxb6616648a
/- THE CELL 'sum', in the pinned program and in every row, IS THE sha256 OF THE DUMP (.gsa) THAT Qxb6616648aProg.lean LOADS. Nothing in Lean hashes anything: it is a label: what it is worth is what the hold of that sum in a sandbox is worth. -/
noncomputable def Try.pinned : Pinned := { name := "qxb6616648a", sum := "cc764c30b7348e5ac807e22dd9f2650b2cb00fee301d13fa101dc78eadec4a73", checked := Try.checked }
namespace Rows
def none {H : Type} : Left H := { results := [], args := [] }

/-- 'zzlaws_internal_chunk_b1.FnKeyColumnsSplitsAtAnyCut': WHATEVER THE INPUT: true; the input reads as it did. -/
def fnKeyColumnsSplitsAtAnyCutSpec : ChangeSpec := { name := "fnKeyColumnsSplitsAtAnyCut", fn := fun _ => fun
  | [d1, d2] => { results := [.lit (.bool true)], args := [d1, d2] }
  | _ => none }
def fnKeyColumnsSplitsAtAnyCutRow : OpenClaim := { program := "qxb6616648a", sum := "cc764c30b7348e5ac807e22dd9f2650b2cb00fee301d13fa101dc78eadec4a73", func := "example.com/crossfade/crossfade/zzlaws_internal_chunk_b1.FnKeyColumnsSplitsAtAnyCut", spec := "fnKeyColumnsSplitsAtAnyCut", inPlace := ["internal/abi.NoEscape", "internal/bytealg.MakeNoZero"], apart := false }
def FnKeyColumnsSplitsAtAnyCutSaid : Prop := fnKeyColumnsSplitsAtAnyCutRow.holds Try.pinned (OpenSpec.ofChange fnKeyColumnsSplitsAtAnyCutSpec)

/-- ITS FALSE NEIGHBOUR: 'it returns false'. Refute it at one input. -/
def fnKeyColumnsSplitsAtAnyCutWrong : ChangeSpec := { name := "fnKeyColumnsSplitsAtAnyCut", fn := fun _ => fun
  | [d1, d2] => { results := [.lit (.bool false)], args := [d1, d2] }
  | _ => none }
def FnKeyColumnsSplitsAtAnyCutWrongFalsely : Prop := fnKeyColumnsSplitsAtAnyCutRow.holds Try.pinned (OpenSpec.ofChange fnKeyColumnsSplitsAtAnyCutWrong)

/-- 'zzlaws_internal_chunk_b1.FnKeyColumnsPutOneInAnywhere': WHATEVER THE INPUT: true; the input reads as it did. -/
def fnKeyColumnsPutOneInAnywhereSpec : ChangeSpec := { name := "fnKeyColumnsPutOneInAnywhere", fn := fun _ => fun
  | [d1, d2, d3] => { results := [.lit (.bool true)], args := [d1, d2, d3] }
  | _ => none }
def fnKeyColumnsPutOneInAnywhereRow : OpenClaim := { program := "qxb6616648a", sum := "cc764c30b7348e5ac807e22dd9f2650b2cb00fee301d13fa101dc78eadec4a73", func := "example.com/crossfade/crossfade/zzlaws_internal_chunk_b1.FnKeyColumnsPutOneInAnywhere", spec := "fnKeyColumnsPutOneInAnywhere", inPlace := ["internal/abi.NoEscape", "internal/bytealg.MakeNoZero"], apart := false }
def FnKeyColumnsPutOneInAnywhereSaid : Prop := fnKeyColumnsPutOneInAnywhereRow.holds Try.pinned (OpenSpec.ofChange fnKeyColumnsPutOneInAnywhereSpec)

/-- ITS FALSE NEIGHBOUR: 'it returns false'. Refute it at one input. -/
def fnKeyColumnsPutOneInAnywhereWrong : ChangeSpec := { name := "fnKeyColumnsPutOneInAnywhere", fn := fun _ => fun
  | [d1, d2, d3] => { results := [.lit (.bool false)], args := [d1, d2, d3] }
  | _ => none }
def FnKeyColumnsPutOneInAnywhereWrongFalsely : Prop := fnKeyColumnsPutOneInAnywhereRow.holds Try.pinned (OpenSpec.ofChange fnKeyColumnsPutOneInAnywhereWrong)

end Rows
end Go.Proofs.Qxb6616648a

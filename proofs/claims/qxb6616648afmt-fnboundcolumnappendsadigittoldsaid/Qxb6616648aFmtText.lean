import Derived.Test.Qxb6616648aFmtCards
import Derived.Stop.CallBack
import Derived.Stop.IfaceNil
import Derived.Stop.Texts
import Derived.Stop.JoinedTold
import Derived.Stop.FmtTextKit
import Derived.Stop.FmtTextVerbs
import GoSem.ClaimData
import Derived.WalkKit
import Derived.WalkSpells
import Derived.Below
namespace Go.Proofs.Qxb6616648aFmt
open Go.RowKit Go.Extern.Stop Go.Stop Go.Extern Go.Kit

theorem call9 (args : Array Value) (w : World) : (callFunc 9 args).run Tryf.prog w = ((FmtStop.sprintf #[9, 45] #[9] args).run Tryf.prog w).andThen fun v w' => .ok (.value v) w' :=
  run_callFunc_extern Tryf.func9 (by kernel_rfl) (by kernel_rfl) (by kernel_rfl) (by kernel_rfl) args w
theorem guardF (name : String) (w : World) : (FmtStop.guard name).run Tryf.prog w = .ok () w := by kernel_rfl
theorem fmtK : FmtStop.printed? ⟨#[107, 37, 100]⟩ 1 = some [(0, 100, false)] := by kernel_rfl
theorem fmtKr (w : World) : (FmtDoors.printed ⟨#[107, 37, 100]⟩ 1).run Tryf.prog w = .ok [(0, 100, false)] w := by kernel_rfl
def shape3 : List UInt8 := [5, 3, 0, 0, 0, 0, 0, 0, 0, 105, 110, 116]
theorem op3 (name : String) (x : Int) (w : World) : (FmtStop.operand name false 100 false (.iface 3 (.int .i64 x))).run Tryf.prog w = .ok (shape3, Go.Extern.Stop.digits 8 (x % 2 ^ 64).toNat) w := by kernel_rfl

/-- What fmt is asked. -/
def reading (i : Int) : List (List UInt8) := [[107, 37, 100], shape3, digits 8 (i % 18446744073709551616).toNat]
theorem t_parse : (FmtText.parse [107, 37, 100]).map FmtText.glue = some [.lit [107], .verb {} 100] := by rfl
theorem t_text (i : Int) (hw : (Lit.int .i64 i).wf = true) : FmtText.text "fmt.Sprintf" (reading i) = some (107 :: Lib.itoa i) := by
  have hi := FmtText.operand_int_at (sh := shape3) (k := .i64) rfl rfl i hw
  rw [reading, FmtText.text_sprintf_glued t_parse (FmtText.operands_cons hi FmtText.operands_nil)]
  simp [FmtText.render, FmtText.printArg_d _ _ hw]

/-- The text: k, then the number in decimal. -/
def txt (i : Int) : ByteArray := ⟨(107 :: Lib.itoa i).toArray⟩

theorem told_txt (F : Interp) (i : Int) (hw : (Lit.int .i64 i).wf = true) : FmtStop.textOf (F.told "fmt.Sprintf" (reading i) 0) = txt i := by
  have hl := FmtText.itoa_length_le hw
  have ht := told_string F (t_text i hw) (by simp; omega)
  have h1 := textOf_list F.told "fmt.Sprintf" (reading i)
  rw [ht] at h1
  generalize FmtStop.textOf (F.told "fmt.Sprintf" (reading i) 0) = b at h1
  obtain ⟨d⟩ := b
  simp only at h1
  rw [txt, ← h1]

attribute [local go_sem] call9 guardF fmtK fmtKr op3

set_option maxHeartbeats 400000 in
theorem bound8 (F : Interp) (i : Int) (w : World) (hF : F.told.answers w.tape) (hw : (Lit.int .i64 i).wf = true) :
    Calls Tryf.prog 8 #[.int .i64 i] w fun e w' => e = .returned (.string (txt i)) ∧ Below w.heap.size w w' := by
  have hF' := answers_open hF
  go_enter Tryf.func8, Tryf.ntmps8
  go_wp2
  go_ret
  refine ⟨?_, ?_⟩
  · rw [← told_txt F i hw]
    rfl
  · exact ((Below.refl _ w).alloc (Nat.le_refl _) _).drew

theorem bound5 (F : Interp) (i : Int) (w : World) (hF : F.told.answers w.tape) (hw : (Lit.int .i64 i).wf = true) :
    Calls Tryf.prog 5 #[.int .i64 i] w fun e w' => e = .returned (.string (txt i)) ∧ Below w.heap.size w w' := by
  go_enter Tryf.func5, Tryf.ntmps5
  go_wp2_with fail
  refine (bound8 F i _ hF hw).mono ?_
  rintro e w1 ⟨rfl, hb⟩
  go_wp2
  go_ret
  exact ⟨rfl, hb⟩
end Go.Proofs.Qxb6616648aFmt

import Derived.Test.Qxb6616648aMem
import Derived.Test.Qxb6616648aShelf
namespace Go.Proofs.Qxb6616648a
open Go.RowKit
set_option linter.unusedVariables false

theorem newKey_any (ao : Option Addr) (n c : Nat) (w : World) :
    Calls Try.prog 7 #[.slice ao n c] w fun e w' => e = .returned (.pointer (some ⟨w.heap.size, 0, none⟩)) ∧ w' = w.alloc (.cells #[.slice ao n c] 30) := by
  go_enter Try.func7, Try.ntmps7
  go_wp2
  go_ret
  exact ⟨rfl, rfl⟩

theorem joined_eq (ss : List ByteArray) : (joined ss).size = (Lib.join (ss.map (·.data.toList)) (⟨#[44, 32]⟩ : ByteArray).data.toList).length := by
  simp [joined, datas, sep, ByteArray.size]

set_option maxHeartbeats 400000 in
theorem columns_any (b : Nat) (v : Value) (ss : List ByteArray) (w : World) (hc : w.cell? ⟨b, 0, none⟩ = some v) (hv : SRow w v ss) (hlen : ss.length ≤ 1048576) (hj : (joined ss).size ≤ 1073741824) :
    Calls Try.prog 8 #[.pointer (some ⟨b, 0, none⟩)] w fun e w' => e = .returned (.string (joined ss)) ∧ Below w.heap.size w w' := by
  obtain ⟨ao, c, g, o, rfl, hc1, hc2, ha, hn, hcell⟩ := hv
  have HC := hide hcell; clear hcell
  by_cases h0 : ss.length = 0
  · obtain rfl : ss = [] := List.eq_nil_of_length_eq_zero h0
    clear ha hn h0
    go_enter Try.func8, Try.ntmps8
    go_wp2_with fail
    refine (Try.strings_Join_none _ _ _ _).mono ?_
    rintro e w1 ⟨rfl, rfl⟩
    go_wp2
    go_ret
    exact ⟨rfl, Below.refl _ _⟩
  · have e := ha (by omega)
    subst e
    clear ha hn
    have hbk := block_lt_of_cell (HC.out 0 (by omega))
    have hlen2 : (Lib.join (ss.map (·.data.toList)) (⟨#[44, 32]⟩ : ByteArray).data.toList).length ≤ 140737488355328 := by rw [← joined_eq]; omega
    have HL := hide hlen2; clear hlen2
    go_enter Try.func8, Try.ntmps8
    go_wp2_with fail
    refine (Try.strings_Join g o c ss _ _ ?_ hbk (by omega) hc1 HL.out).mono ?_
    · intro j x hx
      have hj2 : j < ss.length := (List.getElem?_eq_some_iff.1 hx).1
      rw [HC.out j hj2]
      simp [hj2] at hx ⊢
      exact hx
    rintro e w1 ⟨rfl, hb⟩
    have HB := hide hb; clear hb
    go_wp2
    go_ret
    exact ⟨rfl, HB.out⟩
end Go.Proofs.Qxb6616648a

import Derived.Test.Qxb6616648aMem
namespace Go.Proofs.Qxb6616648a
open Go.RowKit
set_option linter.unusedVariables false

theorem info9 : (Try.prog.info? 9).map (fun i => (i.zero, i.size, i.bytes)) = some (some (.string ⟨#[]⟩), 1, 16) := by kernel_rfl

set_option maxHeartbeats 400000 in
theorem clone_any (v : Value) (ss : List ByteArray) (w : World) (hv : SRow w v ss) (hlen : ss.length ≤ 1048576) :
    Calls Try.prog 6 #[v] w fun e w' => ∃ v', e = .returned v' ∧ SRow w' v' ss ∧ (∃ ao, v' = .slice ao ss.length ss.length ∧ (ao = none ∨ ∃ g, ao = some ⟨g, 0, none⟩)) ∧ Below w.heap.size w w' := by
  have hnil := fun (w : World) (a : Option Addr) (n c : Nat) => Lib.run_eql_slice_nil (P := Try.prog) w 22 9 a n c 0 0 Try.underlying22
  obtain ⟨ao, c, g, o, rfl, hc1, hc2, ha, hn, hcell⟩ := hv
  cases ao with
  | none =>
    have hc0 := hn rfl
    subst hc0
    obtain rfl : ss = [] := List.eq_nil_of_length_eq_zero (by omega)
    clear ha hn hcell
    go_enter Try.func6, Try.ntmps6
    go_wp2
    go_ret
    exact ⟨_, rfl, srow_empty _ _ _ (by simp) (fun _ => rfl), ⟨none, rfl, .inl rfl⟩, Below.refl _ _⟩
  | some a =>
    obtain ⟨i0, hi, hz0, hz1, hz2⟩ := info_parts info9
    have hmk := run_make (P := Try.prog) w 22 9 i0 (.string ⟨#[]⟩) Try.underlying22 hi hz0 .i64 .i64 ss.length ss.length (by omega) (by omega) (by rw [hz2]; omega) (by omega)
    simp only [Int.toNat_natCast] at hmk
    have HA := hide ha; clear ha
    have HC := hide hcell; clear hcell
    have Hi := hide hi; clear hi
    clear hn
    obtain ⟨M, hM⟩ : ∃ M, M = madeCells (Value.string ⟨#[]⟩).cells (ss.length * i0.size) := ⟨_, rfl⟩
    rw [← hM] at hmk
    have hMl : M.size = ss.length := by rw [hM, size_madeCells, hz1, Nat.mul_one]
    have HM := hide hMl; clear hMl hM
    have S6 := hide ((Below.refl w.heap.size w).alloc (Nat.le_refl _) (.cells M 9))
    go_enter Try.func6, Try.ntmps6
    go_wp2
    go_loopw [4] (fun i wr => ∃ (k : Nat) (cur : Array Value), i = .int .i64 k ∧ k ≤ ss.length ∧ wr.heap[w.heap.size]? = some (.cells cur 9 (0, 0)) ∧ cur.size = ss.length ∧ (∀ j, j < k → cur[j]? = some (.string (ss.getD j ByteArray.empty))) ∧ Below w.heap.size w wr) (fun i _ => ss.length - (intOf i).toNat)
    case atStart => exact ⟨0, M, rfl, Nat.zero_le _, heap_alloc_new w _, HM.out, fun j hj => by omega, S6.out⟩
    case round =>
      obtain ⟨k, cur, rfl, hk, hh0, hs0, hall0, hb0⟩ := hrel
      have hh := hide hh0; clear hh0
      have hs := hide hs0; clear hs0
      have hall := hide hall0; clear hall0
      have hb := hide hb0; clear hb0
      by_cases hlt : k < ss.length
      · have e := HA.out (by omega)
        cases e
        have hx := HC.out k hlt
        have hx' : wr.cell? ⟨g, o + k, none⟩ = some (.string (ss.getD k ByteArray.empty)) := by rw [hb.out.cell (block_lt_of_cell hx)]; exact hx
        clear hx
        obtain ⟨old, hold⟩ : ∃ old, wr.cell? ⟨w.heap.size, k, none⟩ = some old := by
          rw [cell_of_row _ _ _ _ _ _ hh.out]
          exact ⟨cur[k]'(by rw [hs.out]; exact hlt), by rw [Array.getElem?_eq_getElem]⟩
        have hfr := frozen_of_row wr w.heap.size k cur 9 hh.out
        obtain ⟨X, hX⟩ : ∃ X, X = ss.getD k ByteArray.empty := ⟨_, rfl⟩
        rw [← hX] at hx'
        have HX := hide hX; clear hX
        have hk0 : (0 : Int) ≤ (k : Int) := by omega
        have hk1 : (k : Int) < (ss.length : Int) := by omega
        go_wp2
        go_roundw
        case rel =>
          refine ⟨k + 1, cur.setIfInBounds k (.string X), by go_num, by omega, ?_, by rw [Array.size_setIfInBounds]; exact hs.out, fun j hj => ?_, hb.out.setCell (Nat.le_refl _) _⟩
          · exact heap_setCell_same wr w.heap.size k cur 9 _ hh.out
          · rw [Array.getElem?_setIfInBounds]
            by_cases hjk : k = j
            · subst hjk
              rw [if_pos rfl, if_pos (by rw [hs.out]; omega), HX.out]
            · rw [if_neg hjk]
              exact hall.out j (by omega)
        case measure => simp [intOf]; omega
      · go_wp2
        go_ret
        refine ⟨_, rfl, ?_, ⟨_, rfl, .inr ⟨_, rfl⟩⟩, hb.out⟩
        refine ⟨_, _, w.heap.size, 0, rfl, Nat.le_refl _, by unfold maxLen; omega, fun _ => rfl, (fun h => by cases h), fun j hj => ?_⟩
        rw [cell_of_row wr w.heap.size (0 + j) _ 9 (0, 0) hh.out, Nat.zero_add]
        exact hall.out j (by omega)
end Go.Proofs.Qxb6616648a

import Derived.Test.Qxb6616481aClone
namespace Go.Proofs.Qxb6616481a
open Go.RowKit
set_option linter.unusedVariables false

set_option maxHeartbeats 400000 in
theorem zzPorts_any (v : Value) (xs : List Int) (w : World) (hv : Row .u64 w v xs) (hlen : xs.length ≤ 1048576) :
    Calls Try.prog 13 #[v] w fun e w' => ∃ v', e = .returned v' ∧ Tight .u64 w' v' xs ∧ Below w.heap.size w w' := by
  have hnil := fun (w : World) (a : Option Addr) (n c : Nat) => Lib.run_eql_slice_nil (P := Try.prog) w 33 23 a n c 0 0 Try.underlying33
  obtain ⟨ao, c, g, o, rfl, hc1, hc2, ha, hn, hcell⟩ := hv
  cases ao with
  | none =>
    have hc0 := hn rfl
    subst hc0
    obtain rfl : xs = [] := List.eq_nil_of_length_eq_zero (by omega)
    clear ha hn hcell
    go_enter Try.func13, Try.ntmps13
    go_wp2
    go_ret
    exact ⟨_, rfl, row_nil _ _, Below.refl _ _⟩
  | some a =>
    obtain ⟨i0, hi, hz0, hz1, hz2⟩ := info_parts info45
    have hmk := run_make (P := Try.prog) w 37 45 i0 (.int .u64 0) Try.underlying37 hi hz0 .i64 .i64 xs.length xs.length (by omega) (by omega) (by rw [hz2]; omega) (by omega)
    simp only [Int.toNat_natCast] at hmk
    have HA := hide ha; clear ha
    have HC := hide hcell; clear hcell
    have Hi := hide hi; clear hi
    clear hn
    obtain ⟨M, hM⟩ : ∃ M, M = madeCells (Value.int .u64 0).cells (xs.length * i0.size) := ⟨_, rfl⟩
    rw [← hM] at hmk
    have hMl : M.size = xs.length := by rw [hM, size_madeCells, hz1, Nat.mul_one]
    have HM := hide hMl; clear hMl hM
    have S6 := hide ((Below.refl w.heap.size w).alloc (Nat.le_refl _) (.cells M 45))
    go_enter Try.func13, Try.ntmps13
    go_wp2
    go_loopw [4] (fun i wr => ∃ (k : Nat) (cur : Array Value), i = .int .i64 k ∧ k ≤ xs.length ∧ wr.heap[w.heap.size]? = some (.cells cur 45 (0, 0)) ∧ cur.size = xs.length ∧ (∀ j, j < k → cur[j]? = some (.int .u64 (xs.getD j 0))) ∧ Below w.heap.size w wr) (fun i _ => xs.length - (intOf i).toNat)
    case atStart => exact ⟨0, M, rfl, Nat.zero_le _, heap_alloc_new w _, HM.out, fun j hj => by omega, S6.out⟩
    case round =>
      obtain ⟨k, cur, rfl, hk, hh0, hs0, hall0, hb0⟩ := hrel
      have hh := hide hh0; clear hh0
      have hs := hide hs0; clear hs0
      have hall := hide hall0; clear hall0
      have hb := hide hb0; clear hb0
      by_cases hlt : k < xs.length
      · have e := HA.out (by omega)
        cases e
        have hx := HC.out k hlt
        have hx' : wr.cell? ⟨g, o + k, none⟩ = some (.int .u64 (xs.getD k 0)) := by rw [hb.out.cell (block_lt_of_cell hx)]; exact hx
        clear hx
        obtain ⟨old, hold⟩ : ∃ old, wr.cell? ⟨w.heap.size, k, none⟩ = some old := by
          rw [cell_of_row _ _ _ _ _ _ hh.out]
          exact ⟨cur[k]'(by rw [hs.out]; exact hlt), by rw [Array.getElem?_eq_getElem]⟩
        have hfr := frozen_of_row wr w.heap.size k cur 45 hh.out
        obtain ⟨X, hX⟩ : ∃ X, X = xs.getD k 0 := ⟨_, rfl⟩
        rw [← hX] at hx'
        have HX := hide hX; clear hX
        have hk0 : (0 : Int) ≤ (k : Int) := by omega
        have hk1 : (k : Int) < (xs.length : Int) := by omega
        go_wp2
        go_roundw
        case rel =>
          refine ⟨k + 1, cur.setIfInBounds k (.int .u64 X), by go_num, by omega, ?_, by rw [Array.size_setIfInBounds]; exact hs.out, fun j hj => ?_, hb.out.setCell (Nat.le_refl _) _⟩
          · exact heap_setCell_same wr w.heap.size k cur 45 _ hh.out
          · rw [Array.getElem?_setIfInBounds]
            by_cases hjk : k = j
            · subst hjk
              rw [if_pos rfl, if_pos (by rw [hs.out]; omega), HX.out]
            · rw [if_neg hjk]
              exact hall.out j (by omega)
        case measure => simp [intOf]; omega
      · go_wp2
        go_ret
        refine ⟨_, rfl, ?_, hb.out⟩
        refine ⟨_, w.heap.size, 0, rfl, by unfold maxLen; omega, fun _ => rfl, fun j hj => ?_⟩
        rw [cell_of_row wr w.heap.size (0 + j) _ 45 (0, 0) hh.out, Nat.zero_add]
        exact hall.out j (by omega)
end Go.Proofs.Qxb6616481a

import Derived.Test.Qxb6616481aApp
import Derived.WalkLawsBesides
import Derived.WalkSpells
import Derived.Outline
import Derived.Laws.CopyOwn
namespace Go.Proofs.Qxb6616481a
open Go.RowKit
set_option linter.unusedVariables false

theorem info23 : (Try.prog.info? 23).map (fun i => (i.zero, i.size, i.bytes)) = some (some (.int .u64 0), 1, 8) := by kernel_rfl
theorem info45 : (Try.prog.info? 45).map (fun i => (i.zero, i.size, i.bytes)) = some (some (.int .u64 0), 1, 8) := by kernel_rfl
theorem size5 : (Try.prog.info? 5).map (·.size) = some 1 := by kernel_rfl
theorem size23 : (Try.prog.info? 23).map (·.size) = some 1 := by kernel_rfl

theorem splice_all {α : Type} (L cs : List α) (h : L.length = cs.length) : splice L 0 cs = cs := by
  simp [splice, ← h]

theorem tight_heap (k : IntKind) (w : World) (xs : List Int) (t : TypeId) (fr : Nat × Nat) (H : Nat) (hH : w.heap[H]? = some (.cells (xs.map (Value.int k)).toArray t fr)) (hm : xs.length ≤ maxLen) :
    Tight k w (.slice (some ⟨H, 0, none⟩) xs.length xs.length) xs := by
  refine ⟨_, H, 0, rfl, hm, fun _ => rfl, fun j hj => ?_⟩
  rw [cell_of_row w H (0 + j) _ t fr hH, Nat.zero_add]
  simp [hj]

set_option maxHeartbeats 400000 in
theorem zzClone_any (v : Value) (xs : List Int) (w : World) (hv : Row .u8 w v xs) (hlen : xs.length ≤ 1048576) :
    Calls Try.prog 11 #[v] w fun e w' => ∃ v', e = .returned v' ∧ Tight .u8 w' v' xs ∧ Below w.heap.size w w' := by
  have hnil := fun (w : World) (a : Option Addr) (n c : Nat) => Lib.run_eql_slice_nil (P := Try.prog) w 28 5 a n c 0 0 Try.underlying28
  obtain ⟨ao, c, g, o, rfl, hc1, hc2, ha, hn, hcell⟩ := hv
  cases ao with
  | none =>
    have hc0 := hn rfl
    subst hc0
    obtain rfl : xs = [] := List.eq_nil_of_length_eq_zero (by omega)
    clear ha hn hcell
    go_enter Try.func11, Try.ntmps11
    go_wp2
    go_ret
    exact ⟨_, rfl, row_nil _ _, Below.refl _ _⟩
  | some a =>
    obtain ⟨i0, hi, hz0, hz1, hz2⟩ := info_parts info5
    have hmk := run_make (P := Try.prog) w 28 5 i0 (.int .u8 0) Try.underlying28 hi hz0 .i64 .i64 xs.length xs.length (by omega) (by omega) (by rw [hz2]; omega) (by omega)
    simp only [Int.toNat_natCast] at hmk
    have HA := hide ha; clear ha
    have HC := hide hcell; clear hcell
    have Hi := hide hi; clear hi
    clear hn
    obtain ⟨M, hM⟩ : ∃ M, M = madeCells (Value.int .u8 0).cells (xs.length * i0.size) := ⟨_, rfl⟩
    rw [← hM] at hmk
    have hMl : M.size = xs.length := by rw [hM, size_madeCells, hz1, Nat.mul_one]
    have HM := hide hMl; clear hMl hM
    have S1 := hide (show (w.alloc (.cells M 5)).heap[w.heap.size]? = some (.cells M.toList.toArray 5 (0, 0)) from by simpa using heap_alloc_new w _)
    have S3 := hide (show 0 < (xs.map (Value.int .u8)).length → (some ⟨w.heap.size, 0, none⟩ : Option Addr) = some ⟨w.heap.size, 0, none⟩ ∧ ∃ ad, some a = some ad ∧ ∀ j x, (xs.map (Value.int .u8))[j]? = some x → (w.alloc (.cells M 5)).cell? (ad.add j) = some x from by
      intro hp
      refine ⟨rfl, a, rfl, fun j x hx => ?_⟩
      have hj : j < xs.length := by
        have := (List.getElem?_eq_some_iff.1 hx).1
        simpa using this
      have e := HA.out (by omega)
      cases e
      have := HC.out j hj
      rw [Addr.add_lit, World.cell?_of_block (w := w) (heap_alloc_old w _ (block_lt_of_cell this)), this]
      simp [hj] at hx ⊢
      exact hx)
    have S4 := hide (show 0 + (xs.map (Value.int .u8)).length ≤ M.toList.length from by simp [HM.out])
    have S5 := hide (show ∀ x ∈ xs.map (Value.int .u8), x.oneCell' = true from by
      intro x hx
      obtain ⟨_, _, rfl⟩ := List.mem_map.1 hx
      rfl)
    have S6 := hide ((Below.refl w.heap.size w).alloc (Nat.le_refl _) (.cells M 5))
    go_enter Try.func11, Try.ntmps11
    go_wp2_with (refine wpList_copy_splice rfl (.tmp 9) (.tmp 10) 28 28 rfl 5 Try.underlying28 size5 _ _ _ _ _ _ rfl rfl w.heap.size 0 M.toList 5 S1.out (xs.map (Value.int .u8)) (by simp) S3.out S4.out S5.out w.heap.size w S6.out (Nat.le_refl _) ?_)
    intro w' hh hb
    have HB := hide hb; clear hb
    go_wp2
    go_ret
    refine ⟨_, rfl, tight_heap .u8 w' xs 5 (0, 0) _ ?_ (by unfold maxLen; omega), HB.out⟩
    have := hh.out
    rw [splice_all _ _ (by simp [HM.out])] at this
    exact this
set_option maxHeartbeats 400000 in
theorem zzCloneU_any (v : Value) (xs : List Int) (w : World) (hv : Row .u64 w v xs) (hlen : xs.length ≤ 1048576) :
    Calls Try.prog 12 #[v] w fun e w' => ∃ v', e = .returned v' ∧ Tight .u64 w' v' xs ∧ Below w.heap.size w w' := by
  have hnil := fun (w : World) (a : Option Addr) (n c : Nat) => Lib.run_eql_slice_nil (P := Try.prog) w 33 23 a n c 0 0 Try.underlying33
  obtain ⟨ao, c, g, o, rfl, hc1, hc2, ha, hn, hcell⟩ := hv
  cases ao with
  | none =>
    have hc0 := hn rfl
    subst hc0
    obtain rfl : xs = [] := List.eq_nil_of_length_eq_zero (by omega)
    clear ha hn hcell
    go_enter Try.func12, Try.ntmps12
    go_wp2
    go_ret
    exact ⟨_, rfl, row_nil _ _, Below.refl _ _⟩
  | some a =>
    obtain ⟨i0, hi, hz0, hz1, hz2⟩ := info_parts info23
    have hmk := run_make (P := Try.prog) w 33 23 i0 (.int .u64 0) Try.underlying33 hi hz0 .i64 .i64 xs.length xs.length (by omega) (by omega) (by rw [hz2]; omega) (by omega)
    simp only [Int.toNat_natCast] at hmk
    have HA := hide ha; clear ha
    have HC := hide hcell; clear hcell
    have Hi := hide hi; clear hi
    clear hn
    obtain ⟨M, hM⟩ : ∃ M, M = madeCells (Value.int .u64 0).cells (xs.length * i0.size) := ⟨_, rfl⟩
    rw [← hM] at hmk
    have hMl : M.size = xs.length := by rw [hM, size_madeCells, hz1, Nat.mul_one]
    have HM := hide hMl; clear hMl hM
    have S1 := hide (show (w.alloc (.cells M 23)).heap[w.heap.size]? = some (.cells M.toList.toArray 23 (0, 0)) from by simpa using heap_alloc_new w _)
    have S3 := hide (show 0 < (xs.map (Value.int .u64)).length → (some ⟨w.heap.size, 0, none⟩ : Option Addr) = some ⟨w.heap.size, 0, none⟩ ∧ ∃ ad, some a = some ad ∧ ∀ j x, (xs.map (Value.int .u64))[j]? = some x → (w.alloc (.cells M 23)).cell? (ad.add j) = some x from by
      intro hp
      refine ⟨rfl, a, rfl, fun j x hx => ?_⟩
      have hj : j < xs.length := by
        have := (List.getElem?_eq_some_iff.1 hx).1
        simpa using this
      have e := HA.out (by omega)
      cases e
      have := HC.out j hj
      rw [Addr.add_lit, World.cell?_of_block (w := w) (heap_alloc_old w _ (block_lt_of_cell this)), this]
      simp [hj] at hx ⊢
      exact hx)
    have S4 := hide (show 0 + (xs.map (Value.int .u64)).length ≤ M.toList.length from by simp [HM.out])
    have S5 := hide (show ∀ x ∈ xs.map (Value.int .u64), x.oneCell' = true from by
      intro x hx
      obtain ⟨_, _, rfl⟩ := List.mem_map.1 hx
      rfl)
    have S6 := hide ((Below.refl w.heap.size w).alloc (Nat.le_refl _) (.cells M 23))
    go_enter Try.func12, Try.ntmps12
    go_wp2_with (refine wpList_copy_splice rfl (.tmp 9) (.tmp 10) 33 33 rfl 23 Try.underlying33 size23 _ _ _ _ _ _ rfl rfl w.heap.size 0 M.toList 23 S1.out (xs.map (Value.int .u64)) (by simp) S3.out S4.out S5.out w.heap.size w S6.out (Nat.le_refl _) ?_)
    intro w' hh hb
    have HB := hide hb; clear hb
    go_wp2
    go_ret
    refine ⟨_, rfl, tight_heap .u64 w' xs 23 (0, 0) _ ?_ (by unfold maxLen; omega), HB.out⟩
    have := hh.out
    rw [splice_all _ _ (by simp [HM.out])] at this
    exact this
end Go.Proofs.Qxb6616481a

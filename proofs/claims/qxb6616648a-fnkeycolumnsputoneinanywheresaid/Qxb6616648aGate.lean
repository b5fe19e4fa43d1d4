import Derived.Test.Qxb6616648aMem
namespace Go.Proofs.Qxb6616648a
open Go.RowKit
set_option linter.unusedVariables false

/-- It returned a bool; true only where the lengths sum to at most 2^20. -/
def IsB (ss : List ByteArray) (e : Ending) : Prop := ∃ b, e = .returned (.bool b) ∧ (b = true → sizes ss ≤ 1048576)
theorem isB_no (ss : List ByteArray) : IsB ss (.returned (.bool false)) := ⟨false, rfl, fun h => by cases h⟩
theorem isB_yes {ss : List ByteArray} (h : sizes ss ≤ 1048576) : IsB ss (.returned (.bool true)) := ⟨true, rfl, fun _ => h⟩

set_option maxHeartbeats 400000 in
theorem gate5 (v : Value) (ss : List ByteArray) (i : Int) (w : World) (hv : SRow w v ss) :
    Calls Try.prog 5 #[v, .int .i64 i] w fun e w' => IsB ss e ∧ w' = w := by
  have hl := hv.len
  unfold maxLen at hl
  obtain ⟨ao, c, g, o, rfl, hc1, hc2, ha, hn, hcell⟩ := hv
  have HA := hide ha; clear ha
  have HC := hide hcell; clear hcell
  clear hn
  by_cases hbig : ss.length ≤ 1048576
  case neg =>
    have t0 : (1048576 : Int) < (ss.length : Int) := by omega
    go_enter Try.func5, Try.ntmps5
    go_wp2
    go_ret
    exact ⟨isB_no _, rfl⟩
  have d0 : decide ((1048576 : Int) < (ss.length : Int)) = false := by rw [decide_eq_false_iff_not]; omega
  go_enter Try.func5, Try.ntmps5
  go_wp2
  go_loop [5, 6] (fun z i => ∃ (k : Nat) (zz : Int), i = .int .i64 k ∧ k ≤ ss.length ∧ z = .int .i64 zz ∧ 0 ≤ zz ∧ zz ≤ 1048576 ∧ zz = ss.length + sizes (ss.take k)) (fun _ i => ss.length - (intOf i).toNat)
  case atStart => exact ⟨0, _, rfl, Nat.zero_le _, rfl, by omega, by omega, by simp [sizes]⟩
  case round =>
    obtain ⟨k, zz, rfl, hk, rfl, hz0, hz1, hzz0⟩ := hrel
    have hzz := hide hzz0; clear hzz0
    by_cases hlt : k < ss.length
    · have e := HA.out (by omega)
      subst e
      have hx := HC.out k hlt
      obtain ⟨X, hX⟩ : ∃ X, X = ss.getD k ByteArray.empty := ⟨_, rfl⟩
      have hts := hide (sizes_take ss k hlt)
      rw [← hX] at hx hts
      clear hX
      have hk0 : (0 : Int) ≤ (k : Int) := by omega
      have hk1 : (k : Int) < (ss.length : Int) := by omega
      by_cases hX1 : (1048576 : Int) < (X.size : Int)
      · go_wp2
        go_ret
        exact ⟨isB_no _, rfl⟩
      · by_cases hX2 : (1048576 : Int) < zz + (X.size : Int)
        · go_wp2
          go_ret
          exact ⟨isB_no _, rfl⟩
        · go_wp2
          go_round
          case rel => exact ⟨k + 1, _, by go_num, by omega, rfl, by omega, by omega, by rw [hzz.out, hts.out]; omega⟩
          case measure => simp [intOf]; omega
    · have hfin : sizes ss ≤ 1048576 := by
        have := hzz.out
        rw [List.take_of_length_le (by omega)] at this
        omega
      go_wp2
      go_ret
      exact ⟨isB_yes hfin, rfl⟩
set_option maxHeartbeats 400000 in
theorem gate9 (v : Value) (ss : List ByteArray) (i : Int) (t : ByteArray) (w : World) (hv : SRow w v ss) :
    Calls Try.prog 9 #[v, .int .i64 i, .string t] w fun e w' => IsB ss e ∧ w' = w := by
  have hl := hv.len
  unfold maxLen at hl
  obtain ⟨ao, c, g, o, rfl, hc1, hc2, ha, hn, hcell⟩ := hv
  have HA := hide ha; clear ha
  have HC := hide hcell; clear hcell
  clear hn
  by_cases hbig : ss.length ≤ 1048576
  case neg =>
    have t0 : (1048576 : Int) < (ss.length : Int) := by omega
    go_enter Try.func9, Try.ntmps9
    go_wp2
    go_ret
    exact ⟨isB_no _, rfl⟩
  have d0 : decide ((1048576 : Int) < (ss.length : Int)) = false := by rw [decide_eq_false_iff_not]; omega
  go_enter Try.func9, Try.ntmps9
  go_wp2
  go_loop [7, 8] (fun z i => ∃ (k : Nat) (zz : Int), i = .int .i64 k ∧ k ≤ ss.length ∧ z = .int .i64 zz ∧ 0 ≤ zz ∧ zz ≤ 1048576 ∧ zz = ss.length + sizes (ss.take k)) (fun _ i => ss.length - (intOf i).toNat)
  case atStart => exact ⟨0, _, rfl, Nat.zero_le _, rfl, by omega, by omega, by simp [sizes]⟩
  case round =>
    obtain ⟨k, zz, rfl, hk, rfl, hz0, hz1, hzz0⟩ := hrel
    have hzz := hide hzz0; clear hzz0
    by_cases hlt : k < ss.length
    · have e := HA.out (by omega)
      subst e
      have hx := HC.out k hlt
      obtain ⟨X, hX⟩ : ∃ X, X = ss.getD k ByteArray.empty := ⟨_, rfl⟩
      have hts := hide (sizes_take ss k hlt)
      rw [← hX] at hx hts
      clear hX
      have hk0 : (0 : Int) ≤ (k : Int) := by omega
      have hk1 : (k : Int) < (ss.length : Int) := by omega
      by_cases hX1 : (1048576 : Int) < (X.size : Int)
      · go_wp2
        go_ret
        exact ⟨isB_no _, rfl⟩
      · by_cases hX2 : (1048576 : Int) < zz + (X.size : Int)
        · go_wp2
          go_ret
          exact ⟨isB_no _, rfl⟩
        · go_wp2
          go_round
          case rel => exact ⟨k + 1, _, by go_num, by omega, rfl, by omega, by omega, by rw [hzz.out, hts.out]; omega⟩
          case measure => simp [intOf]; omega
    · by_cases hT1 : (1048576 : Int) < (t.size : Int)
      · go_wp2
        go_ret
        exact ⟨isB_no _, rfl⟩
      · by_cases hT2 : (1048576 : Int) < zz + (t.size : Int)
        · go_wp2
          go_ret
          exact ⟨isB_no _, rfl⟩
        · have hfin : sizes ss ≤ 1048576 := by
            have := hzz.out
            rw [List.take_of_length_le (by omega)] at this
            omega
          go_wp2
          go_ret
          exact ⟨isB_yes hfin, rfl⟩
end Go.Proofs.Qxb6616648a

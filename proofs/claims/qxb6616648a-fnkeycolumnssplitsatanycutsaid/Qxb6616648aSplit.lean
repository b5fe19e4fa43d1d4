import Derived.Test.Qxb6616648aKey
import Derived.Test.Qxb6616648aClone
import Derived.Test.Qxb6616648aGate
namespace Go.Proofs.Qxb6616648a
open Go.RowKit
set_option linter.unusedVariables false

theorem size_le_sum (ss : List ByteArray) (k : Nat) (h : k < ss.length) : (ss.getD k ByteArray.empty).size ≤ sizes ss := by
  have h1 := sizes_take ss k h
  have h2 := sizes_take_le ss (k + 1)
  omega

set_option maxHeartbeats 2000000 in
theorem split_any (v : Value) (ss : List ByteArray) (cut : Int) (w : World) (hv : SRow w v ss) :
    Calls Try.prog 3 #[v, .int .i64 cut] w fun e w' => e = .returned (.bool true) ∧ Below w.heap.size w w' := by
  have hl := hv.len
  unfold maxLen at hl
  have HV := hide hv
  obtain ⟨ao, c, g, o, rfl, hc1, hc2, ha, hn, hcell⟩ := hv
  have HA := hide ha; clear ha
  have HC := hide hcell; clear hcell
  clear hn
  by_cases hbig : ss.length ≤ 65536
  case neg =>
    have t0 : (65536 : Int) < (ss.length : Int) := by omega
    go_enter Try.func3, Try.ntmps3
    go_wp2_with fail
    refine (gate5 _ ss _ _ HV.out).mono ?_
    rintro e w1 ⟨⟨b, rfl, -⟩, rfl⟩
    cases b
    all_goals
      go_wp2
      go_ret
      exact ⟨rfl, Below.refl _ _⟩
  have d0 : decide ((65536 : Int) < (ss.length : Int)) = false := by rw [decide_eq_false_iff_not]; omega
  go_enter Try.func3, Try.ntmps3
  go_wp2_with fail
  refine (gate5 _ ss _ _ HV.out).mono ?_
  rintro e w1 ⟨⟨b, rfl, hb⟩, rfl⟩
  cases b with
  | false =>
    go_wp2
    go_ret
    exact ⟨rfl, Below.refl _ _⟩
  | true =>
    have hsum := hb rfl
    clear hb
    go_wp2
    go_loop [5, 6] (fun z i => ∃ (k T : Nat), i = .int .i64 k ∧ k ≤ ss.length ∧ z = .int .i64 T ∧ T ≤ 1048576) (fun _ i => ss.length - (intOf i).toNat)
    case atStart => exact ⟨0, 0, rfl, Nat.zero_le _, rfl, by omega⟩
    case round =>
      obtain ⟨k, T, rfl, hk, rfl, hT⟩ := hrel
      by_cases hlt : k < ss.length
      · have e := HA.out (by omega)
        subst e
        have hx := HC.out k hlt
        have hXs := size_le_sum ss k hlt
        obtain ⟨X, hX⟩ : ∃ X, X = ss.getD k ByteArray.empty := ⟨_, rfl⟩
        rw [← hX] at hx hXs
        clear hX
        have hXs' : X.size ≤ 1048576 := by omega
        clear hXs
        have hk0 : (0 : Int) ≤ (k : Int) := by omega
        have hk1 : (k : Int) < (ss.length : Int) := by omega
        by_cases hX1 : (1048576 : Int) < (T : Int) + (16 + (X.size : Int))
        · go_wp2
          go_ret
          exact ⟨rfl, Below.refl _ _⟩
        · go_wp2
          go_round
          case rel => exact ⟨k + 1, T + (16 + X.size), by go_num, by omega, by go_num, by omega⟩
          case measure => simp [intOf]; omega
      · by_cases c0 : cut < 0
        · go_wp2
          go_ret
          exact ⟨rfl, Below.refl _ _⟩
        have dc0 : decide (cut < 0) = false := by simpa using c0
        by_cases c1 : (ss.length : Int) < cut
        · go_wp2
          go_ret
          exact ⟨rfl, Below.refl _ _⟩
        obtain ⟨m, rfl⟩ := Int.eq_ofNat_of_zero_le (show 0 ≤ cut by omega)
        have hmn : m ≤ ss.length := by omega
        have dc1 : decide ((ss.length : Int) < (m : Int)) = false := by rw [decide_eq_false_iff_not]; omega
        go_wp2_with fail
        refine (clone_any _ ss _ HV.out (by omega)).mono ?_
        rintro e w2 ⟨v2, rfl, R2, ⟨ao2, rfl, hao2⟩, B2⟩
        have HR := hide R2
        have HB := hide B2; clear B2
        obtain ⟨ao', c', g', o', e', -, -, h4, -, hcell⟩ := R2
        have hcell2 := hide hcell; clear hcell
        have HA2 := hide h4; clear h4
        have Hao2 := hide hao2; clear hao2
        simp only [Value.slice.injEq] at e'
        obtain ⟨rfl, -, rfl⟩ := e'
        go_wp2
        go_loop [7, 8] (fun z i => ∃ (k : Nat), i = .int .i64 k ∧ k ≤ ss.length ∧ z = .int .i64 ((sizes (ss.take k) : Nat) : Int)) (fun _ i => ss.length - (intOf i).toNat)
        case atStart => exact ⟨0, rfl, Nat.zero_le _, rfl⟩
        case round =>
          obtain ⟨k2, rfl, hk2, rfl⟩ := hrel
          have hsl := sizes_take_le ss k2
          by_cases hlt2 : k2 < ss.length
          · have e2 := HA2.out (by omega)
            subst e2
            have hx := hcell2.out k2 hlt2
            have hts := hide (sizes_take ss k2 hlt2)
            have hXs := size_le_sum ss k2 hlt2
            obtain ⟨X, hX⟩ : ∃ X, X = ss.getD k2 ByteArray.empty := ⟨_, rfl⟩
            rw [← hX] at hx hXs hts
            clear hX
            obtain ⟨Z, hZ⟩ : ∃ Z, Z = sizes (ss.take k2) := ⟨_, rfl⟩
            rw [← hZ] at hts hsl ⊢
            clear hZ
            have hk0 : (0 : Int) ≤ (k2 : Int) := by omega
            have hk1 : (k2 : Int) < (ss.length : Int) := by omega
            go_wp2
            go_round
            case rel => exact ⟨k2 + 1, by go_num, by omega, by rw [hts.out]; go_num⟩
            case measure => simp [intOf]; omega
          · have ek : ss.take k2 = ss := List.take_of_length_le (by omega)
            rw [ek]
            obtain ⟨S, hS⟩ : ∃ S, S = sizes ss := ⟨_, rfl⟩
            rw [← hS] at hsum ⊢
            have hjW := joined_size ss
            have hjL := joined_size (ss.take m)
            have hjR := joined_size (ss.drop m)
            have hspl := sizes_split ss m
            rw [← hS] at hjW hspl
            have hlt1 : (ss.take m).length = m := by rw [List.length_take]; omega
            have hlt3 : (ss.drop m).length = ss.length - m := List.length_drop
            obtain ⟨W, hW⟩ : ∃ W, W = joined ss := ⟨_, rfl⟩
            obtain ⟨L, hL⟩ : ∃ L, L = joined (ss.take m) := ⟨_, rfl⟩
            obtain ⟨R, hR⟩ : ∃ R, R = joined (ss.drop m) := ⟨_, rfl⟩
            rw [← hW] at hjW
            rw [← hL] at hjL
            rw [← hR] at hjR
            rw [hlt1] at hjL
            rw [hlt3] at hjR
            have bW : W.size ≤ 2000000 := by omega
            have bL : L.size ≤ 2000000 := by omega
            have bR : R.size ≤ 2000000 := by omega
            have HW := hide hW; clear hW
            have HL := hide hL; clear hL
            have HRr := hide hR; clear hR
            have HjW := hide hjW; clear hjW hjL hjR hspl hS hsl ek hlt1 hlt3
            have hsep : (⟨#[44, 32]⟩ : ByteArray).size = 2 := rfl
            by_cases hn0 : ss.length = 0
            · have hss : ss = [] := List.eq_nil_of_length_eq_zero hn0
              have hm0 : m = 0 := by omega
              subst hm0
              subst hss
              have q2 : (W.toList == R.toList) = true := by rw [HW.out, HRr.out]; simp
              have hWz : W.size = 0 := by rw [HW.out]; rfl
              have hS0 : S = 0 := by have := HjW.out; simp at this; omega
              subst hS0
              clear HA2 hcell2 HjW hn0
              rcases Hao2.out with h | ⟨g2, h⟩
              · subst h
                clear Hao2
                go_wp2_with fail
                refine (newKey_any _ _ _ _).mono ?_
                rintro e w3 ⟨rfl, rfl⟩
                go_wp2_with fail
                refine (columns_any _ _ [] _ ?_ (HR.out.to (below_alloc _ _)) (by simp) (by rw [← HW.out]; omega)).mono ?_
                · rw [cell_of_row _ _ _ _ _ _ (heap_alloc_new _ _)]; rfl
                rw [← HW.out]
                rintro e w4 ⟨rfl, B4⟩
                have HR4 := hide ((HR.out.to (below_alloc _ _)).to B4)
                have HB4 := hide ((HB.out.trans ((below_alloc w2 _).mono HB.out.size)).trans (B4.mono (by have := HB.out.size; simp; omega)))
                clear B4
                have HT := hide (show SRow w4 (.slice none 0 0) (([] : List ByteArray).take 0) from HR4.out)
                go_wp2_with fail
                refine (newKey_any _ _ _ _).mono ?_
                rintro e w5 ⟨rfl, rfl⟩
                go_wp2_with fail
                refine (columns_any _ _ (([] : List ByteArray).take 0) _ ?_ (HT.out.to (below_alloc _ _)) (by simp) (by rw [← HL.out]; omega)).mono ?_
                · rw [cell_of_row _ _ _ _ _ _ (heap_alloc_new _ _)]; rfl
                rw [← HL.out]
                rintro e w6 ⟨rfl, B6⟩
                have HR6 := hide ((HR4.out.to (below_alloc _ _)).to B6)
                have HB6 := hide ((HB4.out.trans ((below_alloc w4 _).mono HB4.out.size)).trans (B6.mono (by have := HB4.out.size; simp; omega)))
                clear B6
                have HD := hide (show SRow w6 (.slice none 0 0) (([] : List ByteArray).drop 0) from HR6.out)
                go_wp2_with fail
                refine (newKey_any _ _ _ _).mono ?_
                rintro e w7 ⟨rfl, rfl⟩
                go_wp2_with fail
                refine (columns_any _ _ (([] : List ByteArray).drop 0) _ ?_ (HD.out.to (below_alloc _ _)) (by simp) (by rw [← HRr.out]; omega)).mono ?_
                · rw [cell_of_row _ _ _ _ _ _ (heap_alloc_new _ _)]; rfl
                rw [← HRr.out]
                rintro e w8 ⟨rfl, B8⟩
                have HB8 := hide ((HB6.out.trans ((below_alloc w6 _).mono HB6.out.size)).trans (B8.mono (by have := HB6.out.size; simp; omega)))
                clear B8
                go_wp2
                go_ret
                exact ⟨rfl, HB8.out⟩
              · subst h
                clear Hao2
                go_wp2_with fail
                refine (newKey_any _ _ _ _).mono ?_
                rintro e w3 ⟨rfl, rfl⟩
                go_wp2_with fail
                refine (columns_any _ _ [] _ ?_ (HR.out.to (below_alloc _ _)) (by simp) (by rw [← HW.out]; omega)).mono ?_
                · rw [cell_of_row _ _ _ _ _ _ (heap_alloc_new _ _)]; rfl
                rw [← HW.out]
                rintro e w4 ⟨rfl, B4⟩
                have HR4 := hide ((HR.out.to (below_alloc _ _)).to B4)
                have HB4 := hide ((HB.out.trans ((below_alloc w2 _).mono HB.out.size)).trans (B4.mono (by have := HB.out.size; simp; omega)))
                clear B4
                have HT := hide (show SRow w4 (.slice (some ⟨g2, 0, none⟩) 0 0) (([] : List ByteArray).take 0) from HR4.out)
                go_wp2_with fail
                refine (newKey_any _ _ _ _).mono ?_
                rintro e w5 ⟨rfl, rfl⟩
                go_wp2_with fail
                refine (columns_any _ _ (([] : List ByteArray).take 0) _ ?_ (HT.out.to (below_alloc _ _)) (by simp) (by rw [← HL.out]; omega)).mono ?_
                · rw [cell_of_row _ _ _ _ _ _ (heap_alloc_new _ _)]; rfl
                rw [← HL.out]
                rintro e w6 ⟨rfl, B6⟩
                have HR6 := hide ((HR4.out.to (below_alloc _ _)).to B6)
                have HB6 := hide ((HB4.out.trans ((below_alloc w4 _).mono HB4.out.size)).trans (B6.mono (by have := HB4.out.size; simp; omega)))
                clear B6
                have HD := hide (show SRow w6 (.slice (some ⟨g2, 0, none⟩) 0 0) (([] : List ByteArray).drop 0) from HR6.out)
                go_wp2_with fail
                refine (newKey_any _ _ _ _).mono ?_
                rintro e w7 ⟨rfl, rfl⟩
                go_wp2_with fail
                refine (columns_any _ _ (([] : List ByteArray).drop 0) _ ?_ (HD.out.to (below_alloc _ _)) (by simp) (by rw [← HRr.out]; omega)).mono ?_
                · rw [cell_of_row _ _ _ _ _ _ (heap_alloc_new _ _)]; rfl
                rw [← HRr.out]
                rintro e w8 ⟨rfl, B8⟩
                have HB8 := hide ((HB6.out.trans ((below_alloc w6 _).mono HB6.out.size)).trans (B8.mono (by have := HB6.out.size; simp; omega)))
                clear B8
                go_wp2
                go_ret
                exact ⟨rfl, HB8.out⟩
            · have e2 := HA2.out (by omega)
              have hg : ∃ g2, ao2 = some ⟨g2, 0, none⟩ := by
                rcases Hao2.out with h | h
                · rw [h] at e2; cases e2
                · exact h
              obtain ⟨g2, eg⟩ := hg
              clear Hao2 HA2 hcell2 e2
              subst eg
              have t9 : decide ((0 : Int) < (ss.length : Int)) = true := by rw [decide_eq_true_iff]; omega
              have hWn : ((W.size : Int) != (S : Int) + 2 * ((ss.length : Int) - 1)) = false := by have := HjW.out; simp; omega
              have m0 : (0 : Int) ≤ (m : Int) := by omega
              have m1 : (m : Int) ≤ (ss.length : Int) := by omega
              rcases Nat.lt_or_ge m ss.length with hm | hm
              · by_cases hm0 : m = 0
                · subst hm0
                  have q2 : (W.toList == R.toList) = true := by rw [HW.out, HRr.out]; simp
                  have m2 : ¬ 0 = ss.length := by omega
                  go_wp2_with fail
                  refine (newKey_any _ _ _ _).mono ?_
                  rintro e w3 ⟨rfl, rfl⟩
                  go_wp2_with fail
                  refine (columns_any _ _ ss _ ?_ (HR.out.to (below_alloc _ _)) (by omega) (by rw [← HW.out]; omega)).mono ?_
                  · rw [cell_of_row _ _ _ _ _ _ (heap_alloc_new _ _)]; rfl
                  rw [← HW.out]
                  rintro e w4 ⟨rfl, B4⟩
                  have HR4 := hide ((HR.out.to (below_alloc _ _)).to B4)
                  have HB4 := hide ((HB.out.trans ((below_alloc w2 _).mono HB.out.size)).trans (B4.mono (by have := HB.out.size; simp; omega)))
                  clear B4
                  have HT := hide (HR4.out.take 0 hmn)
                  go_wp2_with fail
                  refine (newKey_any _ _ _ _).mono ?_
                  rintro e w5 ⟨rfl, rfl⟩
                  go_wp2_with fail
                  refine (columns_any _ _ (ss.take 0) _ ?_ (HT.out.to (below_alloc _ _)) (by rw [List.length_take]; omega) (by rw [← HL.out]; omega)).mono ?_
                  · rw [cell_of_row _ _ _ _ _ _ (heap_alloc_new _ _)]; rfl
                  rw [← HL.out]
                  rintro e w6 ⟨rfl, B6⟩
                  have HR6 := hide ((HR4.out.to (below_alloc _ _)).to B6)
                  have HB6 := hide ((HB4.out.trans ((below_alloc w4 _).mono HB4.out.size)).trans (B6.mono (by have := HB4.out.size; simp; omega)))
                  clear B6
                  have HD := hide (show SRow w6 (.slice (some ⟨g2, 0, none⟩) ss.length ss.length) (ss.drop 0) from by simpa using HR6.out)
                  go_wp2_with fail
                  refine (newKey_any _ _ _ _).mono ?_
                  rintro e w7 ⟨rfl, rfl⟩
                  go_wp2_with fail
                  refine (columns_any _ _ (ss.drop 0) _ ?_ (HD.out.to (below_alloc _ _)) (by rw [List.length_drop]; omega) (by rw [← HRr.out]; omega)).mono ?_
                  · rw [cell_of_row _ _ _ _ _ _ (heap_alloc_new _ _)]; rfl
                  rw [← HRr.out]
                  rintro e w8 ⟨rfl, B8⟩
                  have HB8 := hide ((HB6.out.trans ((below_alloc w6 _).mono HB6.out.size)).trans (B8.mono (by have := HB6.out.size; simp; omega)))
                  clear B8
                  go_wp2
                  go_ret
                  exact ⟨rfl, HB8.out⟩
                · have q0 : ((m : Int) == 0) = false := by simp; omega
                  have q1 : ((m : Int) == (ss.length : Int)) = false := by simp; omega
                  have q2 : (W.toList == (L ++ (⟨#[44, 32]⟩ : ByteArray) ++ R).toList) = true := by
                    have := joined_append (ss.take m) (ss.drop m) (by intro h; have := congrArg List.length h; rw [List.length_take, List.length_nil] at this; omega) (by intro h; have := congrArg List.length h; rw [List.length_drop, List.length_nil] at this; omega)
                    rw [List.take_append_drop, ← HW.out, ← HL.out, ← HRr.out] at this
                    rw [this]; simp [sep]
                  have m2 : ¬ m = ss.length := by omega
                  have m3 : ¬ ss.length - m = 0 := by omega
                  go_wp2_with fail
                  refine (newKey_any _ _ _ _).mono ?_
                  rintro e w3 ⟨rfl, rfl⟩
                  go_wp2_with fail
                  refine (columns_any _ _ ss _ ?_ (HR.out.to (below_alloc _ _)) (by omega) (by rw [← HW.out]; omega)).mono ?_
                  · rw [cell_of_row _ _ _ _ _ _ (heap_alloc_new _ _)]; rfl
                  rw [← HW.out]
                  rintro e w4 ⟨rfl, B4⟩
                  have HR4 := hide ((HR.out.to (below_alloc _ _)).to B4)
                  have HB4 := hide ((HB.out.trans ((below_alloc w2 _).mono HB.out.size)).trans (B4.mono (by have := HB.out.size; simp; omega)))
                  clear B4
                  have HT := hide (HR4.out.take m hmn)
                  go_wp2_with fail
                  refine (newKey_any _ _ _ _).mono ?_
                  rintro e w5 ⟨rfl, rfl⟩
                  go_wp2_with fail
                  refine (columns_any _ _ (ss.take m) _ ?_ (HT.out.to (below_alloc _ _)) (by rw [List.length_take]; omega) (by rw [← HL.out]; omega)).mono ?_
                  · rw [cell_of_row _ _ _ _ _ _ (heap_alloc_new _ _)]; rfl
                  rw [← HL.out]
                  rintro e w6 ⟨rfl, B6⟩
                  have HR6 := hide ((HR4.out.to (below_alloc _ _)).to B6)
                  have HB6 := hide ((HB4.out.trans ((below_alloc w4 _).mono HB4.out.size)).trans (B6.mono (by have := HB4.out.size; simp; omega)))
                  clear B6
                  have HD := hide (show SRow w6 (.slice (some ⟨g2, m, none⟩) (ss.length - m) (ss.length - m)) (ss.drop m) from by simpa using HR6.out.drop m hmn)
                  go_wp2_with fail
                  refine (newKey_any _ _ _ _).mono ?_
                  rintro e w7 ⟨rfl, rfl⟩
                  go_wp2_with fail
                  refine (columns_any _ _ (ss.drop m) _ ?_ (HD.out.to (below_alloc _ _)) (by rw [List.length_drop]; omega) (by rw [← HRr.out]; omega)).mono ?_
                  · rw [cell_of_row _ _ _ _ _ _ (heap_alloc_new _ _)]; rfl
                  rw [← HRr.out]
                  rintro e w8 ⟨rfl, B8⟩
                  have HB8 := hide ((HB6.out.trans ((below_alloc w6 _).mono HB6.out.size)).trans (B8.mono (by have := HB6.out.size; simp; omega)))
                  clear B8
                  go_wp2
                  go_ret
                  exact ⟨rfl, HB8.out⟩
              · have hm' : m = ss.length := by omega
                have q0 : ((m : Int) == 0) = false := by simp; omega
                have q1 : ((m : Int) == (ss.length : Int)) = true := by simp; omega
                have q2 : (W.toList == L.toList) = true := by rw [HW.out, HL.out, hm']; simp
                have hd0 := hide (show ss.drop m = [] from by rw [hm']; simp)
                subst hm'
                go_wp2_with fail
                refine (newKey_any _ _ _ _).mono ?_
                rintro e w3 ⟨rfl, rfl⟩
                go_wp2_with fail
                refine (columns_any _ _ ss _ ?_ (HR.out.to (below_alloc _ _)) (by omega) (by rw [← HW.out]; omega)).mono ?_
                · rw [cell_of_row _ _ _ _ _ _ (heap_alloc_new _ _)]; rfl
                rw [← HW.out]
                rintro e w4 ⟨rfl, B4⟩
                have HR4 := hide ((HR.out.to (below_alloc _ _)).to B4)
                have HB4 := hide ((HB.out.trans ((below_alloc w2 _).mono HB.out.size)).trans (B4.mono (by have := HB.out.size; simp; omega)))
                clear B4
                have HT := hide (HR4.out.take ss.length hmn)
                go_wp2_with fail
                refine (newKey_any _ _ _ _).mono ?_
                rintro e w5 ⟨rfl, rfl⟩
                go_wp2_with fail
                refine (columns_any _ _ (ss.take ss.length) _ ?_ (HT.out.to (below_alloc _ _)) (by rw [List.length_take]; omega) (by rw [← HL.out]; omega)).mono ?_
                · rw [cell_of_row _ _ _ _ _ _ (heap_alloc_new _ _)]; rfl
                rw [← HL.out]
                rintro e w6 ⟨rfl, B6⟩
                have HR6 := hide ((HR4.out.to (below_alloc _ _)).to B6)
                have HB6 := hide ((HB4.out.trans ((below_alloc w4 _).mono HB4.out.size)).trans (B6.mono (by have := HB4.out.size; simp; omega)))
                clear B6
                have HD := hide (show SRow w6 (.slice (some ⟨g2, 0, none⟩) 0 0) (ss.drop ss.length) from by rw [hd0.out]; exact srow_empty _ _ _ (by simp) (fun h => by cases h))
                go_wp2_with fail
                refine (newKey_any _ _ _ _).mono ?_
                rintro e w7 ⟨rfl, rfl⟩
                go_wp2_with fail
                refine (columns_any _ _ (ss.drop ss.length) _ ?_ (HD.out.to (below_alloc _ _)) (by rw [List.length_drop]; omega) (by rw [← HRr.out]; omega)).mono ?_
                · rw [cell_of_row _ _ _ _ _ _ (heap_alloc_new _ _)]; rfl
                rw [← HRr.out]
                rintro e w8 ⟨rfl, B8⟩
                have HB8 := hide ((HB6.out.trans ((below_alloc w6 _).mono HB6.out.size)).trans (B8.mono (by have := HB6.out.size; simp; omega)))
                clear B8
                go_wp2
                go_ret
                exact ⟨rfl, HB8.out⟩
end Go.Proofs.Qxb6616648a

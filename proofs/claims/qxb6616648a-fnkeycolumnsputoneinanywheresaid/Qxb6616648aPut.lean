import Derived.Test.Qxb6616648aKey
import Derived.Test.Qxb6616648aSApp
import Derived.Test.Qxb6616648aGate
namespace Go.Proofs.Qxb6616648a
open Go.RowKit
set_option linter.unusedVariables false

theorem size_le_sum7 (ss : List ByteArray) (k : Nat) (h : k < ss.length) : (ss.getD k ByteArray.empty).size ≤ sizes ss := by
  have h1 := sizes_take ss k h
  have h2 := sizes_take_le ss (k + 1)
  omega

theorem take_one (ss : List ByteArray) (k : Nat) (h : k < ss.length) : ss.take (k + 1) = ss.take k ++ [ss.getD k ByteArray.empty] := by
  rw [List.take_succ_eq_append_getElem h]
  simp [h]
theorem mid_one (ss : List ByteArray) (m k : Nat) (hm : m ≤ k) (h : k < ss.length) : (ss.take (k + 1)).drop m = (ss.take k).drop m ++ [ss.getD k ByteArray.empty] := by
  rw [take_one ss k h, List.drop_append_of_le_length (by rw [List.length_take]; omega)]

theorem made_own (w : World) (M : Array Value) (n : Nat) (hM : M.size = n) (hn : n ≤ maxLen) : SOwn w.heap.size (w.alloc (.cells M 9)) (.slice (some ⟨w.heap.size, 0, none⟩) 0 n) [] :=
  World.ownsRow_made w M n (Nat.le_refl _) hn (by rw [hM, Nat.mul_one])

set_option maxHeartbeats 2000000 in
theorem put_any (v : Value) (ss : List ByteArray) (cut : Int) (t : ByteArray) (w : World) (hv : SRow w v ss) :
    Calls Try.prog 4 #[v, .int .i64 cut, .string t] w fun e w' => e = .returned (.bool true) ∧ Below w.heap.size w w' := by
  have hl := hv.len
  unfold maxLen at hl
  have HV := hide hv
  obtain ⟨ao, c, g, o, rfl, hc1, hc2, ha, hn, hcell⟩ := hv
  have HA := hide ha; clear ha
  have HC := hide hcell; clear hcell
  clear hn
  by_cases htb : t.size ≤ 1048576
  case neg =>
    have t0 : (1048576 : Int) < (t.size : Int) := by omega
    go_enter Try.func4, Try.ntmps4
    go_wp2_with fail
    refine (gate9 _ ss _ _ _ HV.out).mono ?_
    rintro e w1 ⟨⟨b, rfl, -⟩, rfl⟩
    cases b
    all_goals
      go_wp2
      go_ret
      exact ⟨rfl, Below.refl _ _⟩
  by_cases hbig : ss.length ≤ 65536
  case neg =>
    have t0 : (65536 : Int) < (ss.length : Int) := by omega
    have t1 : ¬ (1048576 : Int) < (t.size : Int) := by omega
    go_enter Try.func4, Try.ntmps4
    go_wp2_with fail
    refine (gate9 _ ss _ _ _ HV.out).mono ?_
    rintro e w1 ⟨⟨b, rfl, -⟩, rfl⟩
    cases b
    all_goals
      go_wp2
      go_ret
      exact ⟨rfl, Below.refl _ _⟩
  have d0 : decide ((65536 : Int) < (ss.length : Int)) = false := by rw [decide_eq_false_iff_not]; omega
  have d1 : decide ((1048576 : Int) < (t.size : Int)) = false := by rw [decide_eq_false_iff_not]; omega
  go_enter Try.func4, Try.ntmps4
  go_wp2_with fail
  refine (gate9 _ ss _ _ _ HV.out).mono ?_
  rintro e w1 ⟨⟨b, rfl, hb⟩, rfl⟩
  cases b with
  | false =>
    go_wp2
    go_ret
    exact ⟨rfl, Below.refl _ _⟩
  | true =>
    have hsum := hb rfl
    clear hb
    go_wp2
    go_loop [7, 8] (fun z i => ∃ (k T : Nat), i = .int .i64 k ∧ k ≤ ss.length ∧ z = .int .i64 T ∧ T ≤ 1048576) (fun _ i => ss.length - (intOf i).toNat)
    case atStart => exact ⟨0, t.size, rfl, Nat.zero_le _, rfl, by omega⟩
    case round =>
      obtain ⟨k, T, rfl, hk, rfl, hT⟩ := hrel
      by_cases hlt : k < ss.length
      · have e := HA.out (by omega)
        subst e
        have hx := HC.out k hlt
        have hXs := size_le_sum7 ss k hlt
        obtain ⟨X, hX⟩ : ∃ X, X = ss.getD k ByteArray.empty := ⟨_, rfl⟩
        rw [← hX] at hx hXs
        clear hX
        have hXs' : X.size ≤ 1048576 := by omega
        clear hXs
        have hk0 : (0 : Int) ≤ (k : Int) := by omega
        have hk1 : (k : Int) < (ss.length : Int) := by omega
        by_cases hX1 : (1048576 : Int) < (T : Int) + (16 + (X.size : Int))
        · go_wp2
          go_ret
          exact ⟨rfl, Below.refl _ _⟩
        · go_wp2
          go_round
          case rel => exact ⟨k + 1, T + (16 + X.size), by go_num, by omega, by go_num, by omega⟩
          case measure => simp [intOf]; omega
      · by_cases c0 : cut < 0
        · go_wp2
          go_ret
          exact ⟨rfl, Below.refl _ _⟩
        have dc0 : decide (cut < 0) = false := by simpa using c0
        by_cases c1 : (ss.length : Int) < cut
        · go_wp2
          go_ret
          exact ⟨rfl, Below.refl _ _⟩
        obtain ⟨m, rfl⟩ := Int.eq_ofNat_of_zero_le (show 0 ≤ cut by omega)
        have hmn : m ≤ ss.length := by omega
        have dc1 : decide ((ss.length : Int) < (m : Int)) = false := by rw [decide_eq_false_iff_not]; omega
        go_wp2_with fail
        refine (clone_any _ ss _ HV.out (by omega)).mono ?_
        rintro e w2 ⟨v2, rfl, R2, ⟨ao2, rfl, hao2⟩, B2⟩
        have HR := hide R2
        have HB := hide B2; clear B2
        obtain ⟨ao', c', g', o', e', -, -, h4, -, hcell⟩ := R2
        have hcell2 := hide hcell; clear hcell
        have HA2 := hide h4; clear h4
        have Hao2 := hide hao2; clear hao2
        simp only [Value.slice.injEq] at e'
        obtain ⟨rfl, -, rfl⟩ := e'
        obtain ⟨i0, hi, hz0, hz1, hz2⟩ := info_parts info9
        have hmk := run_make (P := Try.prog) w2 22 9 i0 (.string ⟨#[]⟩) Try.underlying22 hi hz0 .i64 .i64 0 ((ss.length : Int) + 1) (by omega) (by omega) (by rw [hz2]; omega) (by omega)
        have etn : ((ss.length : Int) + 1).toNat = ss.length + 1 := by omega
        rw [etn] at hmk
        simp only [Int.toNat_zero] at hmk
        obtain ⟨M, hM⟩ : ∃ M, M = madeCells (Value.string ⟨#[]⟩).cells ((ss.length + 1) * i0.size) := ⟨_, rfl⟩
        rw [← hM] at hmk
        have hMl : M.size = ss.length + 1 := by rw [hM, size_madeCells, hz1, Nat.mul_one]
        have HO := hide (made_own w2 M (ss.length + 1) hMl (by unfold maxLen; omega))
        clear hMl hM hi hz0 hz1 hz2 etn
        go_wp2
        go_loopw [9, 10] (fun v i wr => ∃ (k : Nat), i = .int .i64 k ∧ k ≤ m ∧ SOwn w2.heap.size wr v (ss.take k) ∧ Below w2.heap.size w2 wr) (fun _ i _ => m - (intOf i).toNat)
        case atStart => exact ⟨0, rfl, Nat.zero_le _, HO.out, below_alloc _ _⟩
        case round =>
          obtain ⟨k2, rfl, hk2, hown0, hbel0⟩ := hrel
          have hown := hide hown0; clear hown0
          have hbel := hide hbel0; clear hbel0
          by_cases hlt2 : k2 < m
          · have e2 := HA2.out (by omega)
            subst e2
            have hx := hcell2.out k2 (by omega)
            have hx' : wr.cell? ⟨g', o' + k2, none⟩ = some (.string (ss.getD k2 ByteArray.empty)) := by rw [hbel.out.cell (block_lt_of_cell hx)]; exact hx
            clear hx
            have htk := hide (take_one ss k2 (by omega))
            obtain ⟨X, hX⟩ : ∃ X, X = ss.getD k2 ByteArray.empty := ⟨_, rfl⟩
            rw [← hX] at hx' htk
            clear hX
            have hk0 : (0 : Int) ≤ (k2 : Int) := by omega
            have hk1 : (k2 : Int) < (ss.length : Int) := by omega
            have hk3 : (k2 : Int) < (m : Int) := by omega
            have hsz := hbel.out.size
            have S1 := hide (hown.out.alloc (.cells #[.string X] 9))
            have S2 := hide (show (wr.alloc (.cells #[.string X] 9)).cell? ⟨wr.heap.size, 0, none⟩ = some (.string X) from by rw [cell_of_row _ _ _ _ _ _ (heap_alloc_new _ _)]; rfl)
            have S3 := hide (show (ss.take k2).length + 1 ≤ 1048577 from by rw [List.length_take]; omega)
            go_wp2_with (at_builtin; refine wpList_sapp _ rfl (.tmp 62) (.tmp 67) rfl w2.heap.size _ (ss.take k2) X _ rfl rfl S1.out S2.out ?h3 S3.out ?_)
            case h3 => first | omega | (simp; omega)
            intro v3 w3 hown3 hbel3
            have HO3 := hide hown3; clear hown3
            have HB3 := hide hbel3; clear hbel3
            go_wp2
            go_roundw
            case rel =>
              refine ⟨k2 + 1, by go_num, by omega, by rw [htk.out]; exact HO3.out, ?_⟩
              exact (hbel.out.alloc hbel.out.size _).trans HB3.out
            case measure => simp [intOf]; omega
          · have ek : k2 = m := by omega
            subst ek
            have hsz := hbel.out.size
            have S1 := hide (hown.out.alloc (.cells #[.string t] 9))
            have S2 := hide (show (wr.alloc (.cells #[.string t] 9)).cell? ⟨wr.heap.size, 0, none⟩ = some (.string t) from by rw [cell_of_row _ _ _ _ _ _ (heap_alloc_new _ _)]; rfl)
            have S3 := hide (show (ss.take k2).length + 1 ≤ 1048577 from by rw [List.length_take]; omega)
            go_wp2_with (at_builtin; refine wpList_sapp _ rfl (.tmp 69) (.tmp 71) rfl w2.heap.size _ (ss.take k2) t _ rfl rfl S1.out S2.out ?h3 S3.out ?_)
            case h3 => first | omega | (simp; omega)
            intro v3 w3 hown3 hbel3
            have HO3 := hide hown3; clear hown3
            have HB3 := hide ((hbel.out.alloc hbel.out.size _).trans hbel3); clear hbel3
            clear S1 S2 S3 hown hbel
            go_wp2
            go_loopw [9, 11] (fun v i wr => ∃ (k : Nat), i = .int .i64 k ∧ k2 ≤ k ∧ k ≤ ss.length ∧ SOwn w2.heap.size wr v (ss.take k2 ++ [t] ++ (ss.take k).drop k2) ∧ Below w2.heap.size w2 wr) (fun _ i _ => ss.length - (intOf i).toNat)
            case atStart => exact ⟨k2, rfl, Nat.le_refl _, hmn, by simpa using HO3.out, HB3.out⟩
            case round =>
              obtain ⟨k3, rfl, hk3a, hk3, hown0, hbel0⟩ := hrel
              have hown := hide hown0; clear hown0
              have hbel := hide hbel0; clear hbel0
              by_cases hlt3 : k3 < ss.length
              · have e2 := HA2.out (by omega)
                subst e2
                have hx := hcell2.out k3 hlt3
                have hx' : wr.cell? ⟨g', o' + k3, none⟩ = some (.string (ss.getD k3 ByteArray.empty)) := by rw [hbel.out.cell (block_lt_of_cell hx)]; exact hx
                clear hx
                have htk := hide (mid_one ss k2 k3 hk3a hlt3)
                obtain ⟨X, hX⟩ : ∃ X, X = ss.getD k3 ByteArray.empty := ⟨_, rfl⟩
                rw [← hX] at hx' htk
                clear hX
                have hk0 : (0 : Int) ≤ (k3 : Int) := by omega
                have hk1 : (k3 : Int) < (ss.length : Int) := by omega
                have hsz := hbel.out.size
                have S1 := hide (hown.out.alloc (.cells #[.string X] 9))
                have S2 := hide (show (wr.alloc (.cells #[.string X] 9)).cell? ⟨wr.heap.size, 0, none⟩ = some (.string X) from by rw [cell_of_row _ _ _ _ _ _ (heap_alloc_new _ _)]; rfl)
                have S3 := hide (show (ss.take k2 ++ [t] ++ (ss.take k3).drop k2).length + 1 ≤ 1048577 from by simp only [List.length_append, List.length_take, List.length_drop, List.length_cons, List.length_nil]; omega)
                go_wp2_with (at_builtin; refine wpList_sapp _ rfl (.tmp 80) (.tmp 85) rfl w2.heap.size _ (ss.take k2 ++ [t] ++ (ss.take k3).drop k2) X _ rfl rfl S1.out S2.out ?h3 S3.out ?_)
                case h3 => first | omega | (simp; omega)
                intro v4 w4 hown4 hbel4
                have HO4 := hide hown4; clear hown4
                have HB4 := hide hbel4; clear hbel4
                go_wp2
                go_roundw
                case rel =>
                  refine ⟨k3 + 1, by go_num, by omega, by omega, ?_, (hbel.out.alloc hbel.out.size _).trans HB4.out⟩
                  rw [htk.out]
                  simpa only [List.append_assoc, List.cons_append, List.nil_append] using HO4.out
                case measure => simp [intOf]; omega
              · have e3 : (ss.take k3).drop k2 = ss.drop k2 := by rw [List.take_of_length_le (by omega)]
                have hown1 := hown.out
                rw [e3] at hown1
                obtain ⟨aw, cw, ew⟩ := hown1.form
                have HRw := hide hown1.row
                clear hown hown1 e3
                have Hbw := hide (HB.out.trans (hbel.out.mono HB.out.size))
                have HRc := hide (HR.out.to hbel.out)
                clear hbel HO3 HB3
                rw [ew] at HRw
                obtain ⟨Nw, hNw⟩ : ∃ Nw, Nw = (ss.take k2 ++ [t] ++ ss.drop k2).length := ⟨_, rfl⟩
                rw [← hNw] at ew HRw
                have hNl : Nw ≤ 65537 := by rw [hNw]; simp only [List.length_append, List.length_take, List.length_drop, List.length_cons, List.length_nil]; omega
                have HNw := hide hNw; clear hNw
                subst ew
                have hjW := joined_size (ss.take k2 ++ [t] ++ ss.drop k2)
                have hjL := joined_size (ss.take k2)
                have hjR := joined_size (ss.drop k2)
                have hspl := sizes_split ss k2
                have hszW : sizes (ss.take k2 ++ [t] ++ ss.drop k2) = sizes (ss.take k2) + t.size + sizes (ss.drop k2) := by rw [sizes_append, sizes_append]; simp [sizes]
                rw [hszW, ← HNw.out] at hjW
                rw [List.length_take] at hjL
                rw [List.length_drop] at hjR
                obtain ⟨W, hW⟩ : ∃ W, W = joined (ss.take k2 ++ [t] ++ ss.drop k2) := ⟨_, rfl⟩
                obtain ⟨L, hL⟩ : ∃ L, L = joined (ss.take k2) := ⟨_, rfl⟩
                obtain ⟨R, hR⟩ : ∃ R, R = joined (ss.drop k2) := ⟨_, rfl⟩
                rw [← hW] at hjW
                rw [← hL] at hjL
                rw [← hR] at hjR
                have bW : W.size ≤ 3000000 := by omega
                have bL : L.size ≤ 3000000 := by omega
                have bR : R.size ≤ 3000000 := by omega
                have HW := hide hW; clear hW
                have HL := hide hL; clear hL
                have HRr := hide hR; clear hR
                clear hjW hjL hjR hspl hszW
                have hsep : (⟨#[44, 32]⟩ : ByteArray).size = 2 := rfl
                have m0 : (0 : Int) ≤ (k2 : Int) := by omega
                have m1 : (k2 : Int) ≤ (ss.length : Int) := by omega
                go_wp2_with fail
                refine (newKey_any _ _ _ _).mono ?_
                rintro e w4 ⟨rfl, rfl⟩
                go_wp2_with fail
                refine (columns_any _ _ (ss.take k2 ++ [t] ++ ss.drop k2) _ ?_ (HRw.out.to (below_alloc _ _)) (by rw [← HNw.out]; omega) (by rw [← HW.out]; omega)).mono ?_
                · rw [cell_of_row _ _ _ _ _ _ (heap_alloc_new _ _)]; rfl
                rw [← HW.out]
                rintro e w5 ⟨rfl, B5⟩
                have HR5 := hide ((HRc.out.to (below_alloc _ _)).to B5)
                have HB5 := hide ((Hbw.out.trans ((below_alloc wr _).mono Hbw.out.size)).trans (B5.mono (by have := Hbw.out.size; simp; omega)))
                clear B5
                by_cases hn0 : ss.length = 0
                · have hss : ss = [] := List.eq_nil_of_length_eq_zero hn0
                  have hm0 : k2 = 0 := by omega
                  subst hm0
                  subst hss
                  have q2 : (W.toList == t.toList) = true := by rw [HW.out]; simp [joined_one]
                  go_wp2
                  go_ret
                  exact ⟨rfl, HB5.out⟩
                · have e2 := HA2.out (by omega)
                  have hg : ∃ g2, ao2 = some ⟨g2, 0, none⟩ := by
                    rcases Hao2.out with h | h
                    · rw [h] at e2; cases e2
                    · exact h
                  obtain ⟨g2, eg⟩ := hg
                  clear Hao2 HA2 hcell2 e2
                  subst eg
                  have hp : 0 < ss.length := by omega
                  rcases Nat.lt_or_ge k2 ss.length with hm | hm
                  · by_cases hm0 : k2 = 0
                    · subst hm0
                      have q2 : (W.toList == (t ++ (⟨#[44, 32]⟩ : ByteArray) ++ R).toList) = true := by
                        have := joined_append [t] ss (by simp) (by intro h; rw [h] at hp; simp at hp)
                        rw [HW.out, HRr.out]
                        simp only [List.take_zero, List.nil_append, List.drop_zero]
                        rw [this, joined_one]; simp [sep]
                      have m2 : ¬ 0 = ss.length := by omega
                      have HD := hide (show SRow w5 (.slice (some ⟨g2, 0, none⟩) ss.length ss.length) (ss.drop 0) from by simpa using HR5.out)
                      go_wp2_with fail
                      refine (newKey_any _ _ _ _).mono ?_
                      rintro e w8 ⟨rfl, rfl⟩
                      go_wp2_with fail
                      refine (columns_any _ _ (ss.drop 0) _ ?_ (HD.out.to (below_alloc _ _)) (by rw [List.length_drop]; omega) (by rw [← HRr.out]; omega)).mono ?_
                      · rw [cell_of_row _ _ _ _ _ _ (heap_alloc_new _ _)]; rfl
                      rw [← HRr.out]
                      rintro e w9 ⟨rfl, B9⟩
                      have HB9 := hide ((HB5.out.trans ((below_alloc w5 _).mono HB5.out.size)).trans (B9.mono (by have := HB5.out.size; simp; omega)))
                      clear B9
                      go_wp2
                      go_ret
                      exact ⟨rfl, HB9.out⟩
                    · have q2 : (W.toList == (L ++ (⟨#[44, 32]⟩ : ByteArray) ++ t ++ (⟨#[44, 32]⟩ : ByteArray) ++ R).toList) = true := by
                        have h1 := joined_append (ss.take k2 ++ [t]) (ss.drop k2) (by simp) (by intro h; have := congrArg List.length h; rw [List.length_drop, List.length_nil] at this; omega)
                        have h2 := joined_append (ss.take k2) [t] (by intro h; have := congrArg List.length h; rw [List.length_take, List.length_nil] at this; omega) (by simp)
                        rw [h2, ← HW.out, ← HL.out, ← HRr.out, joined_one] at h1
                        rw [h1]; simp [sep]
                      have q3 : (0 : Int) < (k2 : Int) := by omega
                      have q4 : (k2 : Int) < (ss.length : Int) := by omega
                      have m2 : ¬ k2 = ss.length := by omega
                      have m3 : ¬ ss.length - k2 = 0 := by omega
                      have HT := hide (HR5.out.take k2 hmn)
                      go_wp2_with fail
                      refine (newKey_any _ _ _ _).mono ?_
                      rintro e w6 ⟨rfl, rfl⟩
                      go_wp2_with fail
                      refine (columns_any _ _ (ss.take k2) _ ?_ (HT.out.to (below_alloc _ _)) (by rw [List.length_take]; omega) (by rw [← HL.out]; omega)).mono ?_
                      · rw [cell_of_row _ _ _ _ _ _ (heap_alloc_new _ _)]; rfl
                      rw [← HL.out]
                      rintro e w7 ⟨rfl, B7⟩
                      have HR7 := hide ((HR5.out.to (below_alloc _ _)).to B7)
                      have HB7 := hide ((HB5.out.trans ((below_alloc w5 _).mono HB5.out.size)).trans (B7.mono (by have := HB5.out.size; simp; omega)))
                      clear B7
                      have HD := hide (show SRow w7 (.slice (some ⟨g2, k2, none⟩) (ss.length - k2) (ss.length - k2)) (ss.drop k2) from by simpa using HR7.out.drop k2 hmn)
                      go_wp2_with fail
                      refine (newKey_any _ _ _ _).mono ?_
                      rintro e w8 ⟨rfl, rfl⟩
                      go_wp2_with fail
                      refine (columns_any _ _ (ss.drop k2) _ ?_ (HD.out.to (below_alloc _ _)) (by rw [List.length_drop]; omega) (by rw [← HRr.out]; omega)).mono ?_
                      · rw [cell_of_row _ _ _ _ _ _ (heap_alloc_new _ _)]; rfl
                      rw [← HRr.out]
                      rintro e w9 ⟨rfl, B9⟩
                      have HB9 := hide ((HB7.out.trans ((below_alloc w7 _).mono HB7.out.size)).trans (B9.mono (by have := HB7.out.size; simp; omega)))
                      clear B9
                      go_wp2
                      go_ret
                      exact ⟨rfl, HB9.out⟩
                  · have hm' : k2 = ss.length := by omega
                    subst hm'
                    have q2 : (W.toList == (L ++ (⟨#[44, 32]⟩ : ByteArray) ++ t).toList) = true := by
                      have := joined_append ss [t] (by intro h; rw [h] at hp; simp at hp) (by simp)
                      rw [HW.out, HL.out]
                      simp only [List.take_length, List.drop_length, List.append_nil]
                      rw [this, joined_one]; simp [sep]
                    have q3 : (0 : Int) < (ss.length : Int) := by omega
                    have HT := hide (HR5.out.take ss.length hmn)
                    go_wp2_with fail
                    refine (newKey_any _ _ _ _).mono ?_
                    rintro e w6 ⟨rfl, rfl⟩
                    go_wp2_with fail
                    refine (columns_any _ _ (ss.take ss.length) _ ?_ (HT.out.to (below_alloc _ _)) (by rw [List.length_take]; omega) (by rw [← HL.out]; omega)).mono ?_
                    · rw [cell_of_row _ _ _ _ _ _ (heap_alloc_new _ _)]; rfl
                    rw [← HL.out]
                    rintro e w7 ⟨rfl, B7⟩
                    have HR7 := hide ((HR5.out.to (below_alloc _ _)).to B7)
                    have HB7 := hide ((HB5.out.trans ((below_alloc w5 _).mono HB5.out.size)).trans (B7.mono (by have := HB5.out.size; simp; omega)))
                    clear B7
                    go_wp2
                    go_ret
                    exact ⟨rfl, HB7.out⟩
end Go.Proofs.Qxb6616648a

import Derived.Test.Qxb6616648aFmtNeg
namespace Go.Proofs.Qxb6616648aFmt
open Go.RowKit Go.Extern.Stop Go.Stop Go.Extern Go.Kit
set_option linter.unusedVariables false

theorem itoa_digit (i d : Nat) (h : 1 ≤ i) (hd : d ≤ 9) : Lib.itoa (10 * (i : Int) + d) = Lib.itoa i ++ [UInt8.ofNat (48 + d)] := by
  rw [Lib.itoa, if_neg (by omega), Lib.itoa, if_neg (by omega)]
  have e1 : (10 * (i : Int) + d).toNat = 10 * i + d := by omega
  have e2 : ((i : Nat) : Int).toNat = i := by omega
  rw [e1, e2, Lib.decDigits, dif_neg (by omega)]
  rw [show (10 * i + d) / 10 = i by omega, show (10 * i + d) % 10 = d by omega]

theorem txt_digit (i d : Nat) (D : UInt8) (h : 1 ≤ i) (hd : d ≤ 9) (hD : D = UInt8.ofNat (48 + d)) : txt i ++ (⟨#[D]⟩ : ByteArray) = txt (10 * (i : Int) + d) := by
  apply ByteArray.ext
  rw [ByteArray.data_append]
  apply Array.ext'
  simp [txt, itoa_digit i d h hd, hD]

set_option maxHeartbeats 400000 in
theorem dig_any (F : Interp) (i d : Nat) (w : World) (hF : F.told.answers w.tape) (h1 : 1 ≤ i) (h2 : i ≤ 922337203685477579) (hd : d ≤ 9) :
    Calls Tryf.prog 3 #[.int .i64 i, .int .i64 d] w fun e w' => e = .returned (.bool true) ∧ Below w.heap.size w w' := by
  have t1 : ¬ (i : Int) < 1 := by omega
  have t2 : ¬ (922337203685477579 : Int) < (i : Int) := by omega
  have t3 : ¬ (d : Int) < 0 := by omega
  have t4 : ¬ (9 : Int) < (d : Int) := by omega
  have t5 : decide ((i : Int) < 1) = false := by simp; omega
  have t6 : decide ((d : Int) < 0) = false := by simp
  go_enter Tryf.func3, Tryf.ntmps3
  go_wp2_with fail
  refine (bound5 F (10 * (i : Int) + d) _ hF (wf_i64 _ (by omega) (by omega))).mono ?_
  rintro e w1 ⟨rfl, b1⟩
  have hF1 := told_tape hF b1
  have B1 := hide b1; clear b1
  go_wp2_with fail
  refine (bound5 F (i : Int) _ hF1 (wf_i64 _ (by omega) (by omega))).mono ?_
  rintro e w2 ⟨rfl, b2⟩
  have B2 := hide (B1.out.trans (b2.mono B1.out.size)); clear b2
  obtain ⟨S, hS⟩ : ∃ S : ByteArray, S = ⟨(Lib.itoa i).toArray⟩ := ⟨_, rfl⟩
  obtain ⟨P, hP⟩ : ∃ P : ByteArray, P = txt i := ⟨_, rfl⟩
  obtain ⟨N, hN⟩ : ∃ N : ByteArray, N = txt (10 * (i : Int) + d) := ⟨_, rfl⟩
  obtain ⟨D, hD⟩ : ∃ D : UInt8, D = UInt8.ofNat (48 + d) := ⟨_, rfl⟩
  obtain ⟨Z, hZ⟩ : ∃ Z : ByteArray, Z = ⟨#[D]⟩ := ⟨_, rfl⟩
  have hl := FmtText.itoa_length_le (wf_i64 (i : Int) (by omega) (by omega))
  have hsz2 : P.size ≤ 100 := by rw [hP, txt_size]; omega
  have hsz3 : S.size ≤ 100 := by rw [hS]; simp [ByteArray.size]; omega
  have hsz4 : Z.size ≤ 100 := by rw [hZ]; simp [ByteArray.size]
  have e1 : (P.toList == ((⟨#[107]⟩ : ByteArray) ++ S).toList) = true := by rw [hP, hS, txt_cat]; simp
  have e2 : (N.toList == (P ++ Z).toList) = true := by rw [hP, hN, hZ, txt_digit i d D h1 hd hD]; simp
  have e3 : (⟨#[107]⟩ : ByteArray).size = 1 := rfl
  clear hl
  rw [← hP, ← hN]
  have HS := hide hS; clear hS
  have HP := hide hP; clear hP
  have HN := hide hN; clear hN
  have HD := hide hD; clear hD
  have HZ := hide hZ; clear hZ
  go_wp2_with fail
  refine (zzItoa_pos i _ h1 (by omega)).mono ?_
  rintro e w3 ⟨rfl, b3⟩
  have B3 := hide (B2.out.trans (b3.mono B2.out.size)); clear b3
  rw [← HS.out]
  go_wp2_with fail
  refine (zzDigit_any d D _ hd HD.out).mono ?_
  rintro e w4 ⟨rfl, b4⟩
  have B4 := hide (B3.out.trans (b4.mono B3.out.size)); clear b4
  rw [← HZ.out]
  go_wp2
  go_ret
  exact ⟨rfl, B4.out⟩

theorem dig_out (i d : Int) (w : World) (h : i < 1 ∨ 922337203685477579 < i ∨ d < 0 ∨ 9 < d) :
    Calls Tryf.prog 3 #[.int .i64 i, .int .i64 d] w fun e w' => e = .returned (.bool true) ∧ Below w.heap.size w w' := by
  by_cases a1 : i < 1
  · go_enter Tryf.func3, Tryf.ntmps3
    go_wp2
    go_ret
    exact ⟨rfl, Below.refl _ _⟩
  have t1 : decide (i < 1) = false := by simpa using a1
  by_cases a2 : 922337203685477579 < i
  · go_enter Tryf.func3, Tryf.ntmps3
    go_wp2
    go_ret
    exact ⟨rfl, Below.refl _ _⟩
  by_cases a3 : d < 0
  · go_enter Tryf.func3, Tryf.ntmps3
    go_wp2
    go_ret
    exact ⟨rfl, Below.refl _ _⟩
  have t3 : decide (d < 0) = false := by simpa using a3
  have a4 : 9 < d := by omega
  clear h
  go_enter Tryf.func3, Tryf.ntmps3
  go_wp2
  go_ret
  exact ⟨rfl, Below.refl _ _⟩

theorem dig_all (F : Interp) (i d : Int) (w : World) (hF : F.told.answers w.tape) :
    Calls Tryf.prog 3 #[.int .i64 i, .int .i64 d] w fun e w' => e = .returned (.bool true) ∧ Below w.heap.size w w' := by
  by_cases h : i < 1 ∨ 922337203685477579 < i ∨ d < 0 ∨ 9 < d
  · exact dig_out i d w h
  · obtain ⟨n, rfl⟩ := Int.eq_ofNat_of_zero_le (show 0 ≤ i by omega)
    obtain ⟨m, rfl⟩ := Int.eq_ofNat_of_zero_le (show 0 ≤ d by omega)
    exact dig_any F n m w hF (by omega) (by omega) (by omega)
end Go.Proofs.Qxb6616648aFmt

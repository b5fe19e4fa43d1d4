import Derived.Test.Qxb6616648aFmtText
import Derived.Test.Qxb6616648aFmtItoa
namespace Go.Proofs.Qxb6616648aFmt
open Go.RowKit Go.Extern.Stop Go.Stop Go.Extern Go.Kit
set_option linter.unusedVariables false

theorem wf_i64 (i : Int) (h1 : -9223372036854775808 ≤ i) (h2 : i ≤ 9223372036854775807) : (Lit.int .i64 i).wf = true := by
  simp [Lit.wf, IntKind.min, IntKind.max, IntKind.signed, IntKind.bits]
  omega

theorem itoa_neg (i : Nat) (h : 1 ≤ i) : Lib.itoa (-(i : Int)) = 45 :: Lib.itoa i := by
  rw [Lib.itoa, if_pos (by omega), Lib.itoa, if_neg (by omega)]
  simp

theorem told_tape {F : Interp} {w w' : World} {B : Nat} (hF : F.told.answers w.tape) (hb : Below B w w') : F.told.answers w'.tape := by
  rw [hb.tape]; exact hF

theorem txt_cat (i : Int) : (⟨#[107]⟩ : ByteArray) ++ ⟨(Lib.itoa i).toArray⟩ = txt i := by
  apply ByteArray.ext
  rw [ByteArray.data_append]
  simp [txt]
theorem txt_size (i : Int) : (txt i).size = (Lib.itoa i).length + 1 := by simp [txt, ByteArray.size]
theorem txt_neg (i : Nat) (h : 1 ≤ i) : (⟨#[107, 45]⟩ : ByteArray) ++ (txt i).extract 1 (txt i).size = txt (-(i : Int)) := by
  apply ByteArray.ext
  rw [ByteArray.data_append, ByteArray.data_extract, txt_size]
  apply Array.ext'
  simp [txt, itoa_neg i h]

set_option maxHeartbeats 400000 in
theorem neg_any (F : Interp) (i : Nat) (w : World) (hF : F.told.answers w.tape) (h1 : 1 ≤ i) (h2 : i ≤ 9223372036854775807) :
    Calls Tryf.prog 4 #[.int .i64 i] w fun e w' => e = .returned (.bool true) ∧ Below w.heap.size w w' := by
  have t1 : ¬ (i : Int) < 1 := by omega
  go_enter Tryf.func4, Tryf.ntmps4
  go_wp2_with fail
  refine (bound5 F i _ hF (wf_i64 _ (by omega) (by omega))).mono ?_
  rintro e w1 ⟨rfl, b1⟩
  have hF1 := told_tape hF b1
  have B1 := hide b1; clear b1
  go_wp2_with fail
  refine (bound5 F (-(i : Int)) _ hF1 (wf_i64 _ (by omega) (by omega))).mono ?_
  rintro e w2 ⟨rfl, b2⟩
  have B2 := hide (B1.out.trans (b2.mono B1.out.size)); clear b2
  obtain ⟨S, hS⟩ : ∃ S : ByteArray, S = ⟨(Lib.itoa i).toArray⟩ := ⟨_, rfl⟩
  obtain ⟨P, hP⟩ : ∃ P : ByteArray, P = txt i := ⟨_, rfl⟩
  obtain ⟨N, hN⟩ : ∃ N : ByteArray, N = txt (-(i : Int)) := ⟨_, rfl⟩
  have hl := FmtText.itoa_length_le (wf_i64 (i : Int) (by omega) (by omega))
  have hsz : 1 ≤ P.size := by rw [hP, txt_size]; omega
  have hsz2 : P.size ≤ 100 := by rw [hP, txt_size]; omega
  have hsz3 : S.size ≤ 100 := by rw [hS]; simp [ByteArray.size]; omega
  have e1 : (P.toList == ((⟨#[107]⟩ : ByteArray) ++ S).toList) = true := by rw [hP, hS, txt_cat]; simp
  have e2 : (N.toList == ((⟨#[107, 45]⟩ : ByteArray) ++ P.extract 1 P.size).toList) = true := by rw [hP, hN, txt_neg i h1]; simp
  have e3 : (⟨#[107]⟩ : ByteArray).size = 1 := rfl
  have e4 : (⟨#[107, 45]⟩ : ByteArray).size = 2 := rfl
  clear hl
  rw [← hP, ← hN]
  have HS := hide hS; clear hS
  have HP := hide hP; clear hP
  have HN := hide hN; clear hN
  go_wp2_with fail
  refine (zzItoa_pos i _ h1 h2).mono ?_
  rintro e w3 ⟨rfl, b3⟩
  have B3 := hide (B2.out.trans (b3.mono B2.out.size)); clear b3
  rw [← HS.out]
  go_wp2
  go_ret
  exact ⟨rfl, B3.out⟩

theorem neg_small (i : Int) (w : World) (h : i < 1) :
    Calls Tryf.prog 4 #[.int .i64 i] w fun e w' => e = .returned (.bool true) ∧ Below w.heap.size w w' := by
  go_enter Tryf.func4, Tryf.ntmps4
  go_wp2
  go_ret
  exact ⟨rfl, Below.refl _ _⟩

theorem neg_all (F : Interp) (i : Int) (w : World) (hF : F.told.answers w.tape) (h2 : i ≤ 9223372036854775807) :
    Calls Tryf.prog 4 #[.int .i64 i] w fun e w' => e = .returned (.bool true) ∧ Below w.heap.size w w' := by
  by_cases h : i < 1
  · exact neg_small i w h
  · obtain ⟨n, rfl⟩ := Int.eq_ofNat_of_zero_le (show 0 ≤ i by omega)
    exact neg_any F n w hF (by omega) (by omega)
end Go.Proofs.Qxb6616648aFmt

import Derived.Test.Qxb6616481aUv
import Derived.Outline
import Derived.Lib.VarintBits
namespace Go.Proofs.Qxb6616481a
open Go.RowKit
set_option linter.unusedVariables false

/-- The decoder behind n rounds: the value so far is vv. -/
def St (pre rest : List Int) (x : Int) (n : Nat) (vv : Int) : Prop :=
  ∃ (f : Nat) (y : Int) (pre' : List Int), n + f = 9 ∧ pre'.length = pre.length + n ∧ pre ++ uv 9 x ++ rest = pre' ++ uv f y ++ rest ∧ 0 ≤ y ∧ 0 ≤ vv ∧ vv < 128 ^ n ∧ vv + y * 128 ^ n = x ∧ (n = 0 ∨ 1 ≤ y) ∧ (uv 9 x).length = n + (uv f y).length

theorem St.start (pre rest : List Int) (x : Int) (h : 0 ≤ x) : St pre rest x 0 0 := ⟨9, x, pre, rfl, rfl, rfl, h, by omega, by decide, by simp, .inl rfl, by simp⟩

theorem getD_mid (a : List Int) (c : Int) (b : List Int) (k : Nat) (h : a.length = k) : (a ++ c :: b).getD k 0 = c := by
  subst h
  simp

theorem mod_lt_pow (n : Nat) (vv y : Int) (h0 : 0 ≤ vv) (h1 : vv < 128 ^ n) : 0 ≤ vv + y % 128 * 128 ^ n ∧ vv + y % 128 * 128 ^ n < 128 ^ (n + 1) := by
  have hp : (0 : Int) < 128 ^ n := Int.pow_pos (by decide)
  have hm0 : 0 ≤ y % 128 := by omega
  have hm1 : y % 128 ≤ 127 := by omega
  rw [Int.pow_succ]
  generalize (128 : Int) ^ n = P at *
  generalize y % 128 = m at *
  have a1 : 0 ≤ m * P := Int.mul_nonneg hm0 (by omega)
  have a2 : m * P ≤ 127 * P := Int.mul_le_mul_of_nonneg_right hm1 (by omega)
  omega

theorem sum_pow (n : Nat) (vv y : Int) : vv + y % 128 * 128 ^ n + y / 128 * 128 ^ (n + 1) = vv + y * 128 ^ n := by
  rw [Int.pow_succ]
  generalize (128 : Int) ^ n = P
  have e : y = y % 128 + y / 128 * 128 := by omega
  generalize y % 128 = m at *
  generalize y / 128 = d at *
  subst e
  rw [Int.add_mul, Int.mul_assoc d 128 P, Int.mul_comm P 128]
  omega

theorem St.at {pre rest : List Int} {x : Int} {n : Nat} {vv : Int} (h : St pre rest x n vv) (hx1 : x ≤ 18446744073709551615) :
    n ≤ 9 ∧ pre.length + n < (pre ++ uv 9 x ++ rest).length ∧ 0 ≤ vv ∧ vv < 128 ^ n ∧
    ∃ C, (pre ++ uv 9 x ++ rest).getD (pre.length + n) 0 = C ∧
      ((128 ≤ C ∧ C ≤ 255 ∧ n ≤ 8 ∧ St pre rest x (n + 1) (vv + C % 128 * 128 ^ n)) ∨
       (0 ≤ C ∧ C < 128 ∧ (n = 0 ∨ 1 ≤ C) ∧ (n = 9 → C ≤ 1) ∧ vv + C * 128 ^ n = x ∧ (uv 9 x).length = n + 1)) := by
  obtain ⟨f, y, pre', hnf, hpl, hL, hy0, hv0, hv1, hsum, hne, hul⟩ := h
  refine ⟨by omega, ?_, hv0, hv1, ?_⟩
  · have := uv_pos f y
    rw [hL]; simp only [List.length_append]; omega
  have h9 : n = 9 → y ≤ 1 := by
    rintro rfl
    have e : (128 : Int) ^ 9 = 9223372036854775808 := by decide
    rw [e] at hsum
    omega
  by_cases hge : 128 ≤ y
  · cases f with
    | zero => have := h9 (by omega); omega
    | succ f' =>
      rw [uv_more f' y hge] at hL hul
      refine ⟨y % 128 + 128, ?_, .inl ⟨by omega, by omega, by omega, ?_⟩⟩
      · rw [hL, List.append_assoc, List.cons_append]
        exact getD_mid _ _ _ _ hpl
      · have em : (y % 128 + 128) % 128 = y % 128 := by omega
        rw [em]
        have hb := mod_lt_pow n vv y hv0 hv1
        refine ⟨f', y / 128, pre' ++ [y % 128 + 128], by omega, by simp [hpl]; omega, ?_, by omega, hb.1, hb.2, ?_, .inr (by omega), ?_⟩
        · rw [hL]; simp
        · rw [sum_pow]; exact hsum
        · rw [hul]; simp; omega
  · rw [uv_last f y (by omega)] at hL hul
    refine ⟨y, ?_, .inr ⟨hy0, by omega, hne, h9, hsum, by simpa using hul⟩⟩
    rw [hL, List.append_assoc, List.cons_append]
    exact getD_mid _ _ _ _ hpl
end Go.Proofs.Qxb6616481a

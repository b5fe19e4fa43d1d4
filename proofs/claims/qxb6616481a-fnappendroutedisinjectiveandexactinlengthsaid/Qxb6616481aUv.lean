import Derived.Test.Qxb6616481aApp
import Derived.WalkLawsBesides
import Derived.Lib.Varint
namespace Go.Proofs.Qxb6616481a
open Go.RowKit
set_option linter.unusedVariables false

/-- The varint of x, f groups at most behind the first. -/
def uv : Nat → Int → List Int
  | 0, x => [x]
  | f + 1, x => if 128 ≤ x then (x % 128 + 128) :: uv f (x / 128) else [x]

theorem uv_more (f : Nat) (x : Int) (h : 128 ≤ x) : uv (f + 1) x = (x % 128 + 128) :: uv f (x / 128) := by simp [uv, h]
theorem uv_last (f : Nat) (x : Int) (h : x < 128) : uv f x = [x] := by
  cases f with
  | zero => rfl
  | succ f => rw [uv, if_neg (by omega)]
theorem uv_len (f : Nat) : ∀ x, (uv f x).length ≤ f + 1 := by
  induction f with
  | zero => intro x; simp [uv]
  | succ f ih =>
    intro x
    rw [uv]
    split
    · have := ih (x / 128); simp; omega
    · simp
theorem uv_pos (f : Nat) (x : Int) : 0 < (uv f x).length := by
  cases f with
  | zero => simp [uv]
  | succ f => rw [uv]; split <;> simp
theorem div_step (f : Nat) (y : Int) (h : y < 128 ^ (f + 2)) : y / 128 < 128 ^ (f + 1) := by
  apply Int.ediv_lt_of_lt_mul (by decide)
  rw [← Int.pow_succ]
  exact h
theorem pow_one' {y : Int} (h : y < 128 ^ (0 + 1)) : y < 128 := by simpa using h
theorem or128 (y : Int) (h0 : 0 ≤ y) : bits .or .u8 (y % 256) 128 = y % 128 + 128 := by
  rw [Lib.u8_or128_any (y % 256) (by omega) (by omega)]
  omega

theorem row_one (w : World) (x : Int) (H : Nat) (hH : H = w.heap.size) : Row .u8 (w.alloc (.cells #[.int .u8 x] 5)) (.slice (some ⟨H, 0, none⟩) 1 1) [x] :=
  (tight_lit .u8 w [x] _ 5 (0, 0) H 1 rfl hH rfl (by simp [maxLen])).row

theorem grown_alloc {B : Nat} {w : World} {v : Value} {xs : List Int} (h : Tight .u8 w v xs ∨ Own B w v xs) (o : Obj) (y : Int) : (Tight .u8 (w.alloc o) v xs ∧ [y] ≠ []) ∨ Own B (w.alloc o) v xs :=
  h.imp (fun h => ⟨h.to ((Below.refl _ w).alloc (Nat.le_refl _) o), by simp⟩) (fun h => h.alloc o)

set_option maxHeartbeats 400000 in
theorem appendUvarint_any (B : Nat) (v : Value) (xs : List Int) (x : Int) (w : World) (hx0 : 0 ≤ x) (hx1 : x ≤ 18446744073709551615) (hv : Tight .u8 w v xs ∨ Own B w v xs) (hB : B ≤ w.heap.size) (hlen : xs.length ≤ 1073741824) :
    Calls Try.prog 23 #[v, .int .u64 x] w fun e w' => ∃ v', e = .returned v' ∧ Own B w' v' (xs ++ uv 9 x) ∧ Below B w w' := by
  have HV := hide hv; clear hv
  go_enter Try.func23, Try.ntmps23
  go_wp2
  go_loopw [0, 1] (fun v x' wr => ∃ (f : Nat) (y : Int) (ys : List Int), x' = .int .u64 y ∧ 0 ≤ y ∧ y < 128 ^ (f + 1) ∧ y ≤ 18446744073709551615 ∧ uv 9 x = ys ++ uv f y ∧ (Tight .u8 wr v (xs ++ ys) ∨ Own B wr v (xs ++ ys)) ∧ Below B w wr ∧ B ≤ wr.heap.size) (fun _ x _ => (intOf x).toNat)
  case atStart => exact ⟨9, x, [], rfl, hx0, by have : (128 : Int) ^ (9 + 1) = 1180591620717411303424 := by decide
                                                omega, hx1, rfl, by simpa using HV.out, Below.refl _ _, hB⟩
  case round =>
    obtain ⟨f, y, ys, rfl, hy0, hyf0, hy1, huv0, hrow0, hbel0, hBr⟩ := hrel
    have hyf := hide hyf0; clear hyf0
    have huv := hide huv0; clear huv0
    have hrow := hide hrow0; clear hrow0
    have hbel := hide hbel0; clear hbel0
    have hyl : ys.length ≤ 10 := by
      have h1 := uv_len 9 x
      have h2 := congrArg List.length huv.out
      rw [List.length_append] at h2
      omega
    by_cases hge : 128 ≤ y
    · have hor := or128 y hy0
      obtain ⟨f', hf⟩ : ∃ f', f = f' + 1 := by
        cases f with
        | zero => have := pow_one' hyf.out; omega
        | succ f' => exact ⟨f', rfl⟩
      subst hf
      go_wp2_with (at_builtin; refine wpList_app _ rfl (.tmp 7) (.tmp 11) rfl B _ _ (xs ++ ys) [y % 128 + 128] rfl rfl (grown_alloc hrow.out _ _) (row_one wr _ _ rfl) ?h3 ?h4 ?_)
      case h3 => simp; omega
      case h4 => simp; omega
      intro v' w1 hown hb1
      have HO := hide hown; clear hown
      have HB := hide hb1; clear hb1
      have hsz := HB.out.size
      go_wp2
      go_roundw
      case rel =>
        refine ⟨f', y / 128, ys ++ [y % 128 + 128], rfl, by omega, div_step f' y hyf.out, by omega, ?_, .inr ?_, ?_, ?_⟩
        · rw [huv.out, uv_more f' y hge, List.append_assoc]; rfl
        · simpa only [List.append_assoc] using HO.out
        · exact (hbel.out.alloc hBr _).trans HB.out
        · simp at hsz; omega
      case measure => simp [intOf]; omega
    · have hor : y % 256 = y := by omega
      have hlt : y < 128 := by omega
      go_wp2_with (at_builtin; refine wpList_app _ rfl (.tmp 15) (.tmp 18) rfl B _ _ (xs ++ ys) [y] rfl rfl (grown_alloc hrow.out _ _) (row_one wr _ _ rfl) ?h3 ?h4 ?_)
      case h3 => omega
      case h4 => omega
      intro v' w1 hown hb1
      have HO := hide hown; clear hown
      have HB := hide hb1; clear hb1
      go_wp2
      go_ret
      refine ⟨v', rfl, ?_, (hbel.out.alloc hBr _).trans HB.out⟩
      rw [huv.out, uv_last f y hlt]
      simpa only [List.append_assoc] using HO.out
end Go.Proofs.Qxb6616481a

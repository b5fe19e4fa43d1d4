import Derived.Test.Qxb6616481aEq
import Derived.Test.Qxb6616481aPorts
import Derived.Test.Qxb6616481aLens
import Derived.Test.Qxb6616481aGate
import Derived.Test.Qxb6616481aDec
namespace Go.Proofs.Qxb6616481a
open Go.RowKit
set_option linter.unusedVariables false

/-- The decoder's law in plain words: a varint is read off the head of a list in one way. -/
theorem uv_prefix (f : Nat) : ∀ (x y : Int) (a b : List Int), 0 ≤ x → 0 ≤ y → x < 128 ^ (f + 1) → y < 128 ^ (f + 1) → uv f x ++ a = uv f y ++ b → x = y ∧ a = b := by
  induction f with
  | zero =>
    intro x y a b _ _ _ _ h
    simp [uv] at h
    exact h
  | succ f ih =>
    intro x y a b hx0 hy0 hx hy h
    by_cases h1 : 128 ≤ x
    · rw [uv_more f x h1, List.cons_append] at h
      by_cases h2 : 128 ≤ y
      · rw [uv_more f y h2, List.cons_append] at h
        injection h with h3 h4
        obtain ⟨e1, e2⟩ := ih (x / 128) (y / 128) a b (by omega) (by omega) (div_step f x hx) (div_step f y hy) h4
        exact ⟨by omega, e2⟩
      · rw [uv_last (f + 1) y (by omega), List.cons_append] at h
        injection h with h3 h4
        omega
    · rw [uv_last (f + 1) x (by omega), List.cons_append] at h
      by_cases h2 : 128 ≤ y
      · rw [uv_more f y h2, List.cons_append] at h
        injection h with h3 h4
        omega
      · rw [uv_last (f + 1) y (by omega), List.cons_append] at h
        injection h with h3 h4
        exact ⟨h3, by simpa using h4⟩

theorem pow10' {x : Int} (h : x ≤ 18446744073709551615) : x < 128 ^ (9 + 1) := by
  have : (128 : Int) ^ (9 + 1) = 1180591620717411303424 := by decide
  omega

theorem uvs_inj : ∀ (cs ds a b : List Int), (∀ c ∈ cs, 0 ≤ c ∧ c ≤ 18446744073709551615) → (∀ c ∈ ds, 0 ≤ c ∧ c ≤ 18446744073709551615) → cs.length = ds.length → uvs cs ++ a = uvs ds ++ b → cs = ds ∧ a = b := by
  intro cs
  induction cs with
  | nil =>
    intro ds a b _ _ hl h
    cases ds with
    | nil => simpa [uvs] using h
    | cons d ds => simp at hl
  | cons c cs ih =>
    intro ds a b hc hd hl h
    cases ds with
    | nil => simp at hl
    | cons d ds =>
      simp only [uvs, List.flatMap_cons, List.append_assoc] at h
      have b1 := hc c (by simp)
      have b2 := hd d (by simp)
      obtain ⟨e1, e2⟩ := uv_prefix 9 c d _ _ b1.1 b2.1 (pow10' b1.2) (pow10' b2.2) h
      obtain ⟨e3, e4⟩ := ih ds a b (fun x hx => hc x (by simp [hx])) (fun x hx => hd x (by simp [hx])) (by simpa using hl) e2
      exact ⟨by rw [e1, e3], e4⟩

theorem enc_inj (cs ds a b xs : List Int) (hc : ∀ c ∈ cs, 0 ≤ c ∧ c ≤ 18446744073709551615) (hd : ∀ c ∈ ds, 0 ≤ c ∧ c ≤ 18446744073709551615) (h1 : cs.length ≤ 1048576) (h2 : ds.length ≤ 1048576) :
    xs ++ encR cs ++ a = xs ++ encR ds ++ b ↔ cs = ds ∧ a = b := by
  constructor
  · intro h
    rw [List.append_assoc, List.append_assoc] at h
    have h' := List.append_cancel_left h
    unfold encR at h'
    rw [List.append_assoc, List.append_assoc] at h'
    obtain ⟨e1, e2⟩ := uv_prefix 9 cs.length ds.length _ _ (by omega) (by omega) (pow10' (by omega)) (pow10' (by omega)) h'
    exact uvs_inj cs ds a b hc hd (by omega) e2
  · rintro ⟨rfl, rfl⟩
    rfl
end Go.Proofs.Qxb6616481a

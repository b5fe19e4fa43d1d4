import Derived.Test.Qxb6617615aDoorMem
import Derived.WalkLawsBesides
import Derived.BigCall
import Derived.BigGuard
namespace Go.Proofs.Qxb6617615aDoor
open Go.RowKit
set_option linter.unusedVariables false

/-- The value of one hexadecimal digit, or -1. -/
def hd (c : Int) : Int := if 48 ≤ c ∧ c ≤ 57 then c - 48 else if 97 ≤ c ∧ c ≤ 102 then c - 87 else if 65 ≤ c ∧ c ≤ 70 then c - 55 else -1

theorem hd_lo (c : Int) : -1 ≤ hd c := by
  unfold hd
  split
  · omega
  · split
    · omega
    · split <;> omega
theorem hd_hi (c : Int) : hd c ≤ 15 := by
  unfold hd
  split
  · omega
  · split
    · omega
    · split <;> omega

theorem hexDigit_any (c : Int) (w : World) : Calls Tryd.prog 9 #[.int .u8 c] w fun e w' => e = .returned (.int .i64 (hd c)) ∧ w' = w := by
  by_cases h1 : 48 ≤ c ∧ c ≤ 57
  · obtain ⟨h1, h2⟩ := h1
    have e := hide (show hd c = c - 48 from by simp [hd, h1, h2])
    go_enter Tryd.func9, Tryd.ntmps9
    go_wp2
    go_ret
    rw [e.out]
    exact ⟨by go_num, rfl⟩
  · by_cases h3 : 97 ≤ c ∧ c ≤ 102
    · obtain ⟨h3, h4⟩ := h3
      have e := hide (show hd c = c - 87 from by simp [hd, h3, h4]; omega)
      clear h1
      go_enter Tryd.func9, Tryd.ntmps9
      go_wp2
      go_ret
      rw [e.out]
      exact ⟨by go_num, rfl⟩
    · by_cases h5 : 65 ≤ c ∧ c ≤ 70
      · obtain ⟨h5, h6⟩ := h5
        have e := hide (show hd c = c - 55 from by simp [hd, h5, h6]; omega)
        clear h1 h3
        go_enter Tryd.func9, Tryd.ntmps9
        go_wp2
        go_ret
        rw [e.out]
        exact ⟨by go_num, rfl⟩
      · have e := hide (show hd c = -1 from by simp only [hd, if_neg h1, if_neg h3, if_neg h5])
        go_enter Tryd.func9, Tryd.ntmps9
        go_wp2
        all_goals (go_ret; rw [e.out]; exact ⟨rfl, rfl⟩)

/-- Does xs begin with a backslash, a 'u' and four hexadecimal digits? -/
def isE (xs : List Int) : Bool :=
  decide (6 ≤ xs.length) && decide (xs.getD 0 0 = 92) && decide (xs.getD 1 0 = 117) &&
    (decide (0 ≤ hd (xs.getD 2 0)) && decide (0 ≤ hd (xs.getD 3 0)) && decide (0 ≤ hd (xs.getD 4 0)) && decide (0 ≤ hd (xs.getD 5 0)))

theorem isE_short {xs : List Int} (h : ¬ 6 ≤ xs.length) : isE xs = false := by simp [isE, h]
theorem isE_dig {xs : List Int} (j : Nat) (h2 : 2 ≤ j) (h6 : j < 6) (h : hd (xs.getD j 0) < 0) : isE xs = false := by
  have : j = 2 ∨ j = 3 ∨ j = 4 ∨ j = 5 := by omega
  have hn : decide (0 ≤ hd (xs.getD j 0)) = false := decide_eq_false (by omega)
  rcases this with rfl | rfl | rfl | rfl <;> simp only [isE, hn, Bool.and_false, Bool.false_and]
theorem isE_all {xs : List Int} (hl : 6 ≤ xs.length) (h0 : xs.getD 0 0 = 92) (h1 : xs.getD 1 0 = 117) (h : ∀ j, 2 ≤ j → j < 6 → 0 ≤ hd (xs.getD j 0)) : isE xs = true := by
  simp only [isE, hl, h0, h1, h 2 (by omega) (by omega), h 3 (by omega) (by omega), h 4 (by omega) (by omega), h 5 (by omega) (by omega), decide_true, Bool.and_self]

set_option maxHeartbeats 800000 in
theorem isEscape_any (v : Value) (xs : List Int) (w : World) (hv : Row .u8 w v xs) :
    Calls Tryd.prog 8 #[v] w fun e w' => e = .returned (.bool (isE xs)) ∧ w' = w := by
  obtain ⟨ao, c, g, o, rfl, hc1, hc2, ha, hn, hcell⟩ := hv
  clear hc2
  by_cases hl : 6 ≤ xs.length
  · have e := ha (by omega)
    subst e
    clear ha hn
    have c0 : w.cell? ⟨g, o, none⟩ = some (.int .u8 (xs.getD 0 0)) := by simpa using hcell 0 (by omega)
    have c1 : w.cell? ⟨g, o + 1, none⟩ = some (.int .u8 (xs.getD 1 0)) := hcell 1 (by omega)
    have HC := hide hcell; clear hcell
    have hE := fun j h2 h6 h => isE_dig (xs := xs) j h2 h6 h
    have HE := hide hE; clear hE
    have HA := hide (fun h0 h1 h => isE_all (xs := xs) hl h0 h1 h)
    have H0 := hide (show xs.getD 0 0 ≠ 92 → isE xs = false from fun h => by simp only [isE, decide_eq_false h, Bool.and_false, Bool.false_and])
    have H1 := hide (show xs.getD 1 0 ≠ 117 → isE xs = false from fun h => by simp only [isE, decide_eq_false h, Bool.and_false, Bool.false_and])
    obtain ⟨b, hb⟩ : ∃ b, b = isE xs := ⟨_, rfl⟩
    rw [← hb] at HE HA H0 H1 ⊢
    clear hb
    by_cases e0 : xs.getD 0 0 = 92
    · by_cases e1 : xs.getD 1 0 = 117
      · rw [e0] at c0
        rw [e1] at c1
        have HA' := hide (HA.out e0 e1)
        clear HA H0 H1 e0 e1
        go_enter Tryd.func8, Tryd.ntmps8
        go_wp2
        go_loop [3] (fun i => ∃ (k : Nat), i = .int .i64 k ∧ 2 ≤ k ∧ k ≤ 6 ∧ ∀ j, 2 ≤ j → j < k → 0 ≤ hd (xs.getD j 0)) (fun i => 6 - (intOf i).toNat)
        case atStart => exact ⟨2, rfl, by omega, by omega, fun j h2 h6 => by omega⟩
        case round =>
          obtain ⟨k, rfl, hk2, hk6, hall0⟩ := hrel
          have hall := hide hall0; clear hall0
          by_cases hk : k < 6
          · have cx := HC.out k (by omega)
            obtain ⟨x, hx⟩ : ∃ x, x = xs.getD k 0 := ⟨_, rfl⟩
            rw [← hx] at cx
            have HX := hide hx; clear hx
            have hk1 : (k : Int) < (xs.length : Int) := by omega
            by_cases hd0 : hd x < 0
            · go_wp2_with (go_at_call 9; refine (hexDigit_any _ _).mono ?_; rintro e w' ⟨rfl, rfl⟩)
              go_ret
              exact ⟨by rw [HE.out k hk2 hk (by rw [← HX.out]; exact hd0)]; rfl, rfl⟩
            · go_wp2_with (go_at_call 9; refine (hexDigit_any _ _).mono ?_; rintro e w' ⟨rfl, rfl⟩)
              go_round
              case rel =>
                refine ⟨k + 1, by go_num, by omega, by omega, fun j h2 h6 => ?_⟩
                by_cases hjk : j = k
                · subst hjk; rw [← HX.out]; omega
                · exact hall.out j h2 (by omega)
              case measure => simp [intOf]; omega
          · go_wp2
            go_ret
            exact ⟨by rw [HA'.out (fun j h2 h6 => hall.out j h2 (by omega))]; rfl, rfl⟩
      · rw [e0] at c0
        have q := H1.out e1
        clear HA H0 H1 HE HC
        obtain ⟨x, hx⟩ : ∃ x, x = xs.getD 1 0 := ⟨_, rfl⟩
        rw [← hx] at c1 e1
        clear hx
        have t1 : (x == 117) = false := by simp [e1]
        go_enter Tryd.func8, Tryd.ntmps8
        go_wp2
        all_goals (go_ret; exact ⟨by rw [q]; rfl, rfl⟩)
    · have q := H0.out e0
      clear HA H0 H1 HE HC
      obtain ⟨x, hx⟩ : ∃ x, x = xs.getD 0 0 := ⟨_, rfl⟩
      rw [← hx] at c0 e0
      clear hx c1
      have t1 : (x == 92) = false := by simp [e0]
      go_enter Tryd.func8, Tryd.ntmps8
      go_wp2
      all_goals (go_ret; exact ⟨by rw [q]; rfl, rfl⟩)
  · have q := hide (isE_short (xs := xs) hl)
    clear ha hn hcell
    go_enter Tryd.func8, Tryd.ntmps8
    go_wp2
    go_ret
    exact ⟨by rw [q.out]; rfl, rfl⟩
end Go.Proofs.Qxb6617615aDoor

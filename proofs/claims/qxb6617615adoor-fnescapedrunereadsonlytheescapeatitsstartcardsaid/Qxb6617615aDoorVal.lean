import Derived.Test.Qxb6617615aDoorHex
namespace Go.Proofs.Qxb6617615aDoor
open Go.RowKit
set_option linter.unusedVariables false

/-- The value of the escape at the start of xs; 0 where there is none. -/
def evl (xs : List Int) : Int := if isE xs = true then hd (xs.getD 2 0) * 4096 + hd (xs.getD 3 0) * 256 + hd (xs.getD 4 0) * 16 + hd (xs.getD 5 0) else 0

theorem isE_out {xs : List Int} (h : isE xs = true) : 6 ≤ xs.length ∧ xs.getD 0 0 = 92 ∧ xs.getD 1 0 = 117 ∧ 0 ≤ hd (xs.getD 2 0) ∧ 0 ≤ hd (xs.getD 3 0) ∧ 0 ≤ hd (xs.getD 4 0) ∧ 0 ≤ hd (xs.getD 5 0) := by
  simp only [isE, Bool.and_eq_true, decide_eq_true_eq] at h
  obtain ⟨⟨⟨h1, h2⟩, h3⟩, ⟨⟨h4, h5⟩, h6⟩, h7⟩ := h
  exact ⟨h1, h2, h3, h4, h5, h6, h7⟩

set_option maxHeartbeats 800000 in
theorem escapeValue_any (v : Value) (xs : List Int) (w : World) (hv : Row .u8 w v xs) :
    Calls Tryd.prog 6 #[v] w fun e w' => e = .returned (.int .i32 (evl xs)) ∧ ∃ n, w' = w.drewN n := by
  have hv' := hide hv
  obtain ⟨ao, c, g, o, rfl, hc1, hc2, ha, hn, hcell⟩ := hv
  clear hc2
  obtain ⟨b, hb⟩ : ∃ b, isE xs = b := ⟨_, rfl⟩
  have hE := isEscape_any _ xs w hv'.out
  rw [hb] at hE
  have HE := hide hE; clear hE
  cases b with
  | false =>
    have e := hide (show evl xs = 0 from by simp only [evl, hb]; rfl)
    clear ha hn hcell hb
    go_enter Tryd.func6, Tryd.ntmps6
    go_wp2_with (go_at_call 8; refine (HE.out).mono ?_; rintro e w' ⟨rfl, rfl⟩)
    go_ret
    exact ⟨by rw [e.out]; rfl, 0, rfl⟩
  | true =>
    obtain ⟨hl, _, _, p2, p3, p4, p5⟩ := isE_out hb
    have e := ha (by omega)
    subst e
    clear ha hn
    have c2 := hcell 2 (by omega)
    have c3 := hcell 3 (by omega)
    have c4 := hcell 4 (by omega)
    have c5 := hcell 5 (by omega)
    have e := hide (show evl xs = hd (xs.getD 2 0) * 4096 + hd (xs.getD 3 0) * 256 + hd (xs.getD 4 0) * 16 + hd (xs.getD 5 0) from by simp only [evl, hb, if_true])
    generalize xs.getD 2 0 = x2 at c2 p2 e
    generalize xs.getD 3 0 = x3 at c3 p3 e
    generalize xs.getD 4 0 = x4 at c4 p4 e
    generalize xs.getD 5 0 = x5 at c5 p5 e
    have q2 := hd_hi x2
    have q3 := hd_hi x3
    have q4 := hd_hi x4
    have q5 := hd_hi x5
    clear hcell hb
    have l2 : (2 : Int) < (xs.length : Int) := by omega
    have l3 : (3 : Int) < (xs.length : Int) := by omega
    have l4 : (4 : Int) < (xs.length : Int) := by omega
    have l5 : (5 : Int) < (xs.length : Int) := by omega
    go_enter Tryd.func6, Tryd.ntmps6
    go_wp2_with (go_at_call 8; refine (HE.out).mono ?_; rintro e w' ⟨rfl, rfl⟩)
    go_quiet (first | (go_at_call 9; exact Calls.quiet_of_same (hexDigit_any _ _)))
    go_wp2
    go_ret
    exact ⟨by rw [e.out]; rfl, _, rfl⟩
end Go.Proofs.Qxb6617615aDoor

import Derived.Test.Qxb6616481aMem
import Derived.WalkLawsBesides
import Derived.Outline
namespace Go.Proofs.Qxb6616481a
open Go.RowKit

theorem ret_bool {a b : Bool} (h : a = b) : Ending.returned (.bool a) = .returned (.bool b) := by rw [h]

theorem eq_of_getD {xs ys : List Int} (hl : xs.length = ys.length) (h : ∀ j, j < xs.length → xs.getD j 0 = ys.getD j 0) : xs = ys := by
  apply List.ext_getElem hl
  intro i h1 h2
  have := h i h1
  simpa [h1, h2] using this

set_option maxHeartbeats 400000 in
theorem zzEq_any (v u : Value) (xs ys : List Int) (w : World) (hv : Row .u8 w v xs) (hu : Row .u8 w u ys) :
    Calls Try.prog 8 #[v, u] w fun e w' => e = .returned (.bool (decide (xs = ys))) ∧ ∃ n, w' = w.drewN n := by
  have hl1 := hv.len
  have hl2 := hu.len
  obtain ⟨ao, c, g, o, rfl, hc1, hc2, ha, -, hcell⟩ := hv
  obtain ⟨bo, d, g', o', rfl, hd1, hd2, hb, -, hcell'⟩ := hu
  unfold maxLen at hl1 hl2
  have HC := hide (hcell); clear hcell
  have HC' := hide (hcell'); clear hcell'
  have HA := hide (ha); clear ha
  have HB := hide (hb); clear hb
  by_cases hne : xs.length = ys.length
  case neg =>
    have hn : ((xs.length : Int) != (ys.length : Int)) = true := by rw [bne_iff_ne]; omega
    go_enter Try.func8, Try.ntmps8
    go_wp2
    go_ret
    exact ⟨ret_bool (by rw [eq_comm, decide_eq_false_iff_not]; intro h; exact hne (by rw [h])), 0, rfl⟩
  case pos =>
    have hn : ((xs.length : Int) != (ys.length : Int)) = false := by simp [hne]
    have HN : Hid (xs.length = ys.length) := hne
    have hne1 : xs.length ≤ ys.length := by omega
    have hne2 : ys.length ≤ xs.length := by omega
    clear hne
    go_enter Try.func8, Try.ntmps8
    go_wp2
    go_loopw [5] (fun i wr => ∃ k : Nat, i = .int .i64 k ∧ k ≤ xs.length ∧ (∀ j, j < k → xs.getD j 0 = ys.getD j 0) ∧ ∃ m, wr = w.drewN m) (fun i _ => xs.length - (intOf i).toNat)
    case atStart => exact ⟨0, rfl, Nat.zero_le _, fun j hj => by omega, 0, rfl⟩
    case round =>
      obtain ⟨k, rfl, hk, hall0, m, rfl⟩ := hrel
      have hall := hide (hall0); clear hall0
      by_cases hlt : k < xs.length
      · have hx := HC.out k hlt
        have hy := HC'.out k (by omega)
        have ea := HA.out (by omega)
        have eb := HB.out (by omega)
        subst ea eb
        have hk0 : (0 : Int) ≤ (k : Int) := by omega
        have hk1 : (k : Int) < (xs.length : Int) := by omega
        have hk2 : (k : Int) < (ys.length : Int) := by omega
        generalize hX : xs.getD k 0 = X at hx
        generalize hY : ys.getD k 0 = Y at hy
        have HX := (show Hid (xs.getD k 0 = X) from hX); clear hX
        have HY := (show Hid (ys.getD k 0 = Y) from hY); clear hY
        by_cases hxy : X = Y
        · have hb1 : (X != Y) = false := by simp [hxy]
          go_wp2
          go_quiet (fail)
          go_wp2
          go_roundw
          case rel =>
            refine ⟨k + 1, by go_num, by omega, fun j hj => ?_, m + nq, by first | rfl | exact World.drewN_drewN _ _ _⟩
            by_cases hjk : j < k
            · exact hall.out j hjk
            · obtain rfl : j = k := by omega
              rw [HX.out, HY.out, hxy]
          case measure => simp [intOf]; omega
        · have hb1 : (X != Y) = true := by simp [hxy]
          go_wp2
          go_quiet (fail)
          go_wp2
          go_ret
          refine ⟨ret_bool ?_, m + nq, by first | rfl | exact World.drewN_drewN _ _ _⟩
          rw [eq_comm, decide_eq_false_iff_not]
          intro h
          rw [h, HY.out] at HX
          exact hxy HX.out.symm
      · go_wp2
        go_ret
        refine ⟨ret_bool ?_, m, rfl⟩
        rw [eq_comm, decide_eq_true_iff]
        exact eq_of_getD HN.out (fun j hj => hall.out j (by omega))
set_option maxHeartbeats 400000 in
theorem zzEqU_any (v u : Value) (xs ys : List Int) (w : World) (hv : Row .u64 w v xs) (hu : Row .u64 w u ys) :
    Calls Try.prog 17 #[v, u] w fun e w' => e = .returned (.bool (decide (xs = ys))) ∧ ∃ n, w' = w.drewN n := by
  have hl1 := hv.len
  have hl2 := hu.len
  obtain ⟨ao, c, g, o, rfl, hc1, hc2, ha, -, hcell⟩ := hv
  obtain ⟨bo, d, g', o', rfl, hd1, hd2, hb, -, hcell'⟩ := hu
  unfold maxLen at hl1 hl2
  have HC := hide (hcell); clear hcell
  have HC' := hide (hcell'); clear hcell'
  have HA := hide (ha); clear ha
  have HB := hide (hb); clear hb
  by_cases hne : xs.length = ys.length
  case neg =>
    have hn : ((xs.length : Int) != (ys.length : Int)) = true := by rw [bne_iff_ne]; omega
    go_enter Try.func17, Try.ntmps17
    go_wp2
    go_ret
    exact ⟨ret_bool (by rw [eq_comm, decide_eq_false_iff_not]; intro h; exact hne (by rw [h])), 0, rfl⟩
  case pos =>
    have hn : ((xs.length : Int) != (ys.length : Int)) = false := by simp [hne]
    have HN : Hid (xs.length = ys.length) := hne
    have hne1 : xs.length ≤ ys.length := by omega
    have hne2 : ys.length ≤ xs.length := by omega
    clear hne
    go_enter Try.func17, Try.ntmps17
    go_wp2
    go_loopw [5] (fun i wr => ∃ k : Nat, i = .int .i64 k ∧ k ≤ xs.length ∧ (∀ j, j < k → xs.getD j 0 = ys.getD j 0) ∧ ∃ m, wr = w.drewN m) (fun i _ => xs.length - (intOf i).toNat)
    case atStart => exact ⟨0, rfl, Nat.zero_le _, fun j hj => by omega, 0, rfl⟩
    case round =>
      obtain ⟨k, rfl, hk, hall0, m, rfl⟩ := hrel
      have hall := hide (hall0); clear hall0
      by_cases hlt : k < xs.length
      · have hx := HC.out k hlt
        have hy := HC'.out k (by omega)
        have ea := HA.out (by omega)
        have eb := HB.out (by omega)
        subst ea eb
        have hk0 : (0 : Int) ≤ (k : Int) := by omega
        have hk1 : (k : Int) < (xs.length : Int) := by omega
        have hk2 : (k : Int) < (ys.length : Int) := by omega
        generalize hX : xs.getD k 0 = X at hx
        generalize hY : ys.getD k 0 = Y at hy
        have HX := (show Hid (xs.getD k 0 = X) from hX); clear hX
        have HY := (show Hid (ys.getD k 0 = Y) from hY); clear hY
        by_cases hxy : X = Y
        · have hb1 : (X != Y) = false := by simp [hxy]
          go_wp2
          go_quiet (fail)
          go_wp2
          go_roundw
          case rel =>
            refine ⟨k + 1, by go_num, by omega, fun j hj => ?_, m + nq, by first | rfl | exact World.drewN_drewN _ _ _⟩
            by_cases hjk : j < k
            · exact hall.out j hjk
            · obtain rfl : j = k := by omega
              rw [HX.out, HY.out, hxy]
          case measure => simp [intOf]; omega
        · have hb1 : (X != Y) = true := by simp [hxy]
          go_wp2
          go_quiet (fail)
          go_wp2
          go_ret
          refine ⟨ret_bool ?_, m + nq, by first | rfl | exact World.drewN_drewN _ _ _⟩
          rw [eq_comm, decide_eq_false_iff_not]
          intro h
          rw [h, HY.out] at HX
          exact hxy HX.out.symm
      · go_wp2
        go_ret
        refine ⟨ret_bool ?_, m, rfl⟩
        rw [eq_comm, decide_eq_true_iff]
        exact eq_of_getD HN.out (fun j hj => hall.out j (by omega))

theorem Row.take {k : IntKind} {w : World} {ao : Option Addr} {n c : Nat} {xs : List Int} (h : Row k w (.slice ao n c) xs) (m : Nat) (hm : m ≤ n) : Row k w (.slice ao m c) (xs.take m) := by
  obtain ⟨ao', c', g, o, h1, h2, h3, h4, h5, h6⟩ := h
  simp only [Value.slice.injEq] at h1
  obtain ⟨rfl, rfl, rfl⟩ := h1
  have hl : (xs.take m).length = m := by rw [List.length_take]; omega
  refine ⟨ao, c, g, o, by rw [hl], by omega, h3, fun h0 => h4 (by omega), h5, fun j hj => ?_⟩
  rw [h6 j (by omega)]
  rw [hl] at hj
  simp [hj]

theorem Row.form {k : IntKind} {w : World} {v : Value} {xs : List Int} (h : Row k w v xs) : ∃ ao c, v = .slice ao xs.length c ∧ xs.length ≤ c ∧ c ≤ maxLen ∧ (ao = none → c = 0) := by
  obtain ⟨ao', c', g, o, h1, h2, h3, h4, h5, h6⟩ := h
  exact ⟨ao', c', h1, h2, h3, h5⟩

set_option maxHeartbeats 400000 in
theorem zzHasPrefix_any (v u : Value) (xs ys : List Int) (w : World) (hv : Row .u8 w v xs) (hu : Row .u8 w u ys) :
    Calls Try.prog 9 #[v, u] w fun e w' => e = .returned (.bool (decide (xs.take ys.length = ys))) ∧ ∃ n, w' = w.drewN n := by
  have hl1 := hv.len
  have hl2 := hu.len
  obtain ⟨ao, c, rfl, hc1, hc2, hc3⟩ := hv.form
  obtain ⟨bo, d, rfl, hd1, hd2, -⟩ := hu.form
  unfold maxLen at hl1 hl2 hc2
  have HV := hide (hv); clear hv
  have HU := hide (hu); clear hu
  by_cases hne : xs.length < ys.length
  · go_enter Try.func9, Try.ntmps9
    go_wp2
    go_ret
    refine ⟨ret_bool ?_, 0, rfl⟩
    rw [eq_comm, decide_eq_false_iff_not]
    intro h
    have := congrArg List.length h
    rw [List.length_take] at this
    omega
  · have h1 : ys.length ≤ xs.length := by omega
    have h2 : ys.length ≤ c := by omega
    have HT := hide (HV.out.take ys.length h1)
    cases ao with
    | none =>
      have h0 := hc3 rfl
      subst h0
      obtain rfl : xs = [] := List.eq_nil_of_length_eq_zero (by omega)
      obtain rfl : ys = [] := List.eq_nil_of_length_eq_zero (by omega)
      go_enter Try.func9, Try.ntmps9
      go_wp2_with (go_at_call 8; refine (zzEq_any _ _ _ _ _ HT.out HU.out).mono ?_; rintro e w1 ⟨rfl, n, rfl⟩)
      go_ret
      exact ⟨rfl, n, rfl⟩
    | some a =>
      clear hc3
      go_enter Try.func9, Try.ntmps9
      go_wp2_with (go_at_call 8; refine (zzEq_any _ _ _ _ _ HT.out HU.out).mono ?_; rintro e w1 ⟨rfl, n, rfl⟩)
      go_ret
      exact ⟨rfl, n, rfl⟩
end Go.Proofs.Qxb6616481a

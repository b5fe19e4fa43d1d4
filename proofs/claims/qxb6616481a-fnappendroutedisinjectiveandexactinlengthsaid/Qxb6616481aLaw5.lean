import Derived.Test.Qxb6616481aInj
namespace Go.Proofs.Qxb6616481a
open Go.RowKit
set_option linter.unusedVariables false

theorem zzEq_to5 (b : Bool) (v u : Value) (xs ys : List Int) (w : World) (hv : Row .u8 w v xs) (hu : Row .u8 w u ys) (hb : decide (xs = ys) = b) :
    Calls Try.prog 8 #[v, u] w fun e w' => e = .returned (.bool b) ∧ ∃ n, w' = w.drewN n := hb ▸ zzEq_any v u xs ys w hv hu
theorem zzEqU_to5 (b : Bool) (v u : Value) (xs ys : List Int) (w : World) (hv : Row .u64 w v xs) (hu : Row .u64 w u ys) (hb : decide (xs = ys) = b) :
    Calls Try.prog 17 #[v, u] w fun e w' => e = .returned (.bool b) ∧ ∃ n, w' = w.drewN n := hb ▸ zzEqU_any v u xs ys w hv hu
theorem Tight.form5 {k : IntKind} {w : World} {v : Value} {xs : List Int} (h : Tight k w v xs) : ∃ ao, v = .slice ao xs.length xs.length := by
  obtain ⟨ao, g, o, h1, _⟩ := h
  exact ⟨ao, h1⟩
theorem Tight.drewN {k : IntKind} {w : World} {v : Value} {xs : List Int} (n : Nat) (h : Tight k w v xs) : Tight k (w.drewN n) v xs :=
  h.to ⟨rfl, rfl, rfl, Nat.le_refl _, fun _ _ => rfl⟩

set_option maxHeartbeats 2000000 in
theorem law5 (v0 v1 v2 v3 v4 : Value) (xs cs ys ds zs : List Int) (w : World) (h0 : Row .u8 w v0 xs) (h1 : Row .u64 w v1 cs) (h2 : Row .u8 w v2 ys) (h3 : Row .u64 w v3 ds) (h4 : Row .u8 w v4 zs)
    (hcs : ∀ c ∈ cs, 0 ≤ c ∧ c ≤ 18446744073709551615) (hds : ∀ c ∈ ds, 0 ≤ c ∧ c ≤ 18446744073709551615) :
    Calls Try.prog 5 #[v0, v1, v2, v3, v4] w fun e w' => e = .returned (.bool true) ∧ Below w.heap.size w w' := by
  have l0 := h0.len
  have l1 := h1.len
  have l2 := h2.len
  have l3 := h3.len
  have l4 := h4.len
  unfold maxLen at l0 l1 l2 l3 l4
  obtain ⟨a0, c0, rfl, -⟩ := h0.form
  obtain ⟨a1, c1, rfl, -⟩ := h1.form
  obtain ⟨a2, c2, rfl, -⟩ := h2.form
  obtain ⟨a3, c3, rfl, -⟩ := h3.form
  obtain ⟨a4, c4, rfl, -⟩ := h4.form
  have H0 := hide h0; clear h0
  have H1 := hide h1; clear h1
  have H2 := hide h2; clear h2
  have H3 := hide h3; clear h3
  have H4 := hide h4; clear h4
  have HCS := hide hcs; clear hcs
  have HDS := hide hds; clear hds
  by_cases b0 : xs.length ≤ 262144
  case neg =>
    have t0 : (262144 : Int) < (xs.length : Int) := by omega
    go_enter Try.func5, Try.ntmps5
    go_wp2_with (go_at_call 16; refine (gate16 _ _ _ _ _ _ _ _ _ _ _ _ _ _ _ _).mono ?_; rintro e w1 ⟨⟨b, rfl⟩, rfl⟩)
    all_goals (go_ret; exact ⟨rfl, Below.refl _ _⟩)
  by_cases b1 : cs.length ≤ 32768
  case neg =>
    have t0 : (32768 : Int) < (cs.length : Int) := by omega
    go_enter Try.func5, Try.ntmps5
    go_wp2_with (go_at_call 16; refine (gate16 _ _ _ _ _ _ _ _ _ _ _ _ _ _ _ _).mono ?_; rintro e w1 ⟨⟨b, rfl⟩, rfl⟩)
    all_goals (go_ret; exact ⟨rfl, Below.refl _ _⟩)
  by_cases b2 : ys.length ≤ 131072
  case neg =>
    have t0 : (131072 : Int) < (ys.length : Int) := by omega
    go_enter Try.func5, Try.ntmps5
    go_wp2_with (go_at_call 16; refine (gate16 _ _ _ _ _ _ _ _ _ _ _ _ _ _ _ _).mono ?_; rintro e w1 ⟨⟨b, rfl⟩, rfl⟩)
    all_goals (go_ret; exact ⟨rfl, Below.refl _ _⟩)
  by_cases b3 : ds.length ≤ 32768
  case neg =>
    have t0 : (32768 : Int) < (ds.length : Int) := by omega
    go_enter Try.func5, Try.ntmps5
    go_wp2_with (go_at_call 16; refine (gate16 _ _ _ _ _ _ _ _ _ _ _ _ _ _ _ _).mono ?_; rintro e w1 ⟨⟨b, rfl⟩, rfl⟩)
    all_goals (go_ret; exact ⟨rfl, Below.refl _ _⟩)
  by_cases b4 : zs.length ≤ 131072
  case neg =>
    have t0 : (131072 : Int) < (zs.length : Int) := by omega
    go_enter Try.func5, Try.ntmps5
    go_wp2_with (go_at_call 16; refine (gate16 _ _ _ _ _ _ _ _ _ _ _ _ _ _ _ _).mono ?_; rintro e w1 ⟨⟨b, rfl⟩, rfl⟩)
    all_goals (go_ret; exact ⟨rfl, Below.refl _ _⟩)
  obtain ⟨B1, hB1⟩ : ∃ b, decide (cs = ds) = b := ⟨_, rfl⟩
  obtain ⟨B2, hB2⟩ : ∃ b, decide (ys = zs) = b := ⟨_, rfl⟩
  have hsame := hide (show decide (xs ++ encR cs ++ ys = xs ++ encR ds ++ zs) = (B1 && B2) from by
    rw [← hB1, ← hB2, Bool.eq_iff_iff, decide_eq_true_iff, enc_inj cs ds ys zs xs HCS.out HDS.out (by omega) (by omega)]
    simp)
  have HB1 := hide hB1; clear hB1
  have HB2 := hide hB2; clear hB2
  go_enter Try.func5, Try.ntmps5
  go_wp2_with fail
  refine (gate16 _ _ _ _ _ _ _ _ _ _ _ _ _ _ _ _).mono ?_
  rintro e w0 ⟨⟨b, rfl⟩, rfl⟩
  cases b with
  | false =>
    go_wp2
    go_ret
    exact ⟨rfl, Below.refl _ _⟩
  | true =>
    go_wp2_with fail
    refine (zzClone_any _ xs _ H0.out (by omega)).mono ?_
    rintro e w1 ⟨bv, rfl, T, B⟩
    have Tb := hide T; clear T
    have R1 := hide (H1.out.to B)
    have R2 := hide (H2.out.to B)
    have R3 := hide (H3.out.to B)
    have R4 := hide (H4.out.to B)
    have BB := hide B; clear B H0 H1 H2 H3 H4
    go_wp2_with fail
    refine (zzCloneU_any _ cs _ R1.out (by omega)).mono ?_
    rintro e w2 ⟨cv, rfl, T, B⟩
    have Tc := hide T; clear T
    have Tb2 := hide (Tb.out.to B)
    have Q2 := hide (R2.out.to B)
    have Q3 := hide (R3.out.to B)
    have Q4 := hide (R4.out.to B)
    have BB2 := hide (BB.out.trans (B.mono BB.out.size)); clear B BB R1 R2 R3 R4 Tb
    go_wp2_with fail
    refine (zzClone_any _ ys _ Q2.out (by omega)).mono ?_
    rintro e w3 ⟨yv, rfl, T, B⟩
    have Ty := hide T; clear T
    have Tb3 := hide (Tb2.out.to B)
    have Tc3 := hide (Tc.out.to B)
    have P3 := hide (Q3.out.to B)
    have P4 := hide (Q4.out.to B)
    have BB3 := hide (BB2.out.trans (B.mono BB2.out.size)); clear B BB2 Tb2 Tc Q2 Q3 Q4
    go_wp2_with fail
    refine (zzCloneU_any _ ds _ P3.out (by omega)).mono ?_
    rintro e w4 ⟨dv, rfl, T, B⟩
    have Td := hide T; clear T
    have Tb4 := hide (Tb3.out.to B)
    have Tc4 := hide (Tc3.out.to B)
    have Ty4 := hide (Ty.out.to B)
    have O4 := hide (P4.out.to B)
    have BB4 := hide (BB3.out.trans (B.mono BB3.out.size)); clear B BB3 Tb3 Tc3 Ty P3 P4
    go_wp2_with fail
    refine (zzClone_any _ zs _ O4.out (by omega)).mono ?_
    rintro e w5 ⟨zv, rfl, T, B⟩
    have Tz := hide T; clear T
    have Tb5 := hide (Tb4.out.to B)
    have Tc5 := hide (Tc4.out.to B)
    have Ty5 := hide (Ty4.out.to B)
    have Td5 := hide (Td.out.to B)
    have BB5 := hide (BB4.out.trans (B.mono BB4.out.size)); clear B BB4 Tb4 Tc4 Ty4 Td O4
    obtain ⟨ab, eb⟩ := Tb5.out.form5
    obtain ⟨ac, ec⟩ := Tc5.out.form5
    obtain ⟨ay, ey⟩ := Ty5.out.form5
    obtain ⟨ad, ed⟩ := Td5.out.form5
    obtain ⟨az, ez⟩ := Tz.out.form5
    subst eb ec ey ed ez
    have hbb : (B1 != B1) = false := by simp
    cases B1
    all_goals
      go_wp2_with (first
        | (go_at_call 17; refine (zzEqU_to5 _ _ _ cs ds _ Tc5.out.row Td5.out.row HB1.out).mono ?_; rintro e w6 ⟨rfl, n1, rfl⟩)
        | (go_at_call 8; refine (zzEq_to5 _ _ _ ys zs _ (Ty5.out.drewN _).row (Tz.out.drewN _).row HB2.out).mono ?_; rintro e w7 ⟨rfl, n2, rfl⟩))
      refine (zzClone_any _ xs _ (Tb5.out.drewN _).row (by omega)).mono ?_
      rintro e w6 ⟨bv1, rfl, T, B⟩
      have Tb1 := hide T; clear T
      have Tb6 := hide ((Tb5.out.drewN _).to B)
      have Tc6 := hide ((Tc5.out.drewN _).to B)
      have Ty6 := hide ((Ty5.out.drewN _).to B)
      have Td6 := hide ((Td5.out.drewN _).to B)
      have Tz6 := hide ((Tz.out.drewN _).to B)
      have BB6 := hide ((below_drewN BB5.out _).trans (B.mono BB5.out.size)); clear B BB5 Tb5 Tc5 Ty5 Td5 Tz
      go_wp2_with fail
      refine (zzClone_any _ xs _ Tb6.out.row (by omega)).mono ?_
      rintro e w7 ⟨bv2, rfl, T, B⟩
      have Tb2 := hide T; clear T
      have Tb17 := hide (Tb1.out.to B)
      have Tc7 := hide (Tc6.out.to B)
      have Ty7 := hide (Ty6.out.to B)
      have Td7 := hide (Td6.out.to B)
      have Tz7 := hide (Tz6.out.to B)
      have BB7 := hide (BB6.out.trans (B.mono BB6.out.size)); clear B BB6 Tb6 Tc6 Ty6 Td6 Tz6 Tb1
      go_wp2_with fail
      refine (zzPorts_any _ cs _ Tc7.out.row (by omega)).mono ?_
      rintro e w8 ⟨pv, rfl, T, B⟩
      have Tp := hide T; clear T
      have Tb18 := hide (Tb17.out.to B)
      have Tb28 := hide (Tb2.out.to B)
      have Tc8 := hide (Tc7.out.to B)
      have Ty8 := hide (Ty7.out.to B)
      have Td8 := hide (Td7.out.to B)
      have Tz8 := hide (Tz7.out.to B)
      have BB8 := hide (BB7.out.trans (B.mono BB7.out.size)); clear B BB7 Tb17 Tb2 Tc7 Ty7 Td7 Tz7
      go_wp2_with fail
      refine (appendRouted_any _ _ _ xs cs ys _ Tb18.out Tp.out.row Ty8.out.row HCS.out (by omega) (by omega) (by omega)).mono ?_
      rintro e w9 ⟨r1, rfl, O, B⟩
      have R1 := hide O.row; clear O
      have Tb29 := hide (Tb28.out.to B)
      have Tc9 := hide (Tc8.out.to B)
      have Td9 := hide (Td8.out.to B)
      have Tz9 := hide (Tz8.out.to B)
      have BB9 := hide (BB8.out.trans (B.mono BB8.out.size)); clear B BB8 Tb18 Tb28 Tc8 Ty8 Td8 Tz8 Tp
      go_wp2_with fail
      refine (zzPorts_any _ ds _ Td9.out.row (by omega)).mono ?_
      rintro e w10 ⟨qv, rfl, T, B⟩
      have Tq := hide T; clear T
      have R110 := hide (R1.out.to B)
      have Tb210 := hide (Tb29.out.to B)
      have Tc10 := hide (Tc9.out.to B)
      have Td10 := hide (Td9.out.to B)
      have Tz10 := hide (Tz9.out.to B)
      have BB10 := hide (BB9.out.trans (B.mono BB9.out.size)); clear B BB9 Tb29 Tc9 Td9 Tz9 R1
      go_wp2_with fail
      refine (appendRouted_any _ _ _ xs ds zs _ Tb210.out Tq.out.row Tz10.out.row HDS.out (by omega) (by omega) (by omega)).mono ?_
      rintro e w11 ⟨r2, rfl, O, B⟩
      have R2 := hide O.row; clear O
      have R1 := hide (R110.out.to B)
      have Rc := hide (Tc10.out.row.to B)
      have Rd := hide (Td10.out.row.to B)
      have BB11 := hide (BB10.out.trans (B.mono BB10.out.size)); clear B BB10 Tb210 Tc10 Td10 Tz10 R110 Tq
      obtain ⟨ar1, k1, er1, -⟩ := R1.out.form
      obtain ⟨ar2, k2, er2, -⟩ := R2.out.form
      have hl1 : (encR cs).length ≤ 10 + 10 * cs.length := by
        have h1 := uv_len 9 cs.length
        have h2 := uvs_len cs
        rw [encR, List.length_append]; omega
      have hl2 : (encR ds).length ≤ 10 + 10 * ds.length := by
        have h1 := uv_len 9 ds.length
        have h2 := uvs_len ds
        rw [encR, List.length_append]; omega
      obtain ⟨M1, hM1⟩ : ∃ M1, M1 = (encR cs).length := ⟨_, rfl⟩
      obtain ⟨M2, hM2⟩ : ∃ M2, M2 = (encR ds).length := ⟨_, rfl⟩
      have e1 : (xs ++ encR cs ++ ys).length = xs.length + M1 + ys.length := by rw [hM1]; simp only [List.length_append]
      have e2 : (xs ++ encR ds ++ zs).length = xs.length + M2 + zs.length := by rw [hM2]; simp only [List.length_append]
      rw [e1] at er1
      rw [e2] at er2
      rw [← hM1] at hl1
      rw [← hM2] at hl2
      have HM1 := hide hM1; clear hM1 e1
      have HM2 := hide hM2; clear hM2 e2
      subst er1 er2
      go_wp2_with fail
      refine (zzEq_to5 _ _ _ _ _ _ R1.out R2.out hsame.out).mono ?_
      rintro e w12 ⟨rfl, n3, rfl⟩
      go_wp2_with fail
      refine (zzRoutedLen_any xs.length ys.length _ cs _ ((Row.drewN _).2 Rc.out) HCS.out (by omega) (by omega) (by omega)).mono ?_
      rw [← HM1.out]
      rintro e w13 ⟨rfl, rfl⟩
      go_wp2_with fail
      refine (zzRoutedLen_any xs.length zs.length _ ds _ ((Row.drewN _).2 Rd.out) HDS.out (by omega) (by omega) (by omega)).mono ?_
      rw [← HM2.out]
      rintro e w14 ⟨rfl, rfl⟩
      go_wp2
      go_ret
      exact ⟨rfl, below_drewN BB11.out _⟩
end Go.Proofs.Qxb6616481a

import Derived.Test.Qxb6616481aEq
import Derived.Test.Qxb6616481aPorts
import Derived.Test.Qxb6616481aRouted
import Derived.Test.Qxb6616481aUvDec
import Derived.Test.Qxb6616481aGate
namespace Go.Proofs.Qxb6616481a
open Go.RowKit
set_option linter.unusedVariables false

theorem zzEq_to (b : Bool) (v u : Value) (xs ys : List Int) (w : World) (hv : Row .u8 w v xs) (hu : Row .u8 w u ys) (hb : decide (xs = ys) = b) :
    Calls Try.prog 8 #[v, u] w fun e w' => e = .returned (.bool b) ∧ ∃ n, w' = w.drewN n := hb ▸ zzEq_any v u xs ys w hv hu

theorem Row.drop {k : IntKind} {w : World} {g o n c : Nat} {xs : List Int} (h : Row k w (.slice (some ⟨g, o, none⟩) n c) xs) (m : Nat) (hm : m ≤ n) : Row k w (.slice (some ⟨g, o + m, none⟩) (n - m) (c - m)) (xs.drop m) := by
  obtain ⟨ao', c', g', o', h1, h2, h3, h4, h5, h6⟩ := h
  simp only [Value.slice.injEq] at h1
  obtain ⟨rfl, rfl, rfl⟩ := h1
  refine ⟨_, c - m, g, o + m, by rw [List.length_drop], by rw [List.length_drop]; omega, by omega, fun _ => rfl, (fun h => by cases h), fun j hj => ?_⟩
  rw [List.length_drop] at hj
  have e := h4 (by omega)
  cases e
  rw [Nat.add_assoc, h6 (m + j) (by omega)]
  simp

theorem Own.form {B : Nat} {w : World} {v : Value} {xs : List Int} (h : Own B w v xs) (hp : 0 < xs.length) : ∃ g c, v = .slice (some ⟨g, 0, none⟩) xs.length c ∧ xs.length ≤ c ∧ c ≤ maxLen := by
  rcases h.2 with ⟨_, h0⟩ | ⟨g, cap, cur, rfl, hb, hg, hnc, hcm, _⟩
  · omega
  · exact ⟨g, cap, rfl, hnc, hcm⟩

theorem Tight.form {k : IntKind} {w : World} {v : Value} {xs : List Int} (h : Tight k w v xs) : ∃ ao, v = .slice ao xs.length xs.length := by
  obtain ⟨ao, g, o, h1, _⟩ := h
  exact ⟨ao, h1⟩

theorem zzUvarint_at (b : Value) (pre rest L : List Int) (p0 R : Nat) (x : Int) (w : World) (hp : pre.length = p0) (hR : (pre ++ uv 9 x).length = R) (hL : L = pre ++ uv 9 x ++ rest) (hx0 : 0 ≤ x) (hx1 : x ≤ 18446744073709551615) (hb : Row .u8 w b L) :
    Calls Try.prog 15 #[b, .int .i64 p0] w fun e w' => e = .returned (.tuple #[.int .u64 x, .int .i64 (R : Int), .bool true]) ∧ w' = w := by
  subst hp hR hL
  exact zzUvarint_any b pre rest x w hx0 hx1 hb

theorem uvs_split (cs : List Int) (k : Nat) (h : k < cs.length) : uvs cs = uvs (cs.take k) ++ uv 9 (cs.getD k 0) ++ uvs (cs.drop (k + 1)) := by
  rw [← uvs_take cs k h]
  unfold uvs
  rw [← List.flatMap_append, List.take_append_drop]

theorem row_empty (k : IntKind) (w : World) (a : Addr) (c : Nat) (hc : c ≤ maxLen) : Row k w (.slice (some a) 0 c) [] :=
  ⟨some a, c, 0, 0, rfl, by simp, hc, by simp, (fun h => by cases h), by simp⟩

set_option maxHeartbeats 2000000 in
theorem law4 (v0 v1 v2 : Value) (xs cs ys : List Int) (w : World) (h0 : Row .u8 w v0 xs) (h1 : Row .u64 w v1 cs) (h2 : Row .u8 w v2 ys) (hcs : ∀ c ∈ cs, 0 ≤ c ∧ c ≤ 18446744073709551615) :
    Calls Try.prog 4 #[v0, v1, v2] w fun e w' => e = .returned (.bool true) ∧ Below w.heap.size w w' := by
  have l0 := h0.len
  have l1 := h1.len
  have l2 := h2.len
  unfold maxLen at l0 l1 l2
  obtain ⟨a0, c0, rfl, -⟩ := h0.form
  obtain ⟨a1, c1, rfl, -⟩ := h1.form
  obtain ⟨a2, c2, rfl, -⟩ := h2.form
  have H0 := hide h0; clear h0
  have H1 := hide h1; clear h1
  have H2 := hide h2; clear h2
  have HCS := hide hcs; clear hcs
  by_cases b0 : xs.length ≤ 262144
  case neg =>
    have t0 : (262144 : Int) < (xs.length : Int) := by omega
    go_enter Try.func4, Try.ntmps4
    go_wp2_with (go_at_call 10; refine (gate10 _ _ _ _ _ _ _ _ _ _).mono ?_; rintro e w1 ⟨⟨b, rfl⟩, rfl⟩)
    all_goals (go_ret; exact ⟨rfl, Below.refl _ _⟩)
  by_cases b1 : cs.length ≤ 65536
  case neg =>
    have t0 : (65536 : Int) < (cs.length : Int) := by omega
    go_enter Try.func4, Try.ntmps4
    go_wp2_with (go_at_call 10; refine (gate10 _ _ _ _ _ _ _ _ _ _).mono ?_; rintro e w1 ⟨⟨b, rfl⟩, rfl⟩)
    all_goals (go_ret; exact ⟨rfl, Below.refl _ _⟩)
  by_cases b2 : ys.length ≤ 262144
  case neg =>
    have t0 : (262144 : Int) < (ys.length : Int) := by omega
    go_enter Try.func4, Try.ntmps4
    go_wp2_with (go_at_call 10; refine (gate10 _ _ _ _ _ _ _ _ _ _).mono ?_; rintro e w1 ⟨⟨b, rfl⟩, rfl⟩)
    all_goals (go_ret; exact ⟨rfl, Below.refl _ _⟩)
  have d0 : decide ((262144 : Int) < (xs.length : Int)) = false := by rw [decide_eq_false_iff_not]; omega
  have d1 : decide ((65536 : Int) < (cs.length : Int)) = false := by rw [decide_eq_false_iff_not]; omega
  have d2 : decide ((262144 : Int) < (ys.length : Int)) = false := by rw [decide_eq_false_iff_not]; omega
  go_enter Try.func4, Try.ntmps4
  go_wp2_with fail
  refine (gate10 _ _ _ _ _ _ _ _ _ _).mono ?_
  rintro e w0 ⟨⟨b, rfl⟩, rfl⟩
  cases b with
  | false =>
    go_wp2
    go_ret
    exact ⟨rfl, Below.refl _ _⟩
  | true =>
    go_wp2_with fail
    refine (zzClone_any _ xs _ H0.out (by omega)).mono ?_
    rintro e w1 ⟨bv, rfl, T, B⟩
    have Tb := hide T; clear T
    have R1 := hide (H1.out.to B)
    have R2 := hide (H2.out.to B)
    have BB := hide B; clear B H0 H1 H2
    go_wp2_with fail
    refine (zzCloneU_any _ cs _ R1.out (by omega)).mono ?_
    rintro e w2 ⟨cv, rfl, T, B⟩
    have Tc := hide T; clear T
    have Tb2 := hide (Tb.out.to B)
    have R2' := hide (R2.out.to B)
    have BB2 := hide (BB.out.trans (B.mono BB.out.size)); clear B BB R1 R2 Tb
    go_wp2_with fail
    refine (zzClone_any _ ys _ R2'.out (by omega)).mono ?_
    rintro e w3 ⟨yv, rfl, T, B⟩
    have Ty := hide T; clear T
    have Tb3 := hide (Tb2.out.to B)
    have Tc3 := hide (Tc.out.to B)
    have BB3 := hide (BB2.out.trans (B.mono BB2.out.size)); clear B BB2 Tb2 Tc R2'
    go_wp2_with fail
    refine (zzClone_any _ xs _ Tb3.out.row (by omega)).mono ?_
    rintro e w4 ⟨wb, rfl, T, B⟩
    have Twb := hide T; clear T
    have Tb4 := hide (Tb3.out.to B)
    have Tc4 := hide (Tc3.out.to B)
    have Ty4 := hide (Ty.out.to B)
    have BB4 := hide (BB3.out.trans (B.mono BB3.out.size)); clear B BB3 Tb3 Tc3 Ty
    go_wp2_with fail
    refine (zzCloneU_any _ cs _ Tc4.out.row (by omega)).mono ?_
    rintro e w5 ⟨wc, rfl, T, B⟩
    have Twc := hide T; clear T
    have Tb5 := hide (Tb4.out.to B)
    have Tc5 := hide (Tc4.out.to B)
    have Ty5 := hide (Ty4.out.to B)
    have Twb5 := hide (Twb.out.to B)
    have BB5 := hide (BB4.out.trans (B.mono BB4.out.size)); clear B BB4 Tb4 Tc4 Ty4 Twb
    go_wp2_with fail
    refine (zzClone_any _ ys _ Ty5.out.row (by omega)).mono ?_
    rintro e w6 ⟨wy, rfl, T, B⟩
    have Twy := hide T; clear T
    have Tb6 := hide (Tb5.out.to B)
    have Tc6 := hide (Tc5.out.to B)
    have Ty6 := hide (Ty5.out.to B)
    have Twb6 := hide (Twb5.out.to B)
    have Twc6 := hide (Twc.out.to B)
    have BB6 := hide (BB5.out.trans (B.mono BB5.out.size)); clear B BB5 Tb5 Tc5 Ty5 Twb5 Twc
    go_wp2_with fail
    refine (zzPorts_any _ cs _ Tc6.out.row (by omega)).mono ?_
    rintro e w7 ⟨pv, rfl, T, B⟩
    have Tp := hide T; clear T
    have Tb7 := hide (Tb6.out.to B)
    have Ty7 := hide (Ty6.out.to B)
    have Twb7 := hide (Twb6.out.to B)
    have Twc7 := hide (Twc6.out.to B)
    have Twy7 := hide (Twy.out.to B)
    have BB7 := hide (BB6.out.trans (B.mono BB6.out.size)); clear B BB6 Tb6 Tc6 Ty6 Twb6 Twc6 Twy
    go_wp2_with fail
    refine (appendRouted_any _ _ _ xs cs ys _ Tb7.out Tp.out.row Ty7.out.row HCS.out (by omega) (by omega) (by omega)).mono ?_
    rintro e w8 ⟨r1, rfl, O, B⟩
    have O1 := hide O; clear O
    have Tp8 := hide (Tp.out.to B)
    have Ty8 := hide (Ty7.out.to B)
    have Twb8 := hide (Twb7.out.to B)
    have Twc8 := hide (Twc7.out.to B)
    have Twy8 := hide (Twy7.out.to B)
    have BB8 := hide (BB7.out.trans (B.mono BB7.out.size)); clear B BB7 Tb7 Ty7 Twb7 Twc7 Twy7 Tp
    go_wp2_with fail
    refine (appendRouted_any _ _ _ [] cs ys _ (row_nil _ _) Tp8.out.row Ty8.out.row HCS.out (by simp) (by omega) (by omega)).mono ?_
    rintro e w9 ⟨r0, rfl, O, B⟩
    have O0 := hide O; clear O
    have R1 := hide (O1.out.row.to B)
    have Rwb := hide (Twb8.out.row.to B)
    have Rwc := hide (Twc8.out.row.to B)
    have Rwy := hide (Twy8.out.row.to B)
    obtain ⟨awb, ewb⟩ := Twb8.out.form
    obtain ⟨awc, gwc, owc, ewc, -, hawc0, -⟩ := Twc8.out
    have hawc := hide hawc0; clear hawc0
    have BB9 := hide (BB8.out.trans (B.mono BB8.out.size)); clear B BB8 Ty8 Tp8
    have hO0 : Own w8.heap.size w9 r0 (encR cs ++ ys) := by simpa using O0.out
    have R0 := hide hO0.row
    have hEp : 0 < (encR cs).length := by have := uv_pos 9 cs.length; rw [encR, List.length_append]; omega
    obtain ⟨g0, k0, er0, hk0a, hk0b⟩ := hO0.form (by rw [List.length_append]; omega)
    obtain ⟨g1, k1, er1, hk1a, hk1b⟩ := O1.out.form (by rw [List.length_append, List.length_append]; omega)
    have hEl : (encR cs).length ≤ 10 + 10 * cs.length := by
      have h1 := uv_len 9 cs.length
      have h2 := uvs_len cs
      rw [encR, List.length_append]; omega
    obtain ⟨M, hM⟩ : ∃ M, M = (encR cs ++ ys).length := ⟨_, rfl⟩
    have hMl : M ≤ 10 + 10 * cs.length + ys.length := by rw [hM, List.length_append]; omega
    have hMp : 0 < M := by rw [hM, List.length_append]; omega
    have eL1 : (xs ++ encR cs ++ ys).length = xs.length + M := by rw [hM]; simp only [List.length_append]; omega
    rw [eL1] at er1 hk1a
    rw [← hM] at er0 hk0a
    have HM := hide hM; clear hM eL1
    unfold maxLen at hk0b hk1b
    clear hO0 O0 O1 Twb8 Twc8 Twy8 hEp hEl
    subst er0 er1 ewb ewc
    have Rt := hide (R1.out.take xs.length (by omega))
    have Rd := hide (R1.out.drop xs.length (by omega))
    have q1 := hide (show decide ((xs ++ encR cs ++ ys).take xs.length = xs) = true from by simp)
    have q2 := hide (show decide ((xs ++ encR cs ++ ys).drop xs.length = encR cs ++ ys) = true from by simp)
    have t1 : (0 : Int) ≤ (xs.length : Int) := by omega
    have t2 : xs.length < k1 := by omega
    have t3 : ¬ xs.length = k1 := by omega
    have t4 : (k1 == xs.length) = false := by simp; omega
    have t5 : ¬ k1 - xs.length = 0 := by omega
    go_wp2_with fail
    refine (zzEq_to true _ _ _ _ _ Rt.out Rwb.out q1.out).mono ?_
    rintro e w10 ⟨rfl, n1, rfl⟩
    have Rd' := hide (show Row .u8 w9 (.slice (some ⟨g1, xs.length, none⟩) M (k1 - xs.length)) ((xs ++ encR cs ++ ys).drop xs.length) from by simpa using Rd.out)
    go_wp2_with fail
    refine (zzEq_to true _ _ _ _ _ ((Row.drewN _).2 Rd'.out) ((Row.drewN _).2 R0.out) q2.out).mono ?_
    rintro e w11 ⟨rfl, n2, rfl⟩
    clear Rt Rd Rd' R1 q1 q2 Rwb
    have R0' := hide ((Row.drewN (n1 + n2)).2 R0.out)
    have Rwy' := hide ((Row.drewN (n1 + n2)).2 Rwy.out)
    have BBz := hide (below_drewN BB9.out (n1 + n2))
    have hMe := HM.out
    rw [List.length_append] at hMe
    obtain ⟨U, hU⟩ : ∃ U : Nat, U = (uv 9 cs.length).length := ⟨_, rfl⟩
    have hUM : U ≤ M := by rw [encR, List.length_append] at hMe; omega
    have HU := hide hU; clear hU
    have HMe := hide hMe; clear hMe
    have hcl : ((cs.length : Int) != (cs.length : Int)) = false := by simp
    go_wp2_with fail
    refine (zzUvarint_at _ [] (uvs cs ++ ys) (encR cs ++ ys) 0 U cs.length _ rfl (by simp [HU.out]) (by simp [encR]) (by omega) (by omega) (by simpa using R0'.out)).mono ?_
    rintro e w12 ⟨rfl, rfl⟩
    go_wp2
    go_loop [14, 16] (fun i j => ∃ k I : Nat, j = .int .i64 k ∧ k ≤ cs.length ∧ i = .int .i64 I ∧ (uv 9 cs.length ++ uvs (cs.take k)).length = I) (fun _ j => cs.length - (intOf j).toNat)
    case atStart => exact ⟨0, U, rfl, Nat.zero_le _, rfl, by simp [uvs, HU.out]⟩
    case round =>
      obtain ⟨k, I, rfl, hk, rfl, hI0⟩ := hrel
      have hI := hide hI0; clear hI0
      by_cases hlt : k < cs.length
      · obtain ⟨X, hX⟩ : ∃ X, X = cs.getD k 0 := ⟨_, rfl⟩
        obtain ⟨I', hI'⟩ : ∃ I', (uv 9 cs.length ++ uvs (cs.take k) ++ uv 9 X).length = I' := ⟨_, rfl⟩
        have hXb := HCS.out (cs.getD k 0) (getD_mem cs k hlt)
        have hspl := hide (uvs_split cs k hlt)
        have htk := hide (uvs_take cs k hlt)
        rw [← hX] at hXb hspl htk
        obtain ⟨hX0, hX1⟩ := hXb
        have hI'' := hide hI'; clear hI'
        have hle : I' ≤ M := by
          have h1 := HMe.out
          have h2 := hI''.out
          rw [encR, hspl.out] at h1
          simp only [List.length_append] at h1 h2
          omega
        have ea := hawc.out (by omega)
        subst ea
        obtain ⟨ao', c', g', o', e, -, -, h4, -, hcell⟩ := Rwc.out
        have e4 := h4 (by omega)
        subst e4
        simp only [Value.slice.injEq, Option.some.injEq, Addr.mk.injEq] at e
        obtain ⟨⟨rfl, rfl, -⟩, -, rfl⟩ := e
        have hcx := hcell k hlt
        rw [← hX] at hcx
        clear hX hcell h4
        have k0' : (0 : Int) ≤ (k : Int) := by omega
        have k1' : (k : Int) < (cs.length : Int) := by omega
        have hXX : (X != X) = false := by simp
        go_wp2_with fail
        refine (zzUvarint_at _ (uv 9 cs.length ++ uvs (cs.take k)) (uvs (cs.drop (k + 1)) ++ ys) (encR cs ++ ys) I I' X _ hI.out hI''.out ?_ hX0 hX1 (by simpa using R0'.out)).mono ?_
        · rw [encR, hspl.out]; simp only [List.append_assoc]
        rintro e w13 ⟨rfl, rfl⟩
        go_wp2
        go_round
        case rel => exact ⟨k + 1, I', by go_num, by omega, rfl, by rw [htk.out, ← List.append_assoc]; exact hI''.out⟩
        case measure => simp [intOf]; omega
      · have hIe : (encR cs).length = I := by
          have := hI.out
          rw [List.take_of_length_le (by omega)] at this
          exact this
        have hMI : M = I + ys.length := by rw [HMe.out, hIe]
        have HMI := hide hMI
        have hIM : I ≤ M := by omega
        have HIe := hide hIe; clear hIe
        have hdr := hide (show decide ((encR cs ++ ys).drop I = ys) = true from by rw [← HIe.out]; simp)
        by_cases hIk : I < k0
        · have Rf := hide (R0'.out.drop I hIM)
          clear hMI
          have t6 : (k0 == I) = false := by simp; omega
          have t7 : ¬ k0 - I = 0 := by omega
          go_wp2_with fail
          refine (zzEq_to true _ _ _ _ _ (by simpa using Rf.out) (by simpa using Rwy'.out) hdr.out).mono ?_
          rintro e w14 ⟨rfl, n3, rfl⟩
          go_wp2
          go_ret
          exact ⟨rfl, by simpa using below_drewN BBz.out n3⟩
        · have ey := hide (show ys = [] from List.eq_nil_of_length_eq_zero (by omega))
          have eM : M = I := by omega
          have eK : k0 = I := by omega
          clear hMI HM HMe HMI hdr
          subst eM eK
          have t6 : (k0 == k0) = true := by simp
          have t7 : k0 - k0 = 0 := by omega
          go_wp2_with fail
          refine (zzEq_to true _ _ [] ys _ (row_empty _ _ _ _ (by unfold maxLen; omega)) Rwy'.out (by rw [ey.out]; rfl)).mono ?_
          rintro e w14 ⟨rfl, n3, rfl⟩
          go_wp2
          go_ret
          exact ⟨rfl, by simpa using below_drewN BBz.out n3⟩
end Go.Proofs.Qxb6616481a

import Derived.Test.Qxb6616481aDec
namespace Go.Proofs.Qxb6616481a
open Go.RowKit
set_option linter.unusedVariables false

theorem ret3 {a b : Int} {c d : Int} (h1 : a = b) (h2 : c = d) : Ending.returned (.tuple #[.int .u64 a, .int .i64 c, .bool true]) = .returned (.tuple #[.int .u64 b, .int .i64 d, .bool true]) := by rw [h1, h2]

set_option maxHeartbeats 4000000 in
theorem zzUvarint_any (b : Value) (pre rest : List Int) (x : Int) (w : World) (hx0 : 0 ≤ x) (hx1 : x ≤ 18446744073709551615) (hb : Row .u8 w b (pre ++ uv 9 x ++ rest)) :
    Calls Try.prog 15 #[b, .int .i64 pre.length] w fun e w' => e = .returned (.tuple #[.int .u64 x, .int .i64 ((pre ++ uv 9 x).length : Nat), .bool true]) ∧ w' = w := by
  have hlen := hb.len
  unfold maxLen at hlen
  obtain ⟨ao, c, g, o, rfl, hc1, hc2, ha, hn, hcell⟩ := hb
  have hp := uv_pos 9 x
  have e := ha (by simp; omega)
  subst e
  have HC := hide hcell; clear hcell
  clear ha hn
  obtain ⟨N, hN⟩ : ∃ N, N = (pre ++ uv 9 x ++ rest).length := ⟨_, rfl⟩
  rw [← hN] at hlen hc1 HC ⊢
  have HN := hide hN; clear hN
  obtain ⟨p0, hp0⟩ : ∃ p0, p0 = pre.length := ⟨_, rfl⟩
  rw [← hp0]
  have HP := hide hp0; clear hp0
  obtain ⟨R, hR⟩ : ∃ R : Nat, R = (pre ++ uv 9 x).length := ⟨_, rfl⟩
  rw [← hR]
  have HR := hide hR; clear hR
  go_enter Try.func15, Try.ntmps15
  go_wp2
  go_loopw [1, 7, 8, 9] (fun i v s n' wr => ∃ (n : Nat) (vv : Int), n' = .int .i64 n ∧ i = .int .i64 ((p0 + n : Nat) : Int) ∧ s = .int .u64 ((7 * n : Nat) : Int) ∧ v = .int .u64 vv ∧ St pre rest x n vv ∧ wr = w) (fun _ _ _ n' _ => 10 - (intOf n').toNat)
  case atStart => exact ⟨0, 0, rfl, by simp, rfl, rfl, St.start pre rest x hx0, rfl⟩
  case round =>
    obtain ⟨n, vv, rfl, rfl, rfl, rfl, hst, rfl⟩ := hrel
    obtain ⟨hn9, hlt, hv0, hv1, C, hC, hcase⟩ := hst.at hx1
    clear hst
    rw [← HN.out, ← HP.out] at hlt
    have hcx := HC.out (p0 + n) hlt
    rw [← HP.out] at hC
    rw [hC] at hcx
    clear hC
    have hk0 : (0 : Int) ≤ (p0 : Int) := by omega
    rcases hcase with ⟨hC0, hC1, hn8, hst⟩ | ⟨hC0, hC1, hne, h9, hsum, hul⟩
    · have HST := hide hst; clear hst
      obtain ⟨C7, hC7⟩ : ∃ C7, C7 = C % 128 := ⟨_, rfl⟩
      have hand : bits .and .u8 C 127 = C7 := by rw [hC7]; exact u8_and127 C (by omega) (by omega)
      have h70 : 0 ≤ C7 := by omega
      have h71 : C7 ≤ 127 := by omega
      rw [← hC7] at HST
      clear hC7
      rcases (show n = 0 ∨ n = 1 ∨ n = 2 ∨ n = 3 ∨ n = 4 ∨ n = 5 ∨ n = 6 ∨ n = 7 ∨ n = 8 from by omega) with rfl | rfl | rfl | rfl | rfl | rfl | rfl | rfl | rfl
      · have e : (128 : Int) ^ 0 = 1 := by decide
        simp only [Nat.add_zero] at hcx hlt
        rw [e] at hv1 HST
        clear e
        have hor : bits .or .u64 vv (C7) = vv + C7 := u64_orv0 vv (C7) hv0 hv1 (by omega) (by omega) (by omega)
        go_wp2
        go_roundw
        case rel => exact ⟨1, _, rfl, by go_num, rfl, rfl, by simpa using HST.out, by trivial⟩
        case measure => decide
      · have e : (128 : Int) ^ 1 = 128 := by decide
        rw [e] at hv1 HST
        clear e
        have hor : bits .or .u64 vv (C7 * 128) = vv + C7 * 128 := u64_orv7 vv (C7 * 128) hv0 hv1 (by omega) (by omega) (by omega)
        go_wp2
        go_roundw
        case rel => exact ⟨2, _, rfl, by go_num, rfl, rfl, HST.out, by trivial⟩
        case measure => decide
      · have e : (128 : Int) ^ 2 = 16384 := by decide
        rw [e] at hv1 HST
        clear e
        have hor : bits .or .u64 vv (C7 * 16384) = vv + C7 * 16384 := u64_orv14 vv (C7 * 16384) hv0 hv1 (by omega) (by omega) (by omega)
        go_wp2
        go_roundw
        case rel => exact ⟨3, _, rfl, by go_num, rfl, rfl, HST.out, by trivial⟩
        case measure => decide
      · have e : (128 : Int) ^ 3 = 2097152 := by decide
        rw [e] at hv1 HST
        clear e
        have hor : bits .or .u64 vv (C7 * 2097152) = vv + C7 * 2097152 := u64_orv21 vv (C7 * 2097152) hv0 hv1 (by omega) (by omega) (by omega)
        go_wp2
        go_roundw
        case rel => exact ⟨4, _, rfl, by go_num, rfl, rfl, HST.out, by trivial⟩
        case measure => decide
      · have e : (128 : Int) ^ 4 = 268435456 := by decide
        rw [e] at hv1 HST
        clear e
        have hor : bits .or .u64 vv (C7 * 268435456) = vv + C7 * 268435456 := u64_orv28 vv (C7 * 268435456) hv0 hv1 (by omega) (by omega) (by omega)
        go_wp2
        go_roundw
        case rel => exact ⟨5, _, rfl, by go_num, rfl, rfl, HST.out, by trivial⟩
        case measure => decide
      · have e : (128 : Int) ^ 5 = 34359738368 := by decide
        rw [e] at hv1 HST
        clear e
        have hor : bits .or .u64 vv (C7 * 34359738368) = vv + C7 * 34359738368 := u64_orv35 vv (C7 * 34359738368) hv0 hv1 (by omega) (by omega) (by omega)
        go_wp2
        go_roundw
        case rel => exact ⟨6, _, rfl, by go_num, rfl, rfl, HST.out, by trivial⟩
        case measure => decide
      · have e : (128 : Int) ^ 6 = 4398046511104 := by decide
        rw [e] at hv1 HST
        clear e
        have hor : bits .or .u64 vv (C7 * 4398046511104) = vv + C7 * 4398046511104 := u64_orv42 vv (C7 * 4398046511104) hv0 hv1 (by omega) (by omega) (by omega)
        go_wp2
        go_roundw
        case rel => exact ⟨7, _, rfl, by go_num, rfl, rfl, HST.out, by trivial⟩
        case measure => decide
      · have e : (128 : Int) ^ 7 = 562949953421312 := by decide
        rw [e] at hv1 HST
        clear e
        have hor : bits .or .u64 vv (C7 * 562949953421312) = vv + C7 * 562949953421312 := u64_orv49 vv (C7 * 562949953421312) hv0 hv1 (by omega) (by omega) (by omega)
        go_wp2
        go_roundw
        case rel => exact ⟨8, _, rfl, by go_num, rfl, rfl, HST.out, by trivial⟩
        case measure => decide
      · have e : (128 : Int) ^ 8 = 72057594037927936 := by decide
        rw [e] at hv1 HST
        clear e
        have hor : bits .or .u64 vv (C7 * 72057594037927936) = vv + C7 * 72057594037927936 := u64_orv56 vv (C7 * 72057594037927936) hv0 hv1 (by omega) (by omega) (by omega)
        go_wp2
        go_roundw
        case rel => exact ⟨9, _, rfl, by go_num, rfl, rfl, HST.out, by trivial⟩
        case measure => decide
    · have Hne := hide hne; clear hne
      have H9 := hide h9; clear h9
      have Hsum := hide hsum; clear hsum
      have hRl : R = p0 + n + 1 := by rw [HR.out, List.length_append, hul, ← HP.out]; omega
      have HRl := hide hRl; clear hRl hul
      have hand : bits .and .u8 C 127 = C := by rw [u8_and127 C (by omega) (by omega)]; omega
      rcases (show n = 0 ∨ n = 1 ∨ n = 2 ∨ n = 3 ∨ n = 4 ∨ n = 5 ∨ n = 6 ∨ n = 7 ∨ n = 8 ∨ n = 9 from by omega) with rfl | rfl | rfl | rfl | rfl | rfl | rfl | rfl | rfl | rfl
      · have e : (128 : Int) ^ 0 = 1 := by decide
        simp only [Nat.add_zero] at hcx hlt
        rw [e] at hv1 Hsum
        clear e
        have hor : bits .or .u64 vv (C) = vv + C := u64_orv0 vv (C) hv0 hv1 (by omega) (by omega) (by omega)
        go_wp2
        go_ret3
        exact ⟨ret3 (by have := Hsum.out; omega) (by have := HRl.out; omega), rfl⟩
      · have e : (128 : Int) ^ 1 = 128 := by decide
        rw [e] at hv1 Hsum
        clear e
        have hne0 : 1 ≤ C := by have := Hne.out; omega
        have hnz : (C == 0) = false := by simp; omega
        have hor : bits .or .u64 vv (C * 128) = vv + C * 128 := u64_orv7 vv (C * 128) hv0 hv1 (by omega) (by omega) (by omega)
        go_wp2
        go_ret3
        exact ⟨ret3 (by have := Hsum.out; omega) (by have := HRl.out; omega), rfl⟩
      · have e : (128 : Int) ^ 2 = 16384 := by decide
        rw [e] at hv1 Hsum
        clear e
        have hne0 : 1 ≤ C := by have := Hne.out; omega
        have hnz : (C == 0) = false := by simp; omega
        have hor : bits .or .u64 vv (C * 16384) = vv + C * 16384 := u64_orv14 vv (C * 16384) hv0 hv1 (by omega) (by omega) (by omega)
        go_wp2
        go_ret3
        exact ⟨ret3 (by have := Hsum.out; omega) (by have := HRl.out; omega), rfl⟩
      · have e : (128 : Int) ^ 3 = 2097152 := by decide
        rw [e] at hv1 Hsum
        clear e
        have hne0 : 1 ≤ C := by have := Hne.out; omega
        have hnz : (C == 0) = false := by simp; omega
        have hor : bits .or .u64 vv (C * 2097152) = vv + C * 2097152 := u64_orv21 vv (C * 2097152) hv0 hv1 (by omega) (by omega) (by omega)
        go_wp2
        go_ret3
        exact ⟨ret3 (by have := Hsum.out; omega) (by have := HRl.out; omega), rfl⟩
      · have e : (128 : Int) ^ 4 = 268435456 := by decide
        rw [e] at hv1 Hsum
        clear e
        have hne0 : 1 ≤ C := by have := Hne.out; omega
        have hnz : (C == 0) = false := by simp; omega
        have hor : bits .or .u64 vv (C * 268435456) = vv + C * 268435456 := u64_orv28 vv (C * 268435456) hv0 hv1 (by omega) (by omega) (by omega)
        go_wp2
        go_ret3
        exact ⟨ret3 (by have := Hsum.out; omega) (by have := HRl.out; omega), rfl⟩
      · have e : (128 : Int) ^ 5 = 34359738368 := by decide
        rw [e] at hv1 Hsum
        clear e
        have hne0 : 1 ≤ C := by have := Hne.out; omega
        have hnz : (C == 0) = false := by simp; omega
        have hor : bits .or .u64 vv (C * 34359738368) = vv + C * 34359738368 := u64_orv35 vv (C * 34359738368) hv0 hv1 (by omega) (by omega) (by omega)
        go_wp2
        go_ret3
        exact ⟨ret3 (by have := Hsum.out; omega) (by have := HRl.out; omega), rfl⟩
      · have e : (128 : Int) ^ 6 = 4398046511104 := by decide
        rw [e] at hv1 Hsum
        clear e
        have hne0 : 1 ≤ C := by have := Hne.out; omega
        have hnz : (C == 0) = false := by simp; omega
        have hor : bits .or .u64 vv (C * 4398046511104) = vv + C * 4398046511104 := u64_orv42 vv (C * 4398046511104) hv0 hv1 (by omega) (by omega) (by omega)
        go_wp2
        go_ret3
        exact ⟨ret3 (by have := Hsum.out; omega) (by have := HRl.out; omega), rfl⟩
      · have e : (128 : Int) ^ 7 = 562949953421312 := by decide
        rw [e] at hv1 Hsum
        clear e
        have hne0 : 1 ≤ C := by have := Hne.out; omega
        have hnz : (C == 0) = false := by simp; omega
        have hor : bits .or .u64 vv (C * 562949953421312) = vv + C * 562949953421312 := u64_orv49 vv (C * 562949953421312) hv0 hv1 (by omega) (by omega) (by omega)
        go_wp2
        go_ret3
        exact ⟨ret3 (by have := Hsum.out; omega) (by have := HRl.out; omega), rfl⟩
      · have e : (128 : Int) ^ 8 = 72057594037927936 := by decide
        rw [e] at hv1 Hsum
        clear e
        have hne0 : 1 ≤ C := by have := Hne.out; omega
        have hnz : (C == 0) = false := by simp; omega
        have hor : bits .or .u64 vv (C * 72057594037927936) = vv + C * 72057594037927936 := u64_orv56 vv (C * 72057594037927936) hv0 hv1 (by omega) (by omega) (by omega)
        go_wp2
        go_ret3
        exact ⟨ret3 (by have := Hsum.out; omega) (by have := HRl.out; omega), rfl⟩
      · have e : (128 : Int) ^ 9 = 9223372036854775808 := by decide
        rw [e] at hv1 Hsum
        clear e
        have hne0 : 1 ≤ C := by have := Hne.out; omega
        have hnz : (C == 0) = false := by simp; omega
        have hle1 : C ≤ 1 := H9.out rfl
        have hor : bits .or .u64 vv (C * 9223372036854775808) = vv + C * 9223372036854775808 := u64_orv63 vv (C * 9223372036854775808) hv0 hv1 (by omega) (by omega) (by omega)
        go_wp2
        go_ret3
        exact ⟨ret3 (by have := Hsum.out; omega) (by have := HRl.out; omega), rfl⟩
end Go.Proofs.Qxb6616481a

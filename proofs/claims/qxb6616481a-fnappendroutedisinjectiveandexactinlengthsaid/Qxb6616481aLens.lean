import Derived.Test.Qxb6616481aRouted
import Derived.Outline
namespace Go.Proofs.Qxb6616481a
open Go.RowKit
set_option linter.unusedVariables false

set_option maxHeartbeats 400000 in
theorem zzVarLen_any (x : Int) (w : World) (hx0 : 0 ≤ x) (hx1 : x ≤ 18446744073709551615) :
    Calls Try.prog 21 #[.int .u64 x] w fun e w' => e = .returned (.int .i64 ((uv 9 x).length : Nat)) ∧ w' = w := by
  obtain ⟨R, hR⟩ : ∃ R : Nat, R = (uv 9 x).length := ⟨_, rfl⟩
  rw [← hR]
  have hR10 : R ≤ 10 := by rw [hR]; exact uv_len 9 x
  have HR := hide hR; clear hR
  go_enter Try.func21, Try.ntmps21
  go_wp2
  go_loop [0, 3] (fun x' n => ∃ (f m : Nat) (y : Int), x' = .int .u64 y ∧ n = .int .i64 ((m + 1 : Nat) : Int) ∧ 0 ≤ y ∧ y < 128 ^ (f + 1) ∧ y ≤ 18446744073709551615 ∧ R = m + (uv f y).length) (fun x' _ => (intOf x').toNat)
  case atStart => exact ⟨9, 0, x, rfl, rfl, hx0, by have : (128 : Int) ^ (9 + 1) = 1180591620717411303424 := by decide
                                                    omega, hx1, by rw [HR.out]; simp⟩
  case round =>
    obtain ⟨f, m, y, rfl, rfl, hy0, hyf0, hy1, hR0⟩ := hrel
    have hyf := hide hyf0; clear hyf0
    have hp := uv_pos f y
    have hm : m ≤ 10 := by omega
    have HR1 := hide hR0; clear hR0
    by_cases hge : 128 ≤ y
    · obtain ⟨f', hf⟩ : ∃ f', f = f' + 1 := by
        cases f with
        | zero => have := pow_one' hyf.out; omega
        | succ f' => exact ⟨f', rfl⟩
      subst hf
      go_wp2
      go_round
      case rel =>
        refine ⟨f', m + 1, y / 128, rfl, by go_num, by omega, div_step f' y hyf.out, by omega, ?_⟩
        rw [HR1.out, uv_more f' y hge]; simp; omega
      case measure => simp [intOf]; omega
    · have hlt : y < 128 := by omega
      have h1 := HR1.out
      rw [uv_last f y hlt] at h1
      have H1 := hide h1; clear h1
      clear hp
      go_wp2
      go_ret
      have h2 := H1.out
      simp at h2
      subst h2
      exact ⟨rfl, rfl⟩

theorem uvs_take_len (cs : List Int) (k : Nat) (h : k < cs.length) : (uvs (cs.take (k + 1))).length = (uvs (cs.take k)).length + (uv 9 (cs.getD k 0)).length := by
  rw [uvs_take cs k h, List.length_append]

set_option maxHeartbeats 400000 in
theorem zzRoutedLen_any (nb nbody : Nat) (p : Value) (cs : List Int) (w : World) (hp : Row .u64 w p cs) (hcs : ∀ c ∈ cs, 0 ≤ c ∧ c ≤ 18446744073709551615) (h1 : nb ≤ 1048576) (h2 : nbody ≤ 1048576) (hlc : cs.length ≤ 1048576) :
    Calls Try.prog 18 #[.int .i64 nb, p, .int .i64 nbody] w fun e w' => e = .returned (.int .i64 ((nb + (encR cs).length + nbody : Nat) : Int)) ∧ w' = w := by
  have HCS := hide hcs; clear hcs
  obtain ⟨ao, c, g, o, rfl, hc1, hc2, ha, hn, hcell⟩ := hp
  have HA := hide ha; clear ha
  have HC := hide hcell; clear hcell
  clear hn
  obtain ⟨R, hR⟩ : ∃ R : Nat, R = nb + (encR cs).length + nbody := ⟨_, rfl⟩
  rw [← hR]
  have HR := hide hR; clear hR
  obtain ⟨U, hU⟩ : ∃ U : Nat, U = (uv 9 cs.length).length := ⟨_, rfl⟩
  have hUl : U ≤ 10 := by rw [hU]; exact uv_len 9 _
  have HU := hide hU; clear hU
  go_enter Try.func18, Try.ntmps18
  go_wp2_with fail
  refine (zzVarLen_any _ _ (by omega) (by omega)).mono ?_
  rintro e w1 ⟨rfl, rfl⟩
  rw [← HU.out]
  go_wp2
  go_loop [7, 8] (fun n i => ∃ (k m : Nat), i = .int .i64 k ∧ k ≤ cs.length ∧ n = .int .i64 m ∧ m = nb + U + nbody + (uvs (cs.take k)).length) (fun _ i => cs.length - (intOf i).toNat)
  case atStart => exact ⟨0, nb + U + nbody, rfl, Nat.zero_le _, by go_num, by simp [uvs]⟩
  case round =>
    obtain ⟨k, m, rfl, hk, rfl, hm0⟩ := hrel
    have hul := uvs_len (cs.take k)
    have htl : (cs.take k).length ≤ k := List.length_take_le _ _
    have hmle : m ≤ 100000000 := by omega
    have hm := hide hm0; clear hm0 hul
    by_cases hlt : k < cs.length
    · have e := HA.out (by omega)
      subst e
      have hx := HC.out k hlt
      have hX := HCS.out (cs.getD k 0) (getD_mem cs k hlt)
      have hts := hide (uvs_take_len cs k hlt)
      have hl10 := uv_len 9 (cs.getD k 0)
      obtain ⟨X, hXe⟩ : ∃ X, X = cs.getD k 0 := ⟨_, rfl⟩
      rw [← hXe] at hx hX hts hl10
      clear hXe
      obtain ⟨hX0, hX1⟩ := hX
      have hk0 : (0 : Int) ≤ (k : Int) := by omega
      have hk1 : (k : Int) < (cs.length : Int) := by omega
      go_wp2_with fail
      refine (zzVarLen_any _ _ hX0 hX1).mono ?_
      rintro e w1 ⟨rfl, rfl⟩
      obtain ⟨V, hV⟩ : ∃ V : Nat, V = (uv 9 X).length := ⟨_, rfl⟩
      rw [← hV] at hl10 ⊢
      have HV := hide hV; clear hV
      go_wp2
      go_round
      case rel => exact ⟨k + 1, m + V, by go_num, by omega, by go_num, by rw [hm.out, hts.out, HV.out]; omega⟩
      case measure => simp [intOf]; omega
    · go_wp2
      go_ret
      refine ⟨?_, rfl⟩
      have e1 : R = m := by
        rw [hm.out, HR.out, encR, List.length_append, List.take_of_length_le (by omega), HU.out]; omega
      rw [e1]
      rfl
end Go.Proofs.Qxb6616481a

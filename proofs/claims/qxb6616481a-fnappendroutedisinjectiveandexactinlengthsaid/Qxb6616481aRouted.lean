import Derived.Test.Qxb6616481aUv
import Derived.Outline
namespace Go.Proofs.Qxb6616481a
open Go.RowKit
set_option linter.unusedVariables false

/-- The varints of the ports. -/
def uvs (cs : List Int) : List Int := cs.flatMap (uv 9)
theorem uvs_len (cs : List Int) : (uvs cs).length ≤ 10 * cs.length := by
  induction cs with
  | nil => simp [uvs]
  | cons c cs ih =>
    have := uv_len 9 c
    simp only [uvs, List.flatMap_cons, List.length_append, List.length_cons] at ih ⊢
    omega
theorem getD_mem (cs : List Int) (k : Nat) (h : k < cs.length) : cs.getD k 0 ∈ cs := by
  have e : cs.getD k 0 = cs[k] := by simp [h]
  rw [e]
  exact List.getElem_mem h
theorem uvs_take (cs : List Int) (k : Nat) (h : k < cs.length) : uvs (cs.take (k + 1)) = uvs (cs.take k) ++ uv 9 (cs.getD k 0) := by
  rw [List.take_succ_eq_append_getElem h]
  unfold uvs
  rw [List.flatMap_append]
  simp [h]

/-- What AppendRouted writes ahead of the body. -/
def encR (cs : List Int) : List Int := uv 9 cs.length ++ uvs cs

set_option maxHeartbeats 400000 in
theorem appendPorts_any (v p : Value) (xs cs : List Int) (w : World) (hv : Tight .u8 w v xs) (hp : Row .u64 w p cs) (hcs : ∀ c ∈ cs, 0 ≤ c ∧ c ≤ 18446744073709551615) (hlx : xs.length ≤ 1048576) (hlc : cs.length ≤ 1048576) :
    Calls Try.prog 20 #[v, p] w fun e w' => ∃ v', e = .returned v' ∧ Own w.heap.size w' v' (xs ++ encR cs) ∧ Below w.heap.size w w' := by
  have HV := hide hv; clear hv
  have HCS := hide hcs; clear hcs
  have hu1 := uv_len 9 cs.length
  obtain ⟨ao, c, g, o, rfl, hc1, hc2, ha, hn, hcell⟩ := hp
  have HA := hide ha; clear ha
  have HC := hide hcell; clear hcell
  clear hn
  go_enter Try.func20, Try.ntmps20
  go_wp2_with fail
  refine (appendUvarint_any w.heap.size _ xs _ _ (by omega) (by omega) (.inl HV.out) (Nat.le_refl _) (by omega)).mono ?_
  rintro e w1 ⟨v1, rfl, hown, hbel⟩
  have HO := hide hown; clear hown
  have HB := hide hbel; clear hbel
  go_wp2
  go_loopw [0, 14] (fun v i wr => ∃ k : Nat, i = .int .i64 k ∧ k ≤ cs.length ∧ Own w.heap.size wr v (xs ++ uv 9 cs.length ++ uvs (cs.take k)) ∧ Below w.heap.size w wr) (fun _ i _ => cs.length - (intOf i).toNat)
  case atStart => exact ⟨0, rfl, Nat.zero_le _, by simpa [uvs] using HO.out, HB.out⟩
  case round =>
    obtain ⟨k, rfl, hk, hown0, hbel0⟩ := hrel
    have hown := hide hown0; clear hown0
    have hbel := hide hbel0; clear hbel0
    by_cases hlt : k < cs.length
    · have e := HA.out (by omega)
      subst e
      have hx := HC.out k hlt
      have hx' : wr.cell? ⟨g, o + k, none⟩ = some (.int .u64 (cs.getD k 0)) := by rw [hbel.out.cell (block_lt_of_cell hx)]; exact hx
      clear hx
      have hX := HCS.out (cs.getD k 0) (getD_mem cs k hlt)
      have hts := hide (uvs_take cs k hlt)
      obtain ⟨X, hXe⟩ : ∃ X, X = cs.getD k 0 := ⟨_, rfl⟩
      rw [← hXe] at hx' hX hts
      clear hXe
      obtain ⟨hX0, hX1⟩ := hX
      have hk0 : (0 : Int) ≤ (k : Int) := by omega
      have hk1 : (k : Int) < (cs.length : Int) := by omega
      have hul := uvs_len (cs.take k)
      have htl : (cs.take k).length ≤ k := List.length_take_le _ _
      have hsz := hbel.out.size
      have HL := hide (show (xs ++ uv 9 cs.length ++ uvs (cs.take k)).length ≤ 1073741824 from by rw [List.length_append, List.length_append]; omega)
      go_wp2_with fail
      refine (appendUvarint_any w.heap.size _ (xs ++ uv 9 cs.length ++ uvs (cs.take k)) _ _ hX0 hX1 (.inr hown.out) hsz HL.out).mono ?_
      rintro e w2 ⟨v2, rfl, hown2, hbel2⟩
      have HO2 := hide hown2; clear hown2
      have HB2 := hide hbel2; clear hbel2
      go_wp2
      go_roundw
      case rel =>
        refine ⟨k + 1, by go_num, by omega, ?_, hbel.out.trans HB2.out⟩
        rw [hts.out, ← List.append_assoc]
        simpa only [List.append_assoc] using HO2.out
      case measure => simp [intOf]; omega
    · go_wp2
      go_ret
      refine ⟨_, rfl, ?_, hbel.out⟩
      have := hown.out
      rw [List.take_of_length_le (by omega)] at this
      rw [encR, ← List.append_assoc]
      exact this

set_option maxHeartbeats 400000 in
theorem appendRouted_any (v p b : Value) (xs cs ys : List Int) (w : World) (hv : Tight .u8 w v xs) (hp : Row .u64 w p cs) (hb : Row .u8 w b ys) (hcs : ∀ c ∈ cs, 0 ≤ c ∧ c ≤ 18446744073709551615)
    (hlx : xs.length ≤ 1048576) (hlc : cs.length ≤ 1048576) (hly : ys.length ≤ 1048576) :
    Calls Try.prog 14 #[v, p, b] w fun e w' => ∃ v', e = .returned v' ∧ Own w.heap.size w' v' (xs ++ encR cs ++ ys) ∧ Below w.heap.size w w' := by
  have HV := hide hv; clear hv
  have HP := hide hp; clear hp
  have HBo := hide hb; clear hb
  have HCS := hide hcs; clear hcs
  have hl1 : (encR cs).length ≤ 10 + 10 * cs.length := by
    have h1 := uv_len 9 cs.length
    have h2 := uvs_len cs
    rw [encR, List.length_append]; omega
  have HL := hide (show (xs ++ encR cs).length + ys.length ≤ 140737488355328 from by rw [List.length_append]; omega)
  go_enter Try.func14, Try.ntmps14
  go_wp2_with fail
  refine (appendPorts_any _ _ xs cs _ HV.out HP.out HCS.out hlx hlc).mono ?_
  rintro e w1 ⟨v1, rfl, hown, hbel⟩
  have HO := hide hown; clear hown
  have HB := hide hbel; clear hbel
  have HBo' := hide (HBo.out.to HB.out)
  have hsz := HB.out.size
  go_wp2_with (at_builtin; refine wpList_app _ rfl (.tmp 9) (.tmp 10) rfl w.heap.size _ _ (xs ++ encR cs) ys rfl rfl (.inr HO.out) HBo'.out hsz HL.out ?_)
  intro v' w2 hown2 hbel2
  have HO2 := hide hown2; clear hown2
  have HB2 := hide hbel2; clear hbel2
  go_wp2
  go_ret
  exact ⟨v', rfl, by simpa only [List.append_assoc] using HO2.out, HB.out.trans HB2.out⟩
end Go.Proofs.Qxb6616481a

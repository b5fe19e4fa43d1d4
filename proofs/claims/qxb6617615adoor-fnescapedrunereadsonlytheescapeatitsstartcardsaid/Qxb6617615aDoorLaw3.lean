import Derived.Test.Qxb6617615aDoorRune
import Derived.WalkSpells
import Derived.Outline
import Derived.Laws.CopyOwn
namespace Go.Proofs.Qxb6617615aDoor
open Go.RowKit
set_option linter.unusedVariables false

theorem info5 : (Tryd.prog.info? 5).map (fun i => (i.zero, i.size, i.bytes)) = some (some (.int .u8 0), 1, 1) := by kernel_rfl
theorem size5 : (Tryd.prog.info? 5).map (·.size) = some 1 := by kernel_rfl
theorem info_parts {P : Program} {t : TypeId} {z : Option Value} {s b : Nat} (h : (P.info? t).map (fun i => (i.zero, i.size, i.bytes)) = some (z, s, b)) : ∃ i, P.info? t = some i ∧ i.zero = z ∧ i.size = s ∧ i.bytes = b := by
  cases hi : P.info? t with
  | none => rw [hi] at h; cases h
  | some i =>
    rw [hi] at h
    simp at h
    exact ⟨i, rfl, h.1, h.2.1, h.2.2⟩

theorem splice_all {α : Type} (L cs : List α) (h : L.length = cs.length) : splice L 0 cs = cs := by
  simp [splice, ← h]

theorem tight_heap (k : IntKind) (w : World) (xs : List Int) (t : TypeId) (fr : Nat × Nat) (H : Nat) (hH : w.heap[H]? = some (.cells (xs.map (Value.int k)).toArray t fr)) (hm : xs.length ≤ maxLen) :
    Tight k w (.slice (some ⟨H, 0, none⟩) xs.length xs.length) xs := by
  refine ⟨_, H, 0, rfl, hm, fun _ => rfl, fun j hj => ?_⟩
  rw [cell_of_row w H (0 + j) _ t fr hH, Nat.zero_add]
  simp [hj]

def IsB (e : Ending) : Prop := ∃ b, e = .returned (.bool b)

theorem gate4 (a0 a1 : Option Addr) (n0 c0 n1 c1 : Nat) (w : World) :
    Calls Tryd.prog 4 #[.slice a0 n0 c0, .slice a1 n1 c1] w fun e w' => (∃ b, e = .returned (.bool b)) ∧ w' = w := by
  go_enter Tryd.func4, Tryd.ntmps4
  go_wp2
  all_goals (go_ret; exact ⟨⟨_, rfl⟩, rfl⟩)

theorem getD_app_l {xs ys : List Int} {j : Nat} (h : j < xs.length) : (xs ++ ys).getD j 0 = xs.getD j 0 := by
  simp [List.getD, List.getElem?_append_left h]
theorem getD_app_r {xs ys : List Int} (k : Nat) : (xs ++ ys).getD (xs.length + k) 0 = ys.getD k 0 := by
  simp [List.getD, List.getElem?_append_right (Nat.le_add_right xs.length k)]

theorem evl_app (xs ys : List Int) (h : 6 ≤ xs.length) : evl (xs ++ ys) = evl xs := by
  have l : 6 ≤ (xs ++ ys).length := by rw [List.length_append]; omega
  have g0 := getD_app_l (ys := ys) (show 0 < xs.length by omega)
  have g1 := getD_app_l (ys := ys) (show 1 < xs.length by omega)
  have g2 := getD_app_l (ys := ys) (show 2 < xs.length by omega)
  have g3 := getD_app_l (ys := ys) (show 3 < xs.length by omega)
  have g4 := getD_app_l (ys := ys) (show 4 < xs.length by omega)
  have g5 := getD_app_l (ys := ys) (show 5 < xs.length by omega)
  simp only [evl, isE, g0, g1, g2, g3, g4, g5, l, h]

theorem bnd_app {xs ys : List Int} (hx : ∀ j, 0 ≤ xs.getD j 0 ∧ xs.getD j 0 ≤ 255) (hy : ∀ j, 0 ≤ ys.getD j 0 ∧ ys.getD j 0 ≤ 255) (j : Nat) : 0 ≤ (xs ++ ys).getD j 0 ∧ (xs ++ ys).getD j 0 ≤ 255 := by
  by_cases h : j < xs.length
  · rw [getD_app_l h]; exact hx j
  · have e : j = xs.length + (j - xs.length) := by omega
    rw [e, getD_app_r]; exact hy _

set_option maxHeartbeats 3200000 in
theorem law3 (v0 v1 : Value) (xs ys : List Int) (w : World) (h0 : Row .u8 w v0 xs) (h1 : Row .u8 w v1 ys) (hxb : ∀ j, 0 ≤ xs.getD j 0 ∧ xs.getD j 0 ≤ 255) (hyb : ∀ j, 0 ≤ ys.getD j 0 ∧ ys.getD j 0 ≤ 255)
    (ev : Value) (hev0 : w.cell? ⟨0, 0, none⟩ = some ev) (hev : ev = .nilIface ∨ ∃ te pe, ev = .iface te pe) :
    Calls Tryd.prog 3 #[v0, v1] w fun e w' => e = .returned (.bool true) ∧ Below w.heap.size w w' := by
  have hnil := fun (w : World) (a : Option Addr) (n c : Nat) => run_neq_slice_nil_any (P := Tryd.prog) w 22 5 a n c 0 0 Tryd.underlying22
  have h0' := hide h0
  have h1' := hide h1
  obtain ⟨ao, c0, g, o, rfl, hc1, hc2, ha, hn, hcell⟩ := h0
  obtain ⟨ay, c1, gy, oy, rfl, hd1, hd2, hya, hyn, hycell⟩ := h1
  have HXB := hide hxb; clear hxb
  have HYB := hide hyb; clear hyb
  have HEVI := hide hev; clear hev
  have HE0 := hide hev0; clear hev0
  have HA := hide ha; clear ha
  have HC := hide hcell; clear hcell
  have HYA := hide hya; clear hya
  clear hyn
  by_cases hb1 : xs.length ≤ 524288
  · by_cases hb2 : ys.length ≤ 524288
    · have q1 : ¬ (524288 : Int) < (xs.length : Int) := by omega
      have q2 : ¬ (524288 : Int) < (ys.length : Int) := by omega
      have q3 : decide ((524288 : Int) < (xs.length : Int)) = false := by simp; omega
      have q4 : decide ((524288 : Int) < (ys.length : Int)) = false := by simp; omega
      cases ao with
      | none =>
        have hc0 := hn rfl
        subst hc0
        clear hn
        have HRA := HA
        have HRC := HC
        have HYC := hide hycell; clear hycell
        have HR := h0'
        have HEV := HE0
        have HBA := hide (Below.refl w.heap.size w)
        obtain ⟨i1, hi1, hy0, hy1, hy2⟩ := info_parts info5
        have hmj := run_make (P := Tryd.prog) w 22 5 i1 (.int .u8 0) Tryd.underlying22 hi1 hy0 .i64 .i64 ((xs.length : Int) + (ys.length : Int)) ((xs.length : Int) + (ys.length : Int)) (by omega) (by omega) (by rw [hy2]; omega) (by omega)
        rw [show ((xs.length : Int) + (ys.length : Int)).toNat = xs.length + ys.length by omega] at hmj
        have Hi1 := hide hi1; clear hi1
        obtain ⟨J, hJ⟩ : ∃ J, J = madeCells (Value.int .u8 0).cells ((xs.length + ys.length) * i1.size) := ⟨_, rfl⟩
        rw [← hJ] at hmj
        have hJl : J.size = xs.length + ys.length := by rw [hJ, size_madeCells, hy1, Nat.mul_one]
        have HJ := hide hJl; clear hJl hJ
        have T6 := hide ((Below.refl w.heap.size w).alloc (Nat.le_refl _) (.cells J 5))
        have T7 := hide (heap_alloc_new w (.cells J 5))
        go_enter Tryd.func3, Tryd.ntmps3
        go_wp2_with fail
        refine (gate4 _ _ _ _ _ _ _).mono ?_
        rintro e w0 ⟨⟨b, rfl⟩, hw⟩
        subst w0
        cases b with
        | false =>
          go_wp2
          go_ret
          exact ⟨rfl, Below.refl _ _⟩
        | true =>
          go_wp2
          go_loopw [7] (fun i wr => ∃ (k : Nat) (cur : Array Value), i = .int .i64 k ∧ k ≤ xs.length ∧ wr.heap[w.heap.size]? = some (.cells cur 5 (0, 0)) ∧ cur.size = xs.length + ys.length ∧ (∀ j, j < k → cur[j]? = some (.int .u8 (xs.getD j 0))) ∧ Below w.heap.size w wr) (fun i _ => xs.length - (intOf i).toNat)
          case atStart => exact ⟨0, J, rfl, Nat.zero_le _, T7.out, HJ.out, fun j hj => by omega, T6.out⟩
          case round =>
            obtain ⟨k, cur, rfl, hk, hh0, hs0, hall0, hb0⟩ := hrel
            have hh := hide hh0; clear hh0
            have hs := hide hs0; clear hs0
            have hall := hide hall0; clear hall0
            have hb := hide hb0; clear hb0
            by_cases hlt : k < xs.length
            · exfalso; omega
            · have hall1 := hide (show ∀ j, j < xs.length → cur[j]? = some (.int .u8 ((xs ++ ys).getD j 0)) from fun j hj => by rw [getD_app_l hj]; exact hall.out j (by omega))
              clear hall
              go_wp2
              go_loopw [8] (fun i wr => ∃ (k : Nat) (cur : Array Value), i = .int .i64 k ∧ k ≤ ys.length ∧ wr.heap[w.heap.size]? = some (.cells cur 5 (0, 0)) ∧ cur.size = xs.length + ys.length ∧ (∀ j, j < xs.length + k → cur[j]? = some (.int .u8 ((xs ++ ys).getD j 0))) ∧ Below w.heap.size w wr) (fun i _ => ys.length - (intOf i).toNat)
              case atStart => exact ⟨0, cur, rfl, Nat.zero_le _, hh.out, hs.out, fun j hj => hall1.out j (by omega), hb.out⟩
              case round =>
                clear hh hs hall1 hb hlt hk
                obtain ⟨m, cu2, rfl, hm, hh0, hs0, hall0, hb0⟩ := hrel
                have hh := hide hh0; clear hh0
                have hs := hide hs0; clear hs0
                have hall := hide hall0; clear hall0
                have hb := hide hb0; clear hb0
                by_cases hlt : m < ys.length
                · have e := HYA.out (by omega)
                  cases e
                  have hx := HYC.out m hlt
                  have hx' : wr.cell? ⟨gy, oy + m, none⟩ = some (.int .u8 (ys.getD m 0)) := by rw [hb.out.cell (block_lt_of_cell hx)]; exact hx
                  clear hx
                  obtain ⟨old, hold⟩ : ∃ old, wr.cell? ⟨w.heap.size, xs.length + m, none⟩ = some old := by
                    rw [cell_of_row _ _ _ _ _ _ hh.out]
                    exact ⟨cu2[xs.length + m]'(by rw [hs.out]; omega), by rw [Array.getElem?_eq_getElem]⟩
                  have hfr := frozen_of_row wr w.heap.size (xs.length + m) cu2 5 hh.out
                  obtain ⟨X, hX⟩ : ∃ X, X = ys.getD m 0 := ⟨_, rfl⟩
                  rw [← hX] at hx'
                  have HX := hide hX; clear hX
                  have hk0 : (0 : Int) ≤ (m : Int) := by omega
                  have hk1 : (m : Int) < (ys.length : Int) := by omega
                  have hk2 : (xs.length : Int) + (m : Int) < ((xs.length + ys.length : Nat) : Int) := by omega
                  have hk3 : (xs.length : Int) + (m : Int) < (xs.length : Int) + (ys.length : Int) := by omega
                  have hk4 : ((xs.length : Int) + (m : Int)).toNat = xs.length + m := by omega
                  go_wp2
                  go_roundw
                  case rel =>
                    refine ⟨m + 1, cu2.setIfInBounds (xs.length + m) (.int .u8 X), by go_num, by omega, ?_, by rw [Array.size_setIfInBounds]; exact hs.out, fun j hj => ?_, hb.out.setCell (Nat.le_refl _) _⟩
                    · exact heap_setCell_same wr w.heap.size (xs.length + m) cu2 5 _ hh.out
                    · rw [Array.getElem?_setIfInBounds]
                      by_cases hjk : xs.length + m = j
                      · subst hjk
                        rw [if_pos rfl, if_pos (by rw [hs.out]; omega), HX.out, getD_app_r]
                      · rw [if_neg hjk]
                        exact hall.out j (by omega)
                  case measure => simp [intOf]; omega
                · -- BOTH ARE WRITTEN
                  have hbx := hb.out
                  have R1 := hide (HR.out.to hbx)
                  have RJ : Row .u8 wr (.slice (some ⟨w.heap.size, 0, none⟩) (xs.length + ys.length) (xs.length + ys.length)) (xs ++ ys) := by
                    refine ⟨some ⟨w.heap.size, 0, none⟩, xs.length + ys.length, w.heap.size, 0, by rw [List.length_append], by rw [List.length_append]; exact Nat.le_refl _, by unfold maxLen; omega, fun _ => rfl, fun h => (by cases h), fun j hj => ?_⟩
                    rw [List.length_append] at hj
                    rw [cell_of_row wr w.heap.size (0 + j) _ 5 (0, 0) hh.out, Nat.zero_add]
                    exact hall.out j (by omega)
                  have RJ1 := hide RJ; clear RJ
                  have hev1 : wr.cell? ⟨0, 0, none⟩ = some ev := (hbx.cell (show (⟨0, 0, none⟩ : Addr).block < w.heap.size from block_lt_of_cell HEV.out)).trans HEV.out
                  have C1 := hide (zzRune_any _ xs wr R1.out HXB.out ev hev1 HEVI.out)
                  have HB1 := hide (HBA.out.trans (hbx.mono HBA.out.size))
                  have HE1 := hide hev1
                  clear hbx hev1 hh hs hall hb
                  go_wp2_with fail
                  refine C1.out.mono ?_
                  rintro e w3 ⟨rfl, hb3⟩
                  have R3 := hide (R1.out.to hb3)
                  have RJ3 := hide (RJ1.out.to hb3)
                  have hev3 : w3.cell? ⟨0, 0, none⟩ = some ev := (hb3.cell (show (⟨0, 0, none⟩ : Addr).block < wr.heap.size from block_lt_of_cell HE1.out)).trans HE1.out
                  have C3 := hide (zzRune_any _ (xs ++ ys) w3 RJ3.out (bnd_app HXB.out HYB.out) ev hev3 HEVI.out)
                  have HB3 := hide (HB1.out.trans (hb3.mono HB1.out.size))
                  clear hb3 hev3
                  go_wp2_with fail
                  refine C3.out.mono ?_
                  rintro e w4 ⟨rfl, hb4⟩
                  have HB4 := hide (HB3.out.trans (hb4.mono HB3.out.size))
                  have C4 := hide (escapeValue_any _ xs w4 (R3.out.to hb4))
                  have RJ4 := hide (RJ3.out.to hb4)
                  clear hb4
                  go_wp2_with fail
                  refine C4.out.mono ?_
                  rintro e w5 ⟨rfl, n5, rfl⟩
                  have C5 := hide (escapeValue_any _ (xs ++ ys) (w4.drewN n5) ((Row.drewN n5).2 RJ4.out))
                  go_wp2_with fail
                  refine C5.out.mono ?_
                  rintro e w6 ⟨rfl, n6, rfl⟩
                  by_cases h6 : 6 ≤ xs.length
                  · exfalso; omega
                  · go_wp2
                    go_ret
                    exact ⟨rfl, below_drewN HB4.out _⟩
      | some a =>
        obtain ⟨i0, hi, hz0, hz1, hz2⟩ := info_parts info5
        have hmk := run_make (P := Tryd.prog) w 22 5 i0 (.int .u8 0) Tryd.underlying22 hi hz0 .i64 .i64 xs.length xs.length (by omega) (by omega) (by rw [hz2]; omega) (by omega)
        simp only [Int.toNat_natCast] at hmk
        have Hi := hide hi; clear hi
        clear hn
        obtain ⟨M, hM⟩ : ∃ M, M = madeCells (Value.int .u8 0).cells (xs.length * i0.size) := ⟨_, rfl⟩
        rw [← hM] at hmk
        have hMl : M.size = xs.length := by rw [hM, size_madeCells, hz1, Nat.mul_one]
        have HM := hide hMl; clear hMl hM
        have S1 := hide (show (w.alloc (.cells M 5)).heap[w.heap.size]? = some (.cells M.toList.toArray 5 (0, 0)) from by simpa using heap_alloc_new w _)
        have S3 := hide (show 0 < (xs.map (Value.int .u8)).length → ∃ ad, some a = some ad ∧ ∀ j x, (xs.map (Value.int .u8))[j]? = some x → (w.alloc (.cells M 5)).cell? (ad.add j) = some x from by
          intro hp
          refine ⟨a, rfl, fun j x hx => ?_⟩
          have hj : j < xs.length := by
            have := (List.getElem?_eq_some_iff.1 hx).1
            simpa using this
          have e := HA.out (by omega)
          cases e
          have := HC.out j hj
          rw [Addr.add_lit, World.cell?_of_block (w := w) (heap_alloc_old w _ (block_lt_of_cell this)), this]
          simp [hj] at hx ⊢
          exact hx)
        have S4 := hide (show 0 + (xs.map (Value.int .u8)).length ≤ M.toList.length from by simp [HM.out])
        have S5 := hide (show ∀ x ∈ xs.map (Value.int .u8), x.oneCell' = true from by
          intro x hx
          obtain ⟨_, _, rfl⟩ := List.mem_map.1 hx
          rfl)
        have S6 := hide ((Below.refl w.heap.size w).alloc (Nat.le_refl _) (.cells M 5))
        have HYC0 := hide hycell; clear hycell
        go_enter Tryd.func3, Tryd.ntmps3
        go_wp2_with fail
        refine (gate4 _ _ _ _ _ _ _).mono ?_
        rintro e w0 ⟨⟨b, rfl⟩, hw⟩
        subst w0
        cases b with
        | false =>
          go_wp2
          go_ret
          exact ⟨rfl, Below.refl _ _⟩
        | true =>
          go_wp2_with (refine wpList_copy_splice rfl (.tmp 26) (.tmp 27) 22 22 rfl 5 Tryd.underlying22 size5 _ _ _ _ _ _ rfl rfl w.heap.size 0 M.toList 5 S1.out (xs.map (Value.int .u8)) (by simp) (fun h => ⟨rfl, S3.out h⟩) S4.out S5.out w.heap.size w S6.out (Nat.le_refl _) ?_)
          intro wA hh0 hb0
          have HBA := hide hb0
          have hh1 : wA.heap[w.heap.size]? = some (.cells (xs.map (Value.int .u8)).toArray 5 (0, 0)) := by
            have := hh0.out
            rw [splice_all _ _ (by simp [HM.out])] at this
            exact this
          have HR := hide (tight_heap .u8 wA xs 5 (0, 0) _ hh1 (by unfold maxLen; omega)).row
          have HRA := hide (show 0 < xs.length → (some ⟨w.heap.size, 0, none⟩ : Option Addr) = some ⟨w.heap.size, 0, none⟩ from fun _ => rfl)
          have HRC := hide (show ∀ j, j < xs.length → wA.cell? ⟨w.heap.size, 0 + j, none⟩ = some (.int .u8 (xs.getD j 0)) from fun j hj => by
            rw [cell_of_row wA w.heap.size (0 + j) _ 5 (0, 0) hh1, Nat.zero_add]
            simp [hj])
          have HEV := hide ((hb0.cell (show (⟨0, 0, none⟩ : Addr).block < w.heap.size from block_lt_of_cell HE0.out)).trans HE0.out)
          have HYC := hide (show ∀ j, j < ys.length → wA.cell? ⟨gy, oy + j, none⟩ = some (.int .u8 (ys.getD j 0)) from fun j hj => by
            have := HYC0.out j hj
            rw [hb0.cell (block_lt_of_cell this)]
            exact this)
          clear hh0 hb0 hh1 S1 S3 S4 S5 S6 hmk HYC0 HC HA h0' h1' HE0
          obtain ⟨i1, hi1, hy0, hy1, hy2⟩ := info_parts info5
          have hmj := run_make (P := Tryd.prog) wA 22 5 i1 (.int .u8 0) Tryd.underlying22 hi1 hy0 .i64 .i64 ((xs.length : Int) + (ys.length : Int)) ((xs.length : Int) + (ys.length : Int)) (by omega) (by omega) (by rw [hy2]; omega) (by omega)
          rw [show ((xs.length : Int) + (ys.length : Int)).toNat = xs.length + ys.length by omega] at hmj
          have Hi1 := hide hi1; clear hi1
          obtain ⟨J, hJ⟩ : ∃ J, J = madeCells (Value.int .u8 0).cells ((xs.length + ys.length) * i1.size) := ⟨_, rfl⟩
          rw [← hJ] at hmj
          have hJl : J.size = xs.length + ys.length := by rw [hJ, size_madeCells, hy1, Nat.mul_one]
          have HJ := hide hJl; clear hJl hJ
          have T6 := hide ((Below.refl wA.heap.size wA).alloc (Nat.le_refl _) (.cells J 5))
          have T7 := hide (heap_alloc_new wA (.cells J 5))
          go_wp2
          go_loopw [7] (fun i wr => ∃ (k : Nat) (cur : Array Value), i = .int .i64 k ∧ k ≤ xs.length ∧ wr.heap[wA.heap.size]? = some (.cells cur 5 (0, 0)) ∧ cur.size = xs.length + ys.length ∧ (∀ j, j < k → cur[j]? = some (.int .u8 (xs.getD j 0))) ∧ Below wA.heap.size wA wr) (fun i _ => xs.length - (intOf i).toNat)
          case atStart => exact ⟨0, J, rfl, Nat.zero_le _, T7.out, HJ.out, fun j hj => by omega, T6.out⟩
          case round =>
            obtain ⟨k, cur, rfl, hk, hh0, hs0, hall0, hb0⟩ := hrel
            have hh := hide hh0; clear hh0
            have hs := hide hs0; clear hs0
            have hall := hide hall0; clear hall0
            have hb := hide hb0; clear hb0
            by_cases hlt : k < xs.length
            · have e := HRA.out (by omega)
              cases e
              have hx := HRC.out k hlt
              have hx' : wr.cell? ⟨w.heap.size, k, none⟩ = some (.int .u8 (xs.getD k 0)) := by rw [Nat.zero_add] at hx; rw [hb.out.cell (block_lt_of_cell hx)]; exact hx
              clear hx
              obtain ⟨old, hold⟩ : ∃ old, wr.cell? ⟨wA.heap.size, k, none⟩ = some old := by
                rw [cell_of_row _ _ _ _ _ _ hh.out]
                exact ⟨cur[k]'(by rw [hs.out]; omega), by rw [Array.getElem?_eq_getElem]⟩
              have hfr := frozen_of_row wr wA.heap.size k cur 5 hh.out
              obtain ⟨X, hX⟩ : ∃ X, X = xs.getD k 0 := ⟨_, rfl⟩
              rw [← hX] at hx'
              have HX := hide hX; clear hX
              have hk0 : (0 : Int) ≤ (k : Int) := by omega
              have hk1 : (k : Int) < (xs.length : Int) := by omega
              have hk2 : (k : Int) < ((xs.length + ys.length : Nat) : Int) := by omega
              have hk3 : (k : Int) < (xs.length : Int) + (ys.length : Int) := by omega
              go_wp2
              go_roundw
              case rel =>
                refine ⟨k + 1, cur.setIfInBounds k (.int .u8 X), by go_num, by omega, ?_, by rw [Array.size_setIfInBounds]; exact hs.out, fun j hj => ?_, hb.out.setCell (Nat.le_refl _) _⟩
                · exact heap_setCell_same wr wA.heap.size k cur 5 _ hh.out
                · rw [Array.getElem?_setIfInBounds]
                  by_cases hjk : k = j
                  · subst hjk
                    rw [if_pos rfl, if_pos (by rw [hs.out]; omega), HX.out]
                  · rw [if_neg hjk]
                    exact hall.out j (by omega)
              case measure => simp [intOf]; omega
            · have hall1 := hide (show ∀ j, j < xs.length → cur[j]? = some (.int .u8 ((xs ++ ys).getD j 0)) from fun j hj => by rw [getD_app_l hj]; exact hall.out j (by omega))
              clear hall
              go_wp2
              go_loopw [8] (fun i wr => ∃ (k : Nat) (cur : Array Value), i = .int .i64 k ∧ k ≤ ys.length ∧ wr.heap[wA.heap.size]? = some (.cells cur 5 (0, 0)) ∧ cur.size = xs.length + ys.length ∧ (∀ j, j < xs.length + k → cur[j]? = some (.int .u8 ((xs ++ ys).getD j 0))) ∧ Below wA.heap.size wA wr) (fun i _ => ys.length - (intOf i).toNat)
              case atStart => exact ⟨0, cur, rfl, Nat.zero_le _, hh.out, hs.out, fun j hj => hall1.out j (by omega), hb.out⟩
              case round =>
                clear hh hs hall1 hb hlt hk
                obtain ⟨m, cu2, rfl, hm, hh0, hs0, hall0, hb0⟩ := hrel
                have hh := hide hh0; clear hh0
                have hs := hide hs0; clear hs0
                have hall := hide hall0; clear hall0
                have hb := hide hb0; clear hb0
                by_cases hlt : m < ys.length
                · have e := HYA.out (by omega)
                  cases e
                  have hx := HYC.out m hlt
                  have hx' : wr.cell? ⟨gy, oy + m, none⟩ = some (.int .u8 (ys.getD m 0)) := by rw [hb.out.cell (block_lt_of_cell hx)]; exact hx
                  clear hx
                  obtain ⟨old, hold⟩ : ∃ old, wr.cell? ⟨wA.heap.size, xs.length + m, none⟩ = some old := by
                    rw [cell_of_row _ _ _ _ _ _ hh.out]
                    exact ⟨cu2[xs.length + m]'(by rw [hs.out]; omega), by rw [Array.getElem?_eq_getElem]⟩
                  have hfr := frozen_of_row wr wA.heap.size (xs.length + m) cu2 5 hh.out
                  obtain ⟨X, hX⟩ : ∃ X, X = ys.getD m 0 := ⟨_, rfl⟩
                  rw [← hX] at hx'
                  have HX := hide hX; clear hX
                  have hk0 : (0 : Int) ≤ (m : Int) := by omega
                  have hk1 : (m : Int) < (ys.length : Int) := by omega
                  have hk2 : (xs.length : Int) + (m : Int) < ((xs.length + ys.length : Nat) : Int) := by omega
                  have hk3 : (xs.length : Int) + (m : Int) < (xs.length : Int) + (ys.length : Int) := by omega
                  have hk4 : ((xs.length : Int) + (m : Int)).toNat = xs.length + m := by omega
                  go_wp2
                  go_roundw
                  case rel =>
                    refine ⟨m + 1, cu2.setIfInBounds (xs.length + m) (.int .u8 X), by go_num, by omega, ?_, by rw [Array.size_setIfInBounds]; exact hs.out, fun j hj => ?_, hb.out.setCell (Nat.le_refl _) _⟩
                    · exact heap_setCell_same wr wA.heap.size (xs.length + m) cu2 5 _ hh.out
                    · rw [Array.getElem?_setIfInBounds]
                      by_cases hjk : xs.length + m = j
                      · subst hjk
                        rw [if_pos rfl, if_pos (by rw [hs.out]; omega), HX.out, getD_app_r]
                      · rw [if_neg hjk]
                        exact hall.out j (by omega)
                  case measure => simp [intOf]; omega
                · -- BOTH ARE WRITTEN
                  have hbx := hb.out
                  have R1 := hide (HR.out.to hbx)
                  have RJ : Row .u8 wr (.slice (some ⟨wA.heap.size, 0, none⟩) (xs.length + ys.length) (xs.length + ys.length)) (xs ++ ys) := by
                    refine ⟨some ⟨wA.heap.size, 0, none⟩, xs.length + ys.length, wA.heap.size, 0, by rw [List.length_append], by rw [List.length_append]; exact Nat.le_refl _, by unfold maxLen; omega, fun _ => rfl, fun h => (by cases h), fun j hj => ?_⟩
                    rw [List.length_append] at hj
                    rw [cell_of_row wr wA.heap.size (0 + j) _ 5 (0, 0) hh.out, Nat.zero_add]
                    exact hall.out j (by omega)
                  have RJ1 := hide RJ; clear RJ
                  have hev1 : wr.cell? ⟨0, 0, none⟩ = some ev := (hbx.cell (show (⟨0, 0, none⟩ : Addr).block < wA.heap.size from block_lt_of_cell HEV.out)).trans HEV.out
                  have C1 := hide (zzRune_any _ xs wr R1.out HXB.out ev hev1 HEVI.out)
                  have HB1 := hide (HBA.out.trans (hbx.mono HBA.out.size))
                  have HE1 := hide hev1
                  clear hbx hev1 hh hs hall hb
                  go_wp2_with fail
                  refine C1.out.mono ?_
                  rintro e w3 ⟨rfl, hb3⟩
                  have R3 := hide (R1.out.to hb3)
                  have RJ3 := hide (RJ1.out.to hb3)
                  have hev3 : w3.cell? ⟨0, 0, none⟩ = some ev := (hb3.cell (show (⟨0, 0, none⟩ : Addr).block < wr.heap.size from block_lt_of_cell HE1.out)).trans HE1.out
                  have C3 := hide (zzRune_any _ (xs ++ ys) w3 RJ3.out (bnd_app HXB.out HYB.out) ev hev3 HEVI.out)
                  have HB3 := hide (HB1.out.trans (hb3.mono HB1.out.size))
                  clear hb3 hev3
                  go_wp2_with fail
                  refine C3.out.mono ?_
                  rintro e w4 ⟨rfl, hb4⟩
                  have HB4 := hide (HB3.out.trans (hb4.mono HB3.out.size))
                  have C4 := hide (escapeValue_any _ xs w4 (R3.out.to hb4))
                  have RJ4 := hide (RJ3.out.to hb4)
                  clear hb4
                  go_wp2_with fail
                  refine C4.out.mono ?_
                  rintro e w5 ⟨rfl, n5, rfl⟩
                  have C5 := hide (escapeValue_any _ (xs ++ ys) (w4.drewN n5) ((Row.drewN n5).2 RJ4.out))
                  go_wp2_with fail
                  refine C5.out.mono ?_
                  rintro e w6 ⟨rfl, n6, rfl⟩
                  by_cases h6 : 6 ≤ xs.length
                  · have he := evl_app xs ys h6
                    go_wp2
                    go_ret
                    exact ⟨rfl, below_drewN HB4.out _⟩
                  · go_wp2
                    go_ret
                    exact ⟨rfl, below_drewN HB4.out _⟩
    · have q1 : (524288 : Int) < (ys.length : Int) := by omega
      go_enter Tryd.func3, Tryd.ntmps3
      go_wp2_with (go_at_call 4; refine (gate4 _ _ _ _ _ _ _).mono ?_; rintro e w1 ⟨⟨b, rfl⟩, rfl⟩)
      all_goals (go_ret; exact ⟨rfl, Below.refl _ _⟩)
  · have q1 : (524288 : Int) < (xs.length : Int) := by omega
    go_enter Tryd.func3, Tryd.ntmps3
    go_wp2_with (go_at_call 4; refine (gate4 _ _ _ _ _ _ _).mono ?_; rintro e w1 ⟨⟨b, rfl⟩, rfl⟩)
    all_goals (go_ret; exact ⟨rfl, Below.refl _ _⟩)
end Go.Proofs.Qxb6617615aDoor

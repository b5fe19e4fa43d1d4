import Derived.Test.Qxb6616648aFmtRows
import Derived.WalkKit
import Derived.WalkSpells
import Derived.WalkLawsBesides
import Derived.Below
import Derived.Lib.ItoaLen
import Derived.Outline
namespace Go.Proofs.Qxb6616648aFmt
open Go.RowKit
set_option linter.unusedVariables false

theorem hide {p : Prop} (h : p) : Hid p := h

/-- The digits still to come. -/
def dd (y : Nat) : List UInt8 := if y = 0 then [] else Lib.decDigits y
theorem dd_step (y : Nat) (h : 0 < y) : dd y = dd (y / 10) ++ [UInt8.ofNat (48 + y % 10)] := by
  rw [dd, if_neg (by omega), Lib.decDigits]
  by_cases h1 : y < 10
  · rw [dif_pos h1, dd, if_pos (by omega), show y % 10 = y by omega]
    rfl
  · rw [dif_neg h1, dd, if_neg (by omega)]

theorem pow_step (p y : Nat) (hy : y < 10 ^ (p + 1)) : y / 10 < 10 ^ p := by
  apply Nat.div_lt_of_lt_mul
  rw [Nat.pow_succ] at hy
  omega

theorem byte_toNat (y : Nat) : (UInt8.ofNat (48 + y % 10)).toNat = 48 + y % 10 := by
  simp
  omega

theorem push_all (ds : List UInt8) : ∀ s : ByteArray, (ds.map (fun b => (b.toNat : Int))).foldl (fun (r : ByteArray) (n : Int) => r.push (UInt8.ofNat n.toNat)) s = ⟨s.data ++ ds.toArray⟩ := by
  induction ds with
  | nil => intro s; simp
  | cons d ds ih =>
    intro s
    rw [List.map_cons, List.foldl_cons, ih]
    simp [ByteArray.push]

/-- 'string(b)' of a slice that reads as ds. -/
theorem conv_string (w : World) (g o n c : Nat) (ds : List UInt8) (hn : n = ds.length) (h : ∀ j, j < ds.length → w.cell? ⟨g, o + j, none⟩ = some (.int .u8 ((ds.getD j 0).toNat : Int))) :
    (convert 27 9 (.slice (some ⟨g, o, none⟩) n c)).run Tryf.prog w = .ok (.string ⟨ds.toArray⟩) w := by
  subst hn
  rw [run_convert_bytes_string w 27 9 5 _ _ _ Tryf.underlying27 Tryf.underlying5 Tryf.underlying9]
  have hl : (loadCells ⟨g, o, none⟩ ds.length).run Tryf.prog w = .ok ((ds.map (fun b => (b.toNat : Int))).map (Value.int .u8)).toArray w := by
    have := run_loadCells_list (P := Tryf.prog) w ⟨g, o, none⟩ ((ds.map (fun b => (b.toNat : Int))).map (Value.int .u8)) (by
      intro j v hv
      have hj : j < ds.length := by
        have := (List.getElem?_eq_some_iff.1 hv).1
        simpa using this
      rw [Addr.add_lit, h j hj]
      simp [hj] at hv ⊢
      exact hv)
    simpa using this
  rw [run_bytesToString w _ _ _ _ hl, push_all]
  simp

set_option maxHeartbeats 800000 in
theorem zzItoa_pos (i : Nat) (w : World) (h1 : 1 ≤ i) (h2 : i ≤ 9223372036854775807) :
    Calls Tryf.prog 6 #[.int .i64 i] w fun e w' => e = .returned (.string ⟨(Lib.itoa i).toArray⟩) ∧ Below w.heap.size w w' := by
  have ei := hide (show dd i = Lib.itoa i from by
    rw [dd, if_neg (by omega), Lib.itoa, if_neg (by omega)]; simp)
  have t1 : ¬ ((i : Int) < 0) := by omega
  have t2 : ((i : Int) == 0) = false := by simp; omega
  have t3 : decide ((i : Int) < 0) = false := by simp
  go_enter Tryf.func6, Tryf.ntmps6
  go_wp2
  go_loopw [4, 6] (fun u p' wr => ∃ (p y : Nat) (ds : List UInt8) (cur : Array Value), u = .int .u64 y ∧ p' = .int .i64 p ∧ p + ds.length = 24 ∧ y < 10 ^ p ∧ y ≤ 9223372036854775807 ∧ dd y ++ ds = dd i ∧ wr.heap[w.heap.size]? = some (.cells cur 26 (0, 0)) ∧ cur.size = 24 ∧
      (∀ j, j < ds.length → cur[p + j]? = some (.int .u8 ((ds.getD j 0).toNat : Int))) ∧ Below w.heap.size w wr) (fun u _ _ => (intOf u).toNat)
  case atStart => exact ⟨24, i, [], _, rfl, rfl, rfl, by have : 10 ^ 24 = 1000000000000000000000000 := by decide
                                                         omega, h2, by simp, heap_alloc_new w _, rfl, fun j hj => by simp at hj, (Below.refl _ w).alloc (Nat.le_refl _) _⟩
  case round =>
    obtain ⟨p, y, ds, cur, rfl, rfl, hp0, hyp0, hy1, hdd0, hh0, hs0, hall0, hb0⟩ := hrel
    have hp := hide hp0
    have hple : p ≤ 24 := by omega
    have hyp := hide hyp0; clear hyp0
    have hdd := hide hdd0; clear hdd0
    have hh := hide hh0; clear hh0
    have hs := hide hs0; clear hs0
    have hall := hide hall0; clear hall0
    have hb := hide hb0; clear hb0
    clear hp0
    by_cases hy : 0 < y
    · obtain ⟨q, hq⟩ : ∃ q, p = q + 1 := by
        cases p with
        | zero => have := hyp.out; simp at this; omega
        | succ q => exact ⟨q, rfl⟩
      subst hq
      obtain ⟨old, hold⟩ : ∃ old, wr.cell? ⟨w.heap.size, q, none⟩ = some old := by
        rw [cell_of_row _ _ _ _ _ _ hh.out]
        exact ⟨cur[q]'(by rw [hs.out]; omega), by rw [Array.getElem?_eq_getElem]⟩
      have hfr := frozen_of_row wr w.heap.size q cur 26 hh.out
      have hq0 : (0 : Int) ≤ (q : Int) := by omega
      have hq1 : (q : Int) < 24 := by omega
      go_wp2
      go_roundw
      case rel =>
        refine ⟨q, y / 10, UInt8.ofNat (48 + y % 10) :: ds, cur.setIfInBounds q (.int .u8 (48 + (y : Int) % 10)), by go_num, rfl, by have := hp.out; simp; omega, pow_step q y hyp.out, by omega, ?_,
          heap_setCell_same wr w.heap.size q cur 26 _ hh.out, by rw [Array.size_setIfInBounds]; exact hs.out, ?_, hb.out.setCell (Nat.le_refl _) _⟩
        · rw [← hdd.out, dd_step y hy, List.append_assoc]; rfl
        · intro j hj
          rw [Array.getElem?_setIfInBounds]
          cases j with
          | zero =>
            rw [if_pos (Nat.add_zero q).symm, if_pos (by rw [hs.out]; omega), List.getD_cons_zero, byte_toNat]
            rfl
          | succ j =>
            rw [if_neg (by omega), List.getD_cons_succ, show q + (j + 1) = q + 1 + j by omega]
            exact hall.out j (by simp at hj; omega)
      case measure => simp [intOf]; omega
    · have hy0 : y = 0 := by omega
      subst hy0
      have hds : ds = Lib.itoa i := by rw [← ei.out, ← hdd.out]; simp [dd]
      have hpos : 0 < ds.length := by
        have h3 := dd_step i (by omega)
        rw [ei.out, ← hds] at h3
        rw [h3]; simp
      have hc : (convert 27 9 (.slice (some ⟨w.heap.size, p, none⟩) (24 - p) (24 - p))).run Tryf.prog wr = .ok (.string ⟨ds.toArray⟩) wr := by
        refine conv_string wr w.heap.size p _ _ ds (by have := hp.out; omega) (fun j hj => ?_)
        rw [cell_of_row _ _ _ _ _ _ hh.out]
        exact hall.out j hj
      have hp24 : p < 24 := by have := hp.out; omega
      have hp0 : (0 : Int) ≤ (p : Int) := by omega
      have hp1 : (p : Int) < 24 := by omega
      have hp2 : ¬ 24 - p = 0 := by omega
      have Hds := hide hds; clear hds
      have hal : Tryf.prog.arrayLen 26 = 24 := by kernel_rfl
      have hp3 : (p : Int) ≤ 24 := by omega
      go_wp2
      go_ret
      refine ⟨?_, hb.out⟩
      rw [← Hds.out]
      rfl

theorem zzDigit_any (d : Nat) (D : UInt8) (w : World) (h : d ≤ 9) (hD : D = UInt8.ofNat (48 + d)) :
    Calls Tryf.prog 7 #[.int .i64 d] w fun e w' => e = .returned (.string ⟨#[D]⟩) ∧ Below w.heap.size w w' := by
  have hc : (convert 27 9 (.slice (some ⟨w.heap.size, 0, none⟩) 1 1)).run Tryf.prog (w.alloc (.cells #[.int .u8 (48 + (d : Int))] 5)) = .ok (.string ⟨#[D]⟩) (w.alloc (.cells #[.int .u8 (48 + (d : Int))] 5)) := by
    refine conv_string _ _ _ _ _ [D] rfl (fun j hj => ?_)
    rw [cell_of_row _ _ _ _ _ _ (heap_alloc_new w _)]
    simp at hj
    subst hj
    subst hD
    simp
    omega
  clear hD
  go_enter Tryf.func7, Tryf.ntmps7
  go_wp2
  go_ret
  exact ⟨rfl, (Below.refl _ w).alloc (Nat.le_refl _) _⟩
end Go.Proofs.Qxb6616648aFmt

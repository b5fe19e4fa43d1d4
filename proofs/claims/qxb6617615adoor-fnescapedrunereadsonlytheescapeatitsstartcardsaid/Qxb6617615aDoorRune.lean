import Derived.Test.Qxb6617615aDoorPu
import Derived.Test.Qxb6617615aDoorVal
import Derived.WalkSpells
import Derived.Lib.AtoiErrMem
namespace Go.Proofs.Qxb6617615aDoor
open Go.RowKit
set_option linter.unusedVariables false

theorem bw_below (w : World) (e : TypeId) (s : ByteArray) : Below w.heap.size w (Lib.bytesWorld w e s) :=
  ⟨rfl, rfl, rfl, by rw [Lib.bytesWorld_size]; omega, fun j hj => Lib.bytesWorld_at_old w e s j hj⟩

set_option maxHeartbeats 4000000 in
set_option maxRecDepth 100000 in
theorem parse_any (t : ByteArray) (ht : t.size = 4) (ev : Value) (w : World) (hv : w.cell? ⟨0, 0, none⟩ = some ev) (hev : ev = .nilIface ∨ ∃ te pe, ev = .iface te pe) :
    Calls Tryd.prog 10 #[.string t, .int .i64 16, .int .i64 16] w fun e w' => ∃ er, e = .returned (.tuple #[.int .u64 ((px 0 t.data.toList).getD 0 : Nat), er]) ∧ Below w.heap.size w w' := by
  have hI := inner_any t ht w
  have hb1 := bw_below w 5 t
  obtain ⟨W1, hW1⟩ : ∃ W1, W1 = Lib.bytesWorld w 5 t := ⟨_, rfl⟩
  rw [← hW1] at hI hb1
  clear hW1
  have hG : 0 < w.heap.size := block_lt_of_cell hv
  have hv1 : W1.cell? ⟨0, 0, none⟩ = some ev := (hb1.cell (show (⟨0, 0, none⟩ : Addr).block < w.heap.size from hG)).trans hv
  have hlim : t.size ≤ 281474976710656 := by omega
  cases h : px 0 t.data.toList with
  | none =>
    rw [h] at hI
    have hI : Calls Tryd.prog 11 #[.string t, .int .i64 16, .int .i64 16] w fun e w' => e = .returned (.tuple #[.int .u64 0, .iface 33 (.int .i64 2)]) ∧ w' = W1 := hI
    have HI := hide hI; clear hI
    have HB := hide hb1; clear hb1
    clear h
    have HE := hide (Tryd.strconv_toError_syntax ⟨#[80, 97, 114, 115, 101, 85, 105, 110, 116]⟩ t 16 16 ev W1 hlim hv1 hev)
    clear hv1 hv hev
    go_enter Tryd.func10, Tryd.ntmps10
    go_wp2_with (go_at_call 11; refine HI.out.mono ?_; rintro e w' ⟨rfl, rfl⟩)
    go_wp2_with (go_at_call 12; refine HE.out.mono ?_; rintro e W2 ⟨N, rfl, h1, h2, h3⟩)
    go_ret2
    exact ⟨_, rfl, HB.out.trans (h3.mono HB.out.size)⟩
  | some n =>
    rw [h] at hI
    have hI : Calls Tryd.prog 11 #[.string t, .int .i64 16, .int .i64 16] w fun e w' => e = .returned (.tuple #[.int .u64 n, .nilIface]) ∧ w' = W1 := hI
    have HI := hide hI; clear hI
    have HB := hide hb1; clear hb1
    clear h hv1 hv hev
    go_enter Tryd.func10, Tryd.ntmps10
    go_wp2_with (go_at_call 11; refine HI.out.mono ?_; rintro e w' ⟨rfl, rfl⟩)
    go_ret2
    exact ⟨_, rfl, HB.out⟩

theorem push_all (ds : List UInt8) : ∀ s : ByteArray, (ds.map (fun b => (b.toNat : Int))).foldl (fun (r : ByteArray) (n : Int) => r.push (UInt8.ofNat n.toNat)) s = ⟨s.data ++ ds.toArray⟩ := by
  induction ds with
  | nil => intro s; simp
  | cons d ds ih =>
    intro s
    rw [List.map_cons, List.foldl_cons, ih]
    simp [ByteArray.push]

/-- 'string(b)' of a slice that reads as ds. -/
theorem conv_string (w : World) (g o n c : Nat) (ds : List UInt8) (hn : n = ds.length) (h : ∀ j, j < ds.length → w.cell? ⟨g, o + j, none⟩ = some (.int .u8 ((ds.getD j 0).toNat : Int))) :
    (convert 22 9 (.slice (some ⟨g, o, none⟩) n c)).run Tryd.prog w = .ok (.string ⟨ds.toArray⟩) w := by
  subst hn
  rw [run_convert_bytes_string w 22 9 5 _ _ _ Tryd.underlying22 Tryd.underlying5 Tryd.underlying9]
  have hl : (loadCells ⟨g, o, none⟩ ds.length).run Tryd.prog w = .ok ((ds.map (fun b => (b.toNat : Int))).map (Value.int .u8)).toArray w := by
    have := run_loadCells_list (P := Tryd.prog) w ⟨g, o, none⟩ ((ds.map (fun b => (b.toNat : Int))).map (Value.int .u8)) (by
      intro j v hv
      have hj : j < ds.length := by
        have := (List.getElem?_eq_some_iff.1 hv).1
        simpa using this
      rw [Addr.add_lit, h j hj]
      simp [hj] at hv ⊢
      exact hv)
    simpa using this
  rw [run_bytesToString w _ _ _ _ hl, push_all]
  simp

/-- The byte that an int of a row of bytes is. -/
def by8 (x : Int) : UInt8 := UInt8.ofNat x.toNat
theorem by8_toNat {x : Int} (h0 : 0 ≤ x) (h1 : x ≤ 255) : ((by8 x).toNat : Int) = x := by
  unfold by8
  rw [UInt8.toNat_ofNat']
  omega

theorem px4 (xs : List Int) (hx : ∀ j, 0 ≤ xs.getD j 0 ∧ xs.getD j 0 ≤ 255) (hl : 6 ≤ xs.length) (h0 : xs.getD 0 0 = 92) (h1 : xs.getD 1 0 = 117) :
    (((px 0 [by8 (xs.getD 2 0), by8 (xs.getD 3 0), by8 (xs.getD 4 0), by8 (xs.getD 5 0)]).getD 0 : Nat) : Int) = evl xs := by
  have e := fun j => by8_toNat (hx j).1 (hx j).2
  simp only [px, e]
  by_cases p2 : 0 ≤ hd (xs.getD 2 0)
  · by_cases p3 : 0 ≤ hd (xs.getD 3 0)
    · by_cases p4 : 0 ≤ hd (xs.getD 4 0)
      · by_cases p5 : 0 ≤ hd (xs.getD 5 0)
        · have hE : isE xs = true := by simp only [isE, hl, h0, h1, p2, p3, p4, p5, decide_true, Bool.and_self]
          simp only [evl, if_pos p2, if_pos p3, if_pos p4, if_pos p5, if_pos hE, Option.getD_some]
          omega
        · have hE : isE xs = false := isE_dig 5 (by omega) (by omega) (by omega)
          simp only [evl, if_pos p2, if_pos p3, if_pos p4, if_neg p5, hE, Option.getD_none]; rfl
      · have hE : isE xs = false := isE_dig 4 (by omega) (by omega) (by omega)
        simp only [evl, if_pos p2, if_pos p3, if_neg p4, hE, Option.getD_none]; rfl
    · have hE : isE xs = false := isE_dig 3 (by omega) (by omega) (by omega)
      simp only [evl, if_pos p2, if_neg p3, hE, Option.getD_none]; rfl
  · have hE : isE xs = false := isE_dig 2 (by omega) (by omega) (by omega)
    simp only [evl, if_neg p2, hE, Option.getD_none]; rfl

theorem evl_lo (xs : List Int) : 0 ≤ evl xs := by
  unfold evl
  by_cases h : isE xs = true
  · rw [if_pos h]
    obtain ⟨_, _, _, p2, p3, p4, p5⟩ := isE_out h
    omega
  · rw [if_neg h]; omega
theorem evl_hi (xs : List Int) : evl xs ≤ 65535 := by
  unfold evl
  by_cases h : isE xs = true
  · rw [if_pos h]
    have q2 := hd_hi (xs.getD 2 0)
    have q3 := hd_hi (xs.getD 3 0)
    have q4 := hd_hi (xs.getD 4 0)
    have q5 := hd_hi (xs.getD 5 0)
    omega
  · rw [if_neg h]; omega

set_option maxHeartbeats 1600000 in
theorem escapedRune_any (v : Value) (xs : List Int) (w : World) (hv : Row .u8 w v xs) (hx : ∀ j, 0 ≤ xs.getD j 0 ∧ xs.getD j 0 ≤ 255) (ev : Value) (hev0 : w.cell? ⟨0, 0, none⟩ = some ev) (hev : ev = .nilIface ∨ ∃ te pe, ev = .iface te pe) :
    Calls Tryd.prog 7 #[v] w fun e w' => e = .returned (.int .i32 (evl xs)) ∧ Below w.heap.size w w' := by
  obtain ⟨ao, c, g, o, rfl, hc1, hc2, ha, hn, hcell⟩ := hv
  by_cases hl : 6 ≤ xs.length
  · have e := ha (by omega)
    subst e
    clear ha hn
    have c0 : w.cell? ⟨g, o, none⟩ = some (.int .u8 (xs.getD 0 0)) := by simpa using hcell 0 (by omega)
    have c1 : w.cell? ⟨g, o + 1, none⟩ = some (.int .u8 (xs.getD 1 0)) := hcell 1 (by omega)
    by_cases e0 : xs.getD 0 0 = 92
    · by_cases e1 : xs.getD 1 0 = 117
      · have hp := px4 xs hx hl e0 e1
        rw [e0] at c0
        rw [e1] at c1
        have hcs := conv_string w g (o + 2) 4 (c - 2) [by8 (xs.getD 2 0), by8 (xs.getD 3 0), by8 (xs.getD 4 0), by8 (xs.getD 5 0)] rfl (by
          intro j hj
          have hj4 : j = 0 ∨ j = 1 ∨ j = 2 ∨ j = 3 := by simp at hj; omega
          have q := hcell (2 + j) (by omega)
          rw [← Nat.add_assoc] at q
          rw [q]
          have b := by8_toNat (hx (2 + j)).1 (hx (2 + j)).2
          rcases hj4 with rfl | rfl | rfl | rfl <;> (congr 1; congr 1; exact b.symm))
        have HP := hide (parse_any ⟨#[by8 (xs.getD 2 0), by8 (xs.getD 3 0), by8 (xs.getD 4 0), by8 (xs.getD 5 0)]⟩ rfl ev w hev0 hev)
        simp only [hp] at HP hcs
        obtain ⟨t, ht⟩ : ∃ t : ByteArray, t = ⟨#[by8 (xs.getD 2 0), by8 (xs.getD 3 0), by8 (xs.getD 4 0), by8 (xs.getD 5 0)]⟩ := ⟨_, rfl⟩
        rw [← ht] at hcs HP
        have r0 := evl_lo xs
        have r1 := evl_hi xs
        obtain ⟨R, hR⟩ : ∃ R, R = evl xs := ⟨_, rfl⟩
        rw [← hR] at HP r0 r1 ⊢
        clear hp ht hR hcell hx hev hev0 e0 e1
        have hc6 : (6 : Int) ≤ (c : Int) := by omega
        have hz : ¬ c - 2 = 0 := by omega
        clear hc2
        go_enter Tryd.func7, Tryd.ntmps7
        go_wp2_with (go_at_call 10; refine HP.out.mono ?_; rintro e w' ⟨er, rfl, hb⟩)
        go_ret
        exact ⟨rfl, hb⟩
      · have q : evl xs = 0 := by simp only [evl, show isE xs = false from by simp only [isE, decide_eq_false e1, Bool.and_false, Bool.false_and]]; rfl
        rw [e0] at c0
        rw [q]
        clear q hcell hx hev hev0 hc2 e0
        obtain ⟨x, hx⟩ : ∃ x, x = xs.getD 1 0 := ⟨_, rfl⟩
        rw [← hx] at c1 e1
        clear hx
        have t1 : (x == 117) = false := by simp [e1]
        have t2 : (x != 117) = true := by simp [e1]
        go_enter Tryd.func7, Tryd.ntmps7
        go_wp2
        go_ret
        exact ⟨rfl, Below.refl _ _⟩
    · have q : evl xs = 0 := by simp only [evl, show isE xs = false from by simp only [isE, decide_eq_false e0, Bool.and_false, Bool.false_and]]; rfl
      rw [q]
      clear q hcell hx hev hev0 hc2 c1
      obtain ⟨x, hx⟩ : ∃ x, x = xs.getD 0 0 := ⟨_, rfl⟩
      rw [← hx] at c0 e0
      clear hx
      have t1 : (x == 92) = false := by simp [e0]
      have t2 : (x != 92) = true := by simp [e0]
      go_enter Tryd.func7, Tryd.ntmps7
      go_wp2
      go_ret
      exact ⟨rfl, Below.refl _ _⟩
  · have q : evl xs = 0 := by simp only [evl, isE_short hl]; rfl
    rw [q]
    clear q hcell hx hev hev0 hc2 ha hn
    go_enter Tryd.func7, Tryd.ntmps7
    go_wp2
    go_ret
    exact ⟨rfl, Below.refl _ _⟩

theorem zzRune_any (v : Value) (xs : List Int) (w : World) (hv : Row .u8 w v xs) (hx : ∀ j, 0 ≤ xs.getD j 0 ∧ xs.getD j 0 ≤ 255) (ev : Value) (hev0 : w.cell? ⟨0, 0, none⟩ = some ev) (hev : ev = .nilIface ∨ ∃ te pe, ev = .iface te pe) :
    Calls Tryd.prog 5 #[v] w fun e w' => e = .returned (.int .i32 (evl xs)) ∧ Below w.heap.size w w' := by
  have H := hide (escapedRune_any v xs w hv hx ev hev0 hev)
  clear hv hx hev0 hev
  go_enter Tryd.func5, Tryd.ntmps5
  go_wp2_with (go_at_call 7; refine H.out.mono ?_; rintro e w' ⟨rfl, hb⟩)
  go_ret
  exact ⟨rfl, hb⟩
end Go.Proofs.Qxb6617615aDoor

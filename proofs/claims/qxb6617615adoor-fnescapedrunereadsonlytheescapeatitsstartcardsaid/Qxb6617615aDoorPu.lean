import Derived.Test.Qxb6617615aDoorHex
import Derived.Test.Qxb6617615aDoorShelf
import Derived.Lib.Strings
import Derived.Lib.Walk
import Derived.Lib.ConvBytes
import Derived.Lib.AtoiAllMem
import Derived.Lib.Hide
import Derived.Laws.Strings3
import Derived.Laws.Closers25
import Derived.Laws.Closers25b
import Derived.WalkKit
import Derived.BigCall
import Derived.BigGuard
namespace Go.Proofs.Qxb6617615aDoor
open Go.RowKit
set_option linter.unusedVariables false

theorem low_all : ∀ n : Fin 256, (0 ≤ hd (n.val : Int) → ¬ (48 ≤ (n.val : Int) ∧ (n.val : Int) ≤ 57) → 97 ≤ bits .or .u8 (n.val : Int) 32 ∧ bits .or .u8 (n.val : Int) 32 ≤ 102 ∧ hd (n.val : Int) = bits .or .u8 (n.val : Int) 32 - 87) ∧
    (hd (n.val : Int) < 0 → ¬ (97 ≤ bits .or .u8 (n.val : Int) 32 ∧ bits .or .u8 (n.val : Int) 32 ≤ 102)) := by decide +kernel

/-- What the hexadecimal digits spell, 'acc' before them; none where a byte is no digit. -/
def px : Nat → List UInt8 → Option Nat
  | acc, [] => some acc
  | acc, c :: r => if 0 ≤ hd (c.toNat : Int) then px (acc * 16 + (hd (c.toNat : Int)).toNat) r else none

def pxT : Option Nat → Value
  | some n => .tuple #[.int .u64 n, .nilIface]
  | none => .tuple #[.int .u64 0, .iface 33 (.int .i64 2)]

theorem px_bound (k acc : Nat) (d : Nat) (hk : k < 4) (ha : acc < 16 ^ k) (hd : d ≤ 15) : acc * 16 + d < 16 ^ (k + 1) ∧ acc * 16 + d ≤ 65535 ∧ acc ≤ 4095 := by
  have : k = 0 ∨ k = 1 ∨ k = 2 ∨ k = 3 := by omega
  rcases this with rfl | rfl | rfl | rfl <;> simp at ha ⊢ <;> omega

set_option maxHeartbeats 32000000 in
set_option maxRecDepth 100000 in
/-- internal/strconv.ParseUint(s, 16, 16), s of four bytes. -/
theorem inner_any (t : ByteArray) (ht : t.size = 4) (w : World) :
    Calls Tryd.prog 11 #[.string t, .int .i64 16, .int .i64 16] w fun e w' => e = .returned (pxT (px 0 t.data.toList)) ∧ w' = Lib.bytesWorld w 5 t := by
  have hemp : t.toList.isEmpty = false := by
    rw [← decide_eq_emptyBytes]
    exact decide_eq_false (fun h => by rw [h] at ht; cases ht)
  have hcv := Lib.run_convert_string_bytes (P := Tryd.prog) w 9 22 5 t (u := .string) Tryd.underlying9 Tryd.underlying22 Tryd.underlying5
  have hB : ∀ j, j < t.size → (Lib.bytesWorld w 5 t).cell? ⟨w.heap.size, j, none⟩ = some (.int .u8 (t.data.toList.getD j 0).toNat) := fun j hj => Lib.bytesWorld_cell w 5 t j hj
  obtain ⟨W1, hW1⟩ : ∃ W1, W1 = Lib.bytesWorld w 5 t := ⟨_, rfl⟩
  rw [← hW1] at hcv hB ⊢
  clear hW1
  obtain ⟨bs, hL⟩ : ∃ bs, bs = t.data.toList := ⟨_, rfl⟩
  have hLn : bs.length = t.size := by rw [hL, Lib.size_eq]
  rw [← hL] at hB ⊢
  clear hL
  rw [ht] at hcv hB hLn
  have hmv : IntKind.u64.wrap (IntKind.u64.wrap 65536 - 1) = 65535 := by
    rw [IntKind.wrap_u64, IntKind.wrap_u64]
    decide
  have HB := hide hB; clear hB
  go_enter Tryd.func11, Tryd.ntmps11
  go_wp2
  go_loop [12, 13, 101] (fun vu vn vi => ∃ (k acc : Nat) (a : Int), vu = .bool false ∧ vn = .int .u64 a ∧ vi = .int .i64 k ∧ k ≤ 4 ∧ Hid (a = (acc : Int) ∧ acc < 16 ^ k ∧ px 0 bs = px acc (bs.drop k)))
    (fun _ _ vi => 4 - (intOf vi).toNat)
  case atStart => exact ⟨0, 0, 0, rfl, rfl, rfl, by omega, rfl, by decide, rfl⟩
  case round =>
    obtain ⟨k, acc, a, rfl, rfl, rfl, hk, hh⟩ := hrel
    obtain ⟨ha, hacc, hdec⟩ := hh.out
    clear hh
    by_cases hkn : k < 4
    · have hc := HB.out k hkn
      have hdrop : bs.drop k = bs[k]'(by omega) :: bs.drop (k + 1) := List.drop_eq_getElem_cons (by omega)
      have hget : bs.getD k 0 = bs[k]'(by omega) := by simp [List.getD, List.getElem?_eq_getElem (show k < bs.length by omega)]
      rw [hdrop] at hdec
      rw [hget] at hc
      generalize bs[k]'(by omega) = c at hc hdec
      have hc256 : c.toNat < 256 := c.toNat_lt
      have hlow := low_all ⟨c.toNat, hc256⟩
      clear HB hdrop hget
      have hd15 := hd_hi (c.toNat : Int)
      by_cases hdg : 0 ≤ hd (c.toNat : Int)
      · obtain ⟨b1, b2, b3⟩ := px_bound k acc (hd (c.toNat : Int)).toNat hkn hacc (by omega)
        have hF : px acc (c :: bs.drop (k + 1)) = px (acc * 16 + (hd (c.toNat : Int)).toNat) (bs.drop (k + 1)) := by simp [px, hdg]
        have HN : Hid (a * 16 + hd (c.toNat : Int) = ((acc * 16 + (hd (c.toNat : Int)).toNat : Nat) : Int) ∧ acc * 16 + (hd (c.toNat : Int)).toNat < 16 ^ (k + 1) ∧ px 0 bs = px (acc * 16 + (hd (c.toNat : Int)).toNat) (bs.drop (k + 1))) := hide ⟨by omega, b1, hdec.trans hF⟩
        have a0 : 0 ≤ a := by omega
        have a1 : a ≤ 4095 := by omega
        have HF := hide hF; clear hF
        by_cases hdig : 48 ≤ (c.toNat : Int) ∧ (c.toNat : Int) ≤ 57
        · have he : hd (c.toNat : Int) = (c.toNat : Int) - 48 := by simp only [hd, if_pos hdig]
          obtain ⟨hd0, hd1⟩ := hdig
          rw [he] at HN
          generalize acc * 16 + (((c.toNat : Int) - 48)).toNat = acc' at HN
          clear hlow hacc hdec ha b1 b2 b3 hdg HF hd15 he
          have iov : a * 16 + ((c.toNat : Int) - 48) ≤ 65535 := by omega
          go_wp2
          refine ⟨⟨k + 1, acc', a * 16 + ((c.toNat : Int) - 48), rfl, (by first | rfl | (congr 1; omega)), (by first | rfl | (congr 1; omega)), by omega, HN⟩, by simp [intOf]; omega⟩
        · obtain ⟨l1, l2, he⟩ := hlow.1 hdg hdig
          simp only at l1 l2 he
          have n95 : ¬ (c.toNat : Int) = 95 := fun h => by rw [h] at hdg; exact absurd hdg (by decide)
          rw [he] at HN
          generalize hacc' : acc * 16 + (bits .or .u8 (c.toNat : Int) 32 - 87).toNat = acc' at HN
          clear hacc' hlow hacc hdec ha b1 b2 b3 hdg HF hd15 he
          have n95' : ((c.toNat : Int) == 95) = false := by simp only [beq_eq_false_iff_ne]; exact n95
          have iov : a * 16 + (bits .or .u8 (c.toNat : Int) 32 - 87) ≤ 65535 := by omega
          go_wp2_with (go_at_call 13; refine (Tryd.internal_strconv_lower _ _).mono ?_; rintro e w' ⟨rfl, rfl⟩)
          all_goals refine ⟨⟨k + 1, acc', a * 16 + (bits .or .u8 (c.toNat : Int) 32 - 87), rfl, (by first | rfl | (congr 1; omega)), (by first | rfl | (congr 1; omega)), by omega, HN⟩, by simp [intOf]; omega⟩
      · have hF : px acc (c :: bs.drop (k + 1)) = none := by simp [px, hdg]
        rw [hF] at hdec
        have hnl := hlow.2 (show hd (c.toNat : Int) < 0 by omega)
        simp only at hnl
        have hnd : ¬ (48 ≤ (c.toNat : Int) ∧ (c.toNat : Int) ≤ 57) := fun h => hdg (by simp only [hd, if_pos h]; omega)
        clear hacc hF ha hlow hd15 hdg
        have hv0 := bits_lo_u8 .or (c.toNat : Int) 32
        have hv1 := bits_hi_u8 .or (c.toNat : Int) 32
        have hu0 := bits_lo_u8 .or 95 32
        have hu1 := bits_hi_u8 .or 95 32
        go_wp2_with (go_at_call 13; refine (Tryd.internal_strconv_lower _ _).mono ?_; rintro e w' ⟨rfl, rfl⟩)
        all_goals go_ret2
        all_goals first | exact ⟨rfl, rfl⟩ | exact ⟨by rw [hdec]; rfl, rfl⟩
    · have hkk : k = 4 := by omega
      subst hkk
      have hF : px acc (bs.drop 4) = some acc := by rw [List.drop_eq_nil_of_le (by omega)]; rfl
      rw [hF] at hdec
      subst ha
      clear hacc hF
      go_wp2
      go_ret2
      exact ⟨rfl, rfl⟩
end Go.Proofs.Qxb6617615aDoor

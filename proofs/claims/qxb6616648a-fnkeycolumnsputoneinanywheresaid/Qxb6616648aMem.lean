import Derived.Test.Qxb6616648aRows
import Derived.WalkKit
import Derived.WalkSpells
import Derived.WalkLawsBesides
import Derived.Below
import Derived.Outline
import Derived.Lib.Join
namespace Go.Proofs.Qxb6616648a
open Go.RowKit
set_option linter.unusedVariables false

theorem hide {p : Prop} (h : p) : Hid p := h

/-- A slice value that reads, in the world w, as the strings ss. -/
def SRow (w : World) (v : Value) (ss : List ByteArray) : Prop :=
  ∃ ao c g o, v = .slice ao ss.length c ∧ ss.length ≤ c ∧ c ≤ maxLen ∧ (0 < ss.length → ao = some ⟨g, o, none⟩) ∧ (ao = none → c = 0) ∧
    ∀ j, j < ss.length → w.cell? ⟨g, o + j, none⟩ = some (.string (ss.getD j ByteArray.empty))

theorem SRow.len {w : World} {v : Value} {ss : List ByteArray} (h : SRow w v ss) : ss.length ≤ maxLen := by
  obtain ⟨ao, c, g, o, h1, h2, h3, _⟩ := h
  exact Nat.le_trans h2 h3

theorem SRow.to {w w' : World} {v : Value} {ss : List ByteArray} (h : SRow w v ss) (hb : Below w.heap.size w w') : SRow w' v ss := by
  obtain ⟨ao, c, g, o, h1, h2, h3, h4, h5, h6⟩ := h
  refine ⟨ao, c, g, o, h1, h2, h3, h4, h5, fun j hj => ?_⟩
  have := h6 j hj
  rw [hb.cell (block_lt_of_cell this)]
  exact this

theorem SRow.form {w : World} {v : Value} {ss : List ByteArray} (h : SRow w v ss) : ∃ ao c, v = .slice ao ss.length c ∧ ss.length ≤ c ∧ c ≤ maxLen ∧ (ao = none → c = 0) := by
  obtain ⟨ao', c', g, o, h1, h2, h3, h4, h5, h6⟩ := h
  exact ⟨ao', c', h1, h2, h3, h5⟩

theorem SRow.take {w : World} {ao : Option Addr} {n c : Nat} {ss : List ByteArray} (h : SRow w (.slice ao n c) ss) (m : Nat) (hm : m ≤ n) : SRow w (.slice ao m c) (ss.take m) := by
  obtain ⟨ao', c', g, o, h1, h2, h3, h4, h5, h6⟩ := h
  simp only [Value.slice.injEq] at h1
  obtain ⟨rfl, rfl, rfl⟩ := h1
  have hl : (ss.take m).length = m := by rw [List.length_take]; omega
  refine ⟨ao, c, g, o, by rw [hl], by omega, h3, fun h0 => h4 (by omega), h5, fun j hj => ?_⟩
  rw [h6 j (by omega)]
  rw [hl] at hj
  simp [hj]

theorem SRow.drop {w : World} {g o n c : Nat} {ss : List ByteArray} (h : SRow w (.slice (some ⟨g, o, none⟩) n c) ss) (m : Nat) (hm : m ≤ n) : SRow w (.slice (some ⟨g, o + m, none⟩) (n - m) (c - m)) (ss.drop m) := by
  obtain ⟨ao', c', g', o', h1, h2, h3, h4, h5, h6⟩ := h
  simp only [Value.slice.injEq] at h1
  obtain ⟨rfl, rfl, rfl⟩ := h1
  refine ⟨_, c - m, g, o + m, by rw [List.length_drop], by rw [List.length_drop]; omega, by omega, fun _ => rfl, (fun h => by cases h), fun j hj => ?_⟩
  rw [List.length_drop] at hj
  have e := h4 (by omega)
  cases e
  rw [Nat.add_assoc, h6 (m + j) (by omega)]
  simp

theorem srow_empty (w : World) (ao : Option Addr) (c : Nat) (hc : c ≤ maxLen) (hn : ao = none → c = 0) : SRow w (.slice ao 0 c) [] :=
  ⟨ao, c, 0, 0, rfl, by simp, hc, by simp, hn, by simp⟩

theorem below_alloc (w : World) (o : Obj) : Below w.heap.size w (w.alloc o) := (Below.refl _ w).alloc (Nat.le_refl _) o

/-! Plain: the join. -/
def sep : ByteArray := ⟨#[44, 32]⟩
def datas (ss : List ByteArray) : List (List UInt8) := ss.map (·.data.toList)
def joined (ss : List ByteArray) : ByteArray := ⟨(Lib.join (datas ss) sep.data.toList).toArray⟩
/-- The lengths, summed. -/
def sizes (ss : List ByteArray) : Nat := (ss.map (·.size)).sum

theorem sizes_cons (s : ByteArray) (ss : List ByteArray) : sizes (s :: ss) = s.size + sizes ss := by simp [sizes]
theorem sizes_append (a b : List ByteArray) : sizes (a ++ b) = sizes a + sizes b := by simp [sizes]
theorem sizes_take (ss : List ByteArray) (k : Nat) (h : k < ss.length) : sizes (ss.take (k + 1)) = sizes (ss.take k) + (ss.getD k ByteArray.empty).size := by
  rw [List.take_succ_eq_append_getElem h, sizes_append]
  simp [sizes, h]
theorem sizes_split (ss : List ByteArray) (k : Nat) : sizes ss = sizes (ss.take k) + sizes (ss.drop k) := by
  rw [← sizes_append, List.take_append_drop]
theorem sizes_take_le (ss : List ByteArray) (k : Nat) : sizes (ss.take k) ≤ sizes ss := by have := sizes_split ss k; omega

theorem joined_nil : joined [] = ⟨#[]⟩ := rfl
theorem join_cons2 (x : List UInt8) (r : List (List UInt8)) (s : List UInt8) (h : r ≠ []) : Lib.join (x :: r) s = x ++ s ++ Lib.join r s := by
  cases r with
  | nil => exact absurd rfl h
  | cons y r => rw [Lib.join_cons, Lib.join_cons]; simp [Lib.joinTail]
theorem join_append (a b : List (List UInt8)) (s : List UInt8) (ha : a ≠ []) (hb : b ≠ []) : Lib.join (a ++ b) s = Lib.join a s ++ s ++ Lib.join b s := by
  induction a with
  | nil => exact absurd rfl ha
  | cons x a ih =>
    by_cases h : a = []
    · subst h
      rw [Lib.join_one, List.cons_append, List.nil_append, join_cons2 x b s hb]
    · rw [List.cons_append, join_cons2 x (a ++ b) s (by simp [h]), ih h, join_cons2 x a s h]
      simp [List.append_assoc]

theorem joined_append (a b : List ByteArray) (ha : a ≠ []) (hb : b ≠ []) : joined (a ++ b) = joined a ++ sep ++ joined b := by
  apply ByteArray.ext
  rw [ByteArray.data_append, ByteArray.data_append]
  apply Array.ext'
  unfold joined datas
  rw [List.map_append, join_append _ _ _ (by simpa using ha) (by simpa using hb)]
  simp

theorem joined_one (s : ByteArray) : joined [s] = s := by
  apply ByteArray.ext
  apply Array.ext'
  simp [joined, datas, Lib.join_one]

theorem joined_size (ss : List ByteArray) : (joined ss).size = sizes ss + 2 * (ss.length - 1) := by
  induction ss with
  | nil => rfl
  | cons s r ih =>
    by_cases h : r = []
    · subst h
      rw [joined_one]; simp [sizes]
    · have e : s :: r = [s] ++ r := rfl
      rw [e, joined_append [s] r (by simp) h, ByteArray.size_append, ByteArray.size_append, joined_one, ih, sizes_append]
      have h2 : sep.size = 2 := rfl
      have h3 : 0 < r.length := by
        rcases Nat.eq_zero_or_pos r.length with h0 | h0
        · exact absurd (List.eq_nil_of_length_eq_zero h0) h
        · exact h0
      simp [h2, sizes]
      omega
end Go.Proofs.Qxb6616648a

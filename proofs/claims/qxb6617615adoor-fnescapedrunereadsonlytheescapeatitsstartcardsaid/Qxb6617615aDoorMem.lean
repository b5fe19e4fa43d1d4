import Derived.Test.Qxb6617615aDoorRows
import Derived.WalkKit
import Derived.Deep.AppendSrc
import Derived.Below
import Derived.Deep.QuietTactic
import Derived.BigQuiet
namespace Go.Proofs.Qxb6617615aDoor
open Go.RowKit

theorem hide {p : Prop} (h : p) : Hid p := h

/-- A slice value that reads, in the world w, as the integers xs of kind k. -/
def Row (k : IntKind) (w : World) (v : Value) (xs : List Int) : Prop :=
  ∃ ao c g o, v = .slice ao xs.length c ∧ xs.length ≤ c ∧ c ≤ maxLen ∧ (0 < xs.length → ao = some ⟨g, o, none⟩) ∧ (ao = none → c = 0) ∧
    ∀ j, j < xs.length → w.cell? ⟨g, o + j, none⟩ = some (.int k (xs.getD j 0))

/-- .. and it has no spare room. -/
def Tight (k : IntKind) (w : World) (v : Value) (xs : List Int) : Prop :=
  ∃ ao g o, v = .slice ao xs.length xs.length ∧ xs.length ≤ maxLen ∧ (0 < xs.length → ao = some ⟨g, o, none⟩) ∧
    ∀ j, j < xs.length → w.cell? ⟨g, o + j, none⟩ = some (.int k (xs.getD j 0))

theorem Row.len {k : IntKind} {w : World} {v : Value} {xs : List Int} (h : Row k w v xs) : xs.length ≤ maxLen := by
  obtain ⟨ao, c, g, o, h1, h2, h3, _⟩ := h
  exact Nat.le_trans h2 h3

theorem Row.to {k : IntKind} {w w' : World} {v : Value} {xs : List Int} (h : Row k w v xs) (hb : Below w.heap.size w w') : Row k w' v xs := by
  obtain ⟨ao, c, g, o, h1, h2, h3, h4, h5, h6⟩ := h
  refine ⟨ao, c, g, o, h1, h2, h3, h4, h5, fun j hj => ?_⟩
  have := h6 j hj
  rw [hb.cell (block_lt_of_cell this)]
  exact this

theorem Tight.to {k : IntKind} {w w' : World} {v : Value} {xs : List Int} (h : Tight k w v xs) (hb : Below w.heap.size w w') : Tight k w' v xs := by
  obtain ⟨ao, g, o, h1, h3, h4, h6⟩ := h
  refine ⟨ao, g, o, h1, h3, h4, fun j hj => ?_⟩
  have := h6 j hj
  rw [hb.cell (block_lt_of_cell this)]
  exact this

theorem Tight.row {k : IntKind} {w : World} {v : Value} {xs : List Int} (h : Tight k w v xs) : Row k w v xs := by
  obtain ⟨ao, g, o, h1, h3, h4, h6⟩ := h
  refine ⟨ao, _, g, o, h1, Nat.le_refl _, h3, h4, fun he => ?_, h6⟩
  rcases Nat.eq_zero_or_pos xs.length with h0 | h0
  · exact h0
  · rw [h4 h0] at he; cases he

theorem Row.drewN {k : IntKind} {w : World} {v : Value} {xs : List Int} (n : Nat) : Row k (w.drewN n) v xs ↔ Row k w v xs := by
  simp [Row]

theorem row_nil (k : IntKind) (w : World) : Tight k w (.slice none 0 0) [] := ⟨none, 0, 0, rfl, by simp, by simp, by simp⟩

theorem below_drewN {B : Nat} {w w' : World} (h : Below B w w') (n : Nat) : Below B w (w'.drewN n) := ⟨h.os, h.tape, h.output, h.size, h.block⟩

end Go.Proofs.Qxb6617615aDoor

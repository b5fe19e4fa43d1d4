import Derived.Test.Qxb6616648aClone
import Derived.OwnWalk
namespace Go.Proofs.Qxb6616648a
open Go.RowKit
set_option linter.unusedVariables false

/-- The strings ss, in a row of the call's own (blocks from B on). -/
def SOwn (B : Nat) (w : World) (v : Value) (ss : List ByteArray) : Prop := w.ownsRow B 9 1 v ss.length (ss.map Value.string)

theorem SOwn.row {B : Nat} {w : World} {v : Value} {ss : List ByteArray} (h : SOwn B w v ss) : SRow w v ss := by
  have h0 := h
  obtain ⟨_, h2⟩ := h
  rcases h2 with ⟨rfl, hn⟩ | ⟨g, cap, cur, rfl, hb, hg, hnc, hcm, hcs, htake⟩
  · obtain rfl : ss = [] := List.eq_nil_of_length_eq_zero hn
    exact srow_empty w none 0 (by simp) (fun _ => rfl)
  · refine ⟨some ⟨g, 0, none⟩, cap, g, 0, rfl, hnc, hcm, fun _ => rfl, (fun h => by cases h), fun j hj => ?_⟩
    have := World.ownsRow.cellAt h0 j (by omega)
    rw [Nat.zero_add, this]
    simp [hj]

theorem SOwn.alloc {B : Nat} {w : World} {v : Value} {ss : List ByteArray} (h : SOwn B w v ss) (o : Obj) : SOwn B (w.alloc o) v ss := World.ownsRow.alloc h o

theorem SOwn.form {B : Nat} {w : World} {v : Value} {ss : List ByteArray} (h : SOwn B w v ss) : ∃ ao c, v = .slice ao ss.length c := by
  obtain ⟨ao, c, h1, _⟩ := h.row.form
  exact ⟨ao, c, h1⟩

theorem below_grown {B : Nat} {w w' : World} {row : Option Nat} (hg : w.grownBy w' row) (hB : B ≤ w.heap.size) (hr : ∀ k, row = some k → B ≤ k) : Below B w w' :=
  (Below.refl B w).grown hg hB hr

theorem wpList_sapp {ops : Array Oper} {rest : List Oper} {o : Oper} {a : Act} {Q : Exit → Act → World → Prop} (w : World) (hgd : o.guard = none) (s x : Operand)
    (ho : o.op = .call { callee := .builtin .append, args := #[s, x], argTypes := #[22, 22] }) (B : Nat) (v : Value) (ss : List ByteArray) (X : ByteArray) (H : Nat) (hs : a.eval s = v) (hx : a.eval x = .slice (some ⟨H, 0, none⟩) 1 1)
    (hv : SOwn B w v ss) (hc : w.cell? ⟨H, 0, none⟩ = some (.string X)) (hB : B ≤ w.heap.size) (hlen : ss.length + 1 ≤ 1048577)
    (h : ∀ v' w', SOwn B w' v' (ss ++ [X]) → Below B w w' → wpList Try.prog ops Q rest (a.put o.dst v') w') : wpList Try.prog ops Q (o :: rest) a w := by
  obtain ⟨i0, hi, hz0, hz1, hz2⟩ := info_parts info9
  have hlt := hv.lt
  refine wpList_append_own w hgd s x 22 ho B 9 i0 (.string ⟨#[]⟩) 1 16 Try.underlying22 hi hz0 hz1 hz2 rfl (by decide) v ss.length (ss.map Value.string) hs hv ⟨H, 0, none⟩ 1 1 [.string X] hx rfl ?_ ?_ (by unfold maxLen; omega) (by omega) hB ?_
  · intro j u hu
    cases j with
    | zero => simp at hu; subst hu; rw [Addr.add_lit]; exact hc
    | succ j => simp at hu
  · intro u hu
    simp at hu
    subst hu
    rfl
  · intro v' w' h1 h2 _
    exact h v' w' (by simpa [SOwn] using h1) (below_grown h2 hB (fun k hk => (hlt k hk).1))
end Go.Proofs.Qxb6616648a

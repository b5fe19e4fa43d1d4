import Derived.Test.Qxb6616481aMem
import Derived.OwnWalk
namespace Go.Proofs.Qxb6616481a
open Go.RowKit

theorem info5 : (Try.prog.info? 5).map (fun i => (i.zero, i.size, i.bytes)) = some (some (.int .u8 0), 1, 1) := by kernel_rfl

/-- The bytes xs, in a row of the call's own (blocks from B on). -/
def Own (B : Nat) (w : World) (v : Value) (xs : List Int) : Prop := w.ownsRow B 5 1 v xs.length (xs.map (Value.int .u8))

theorem Own.row {B : Nat} {w : World} {v : Value} {xs : List Int} (h : Own B w v xs) : Row .u8 w v xs := by
  have h0 := h
  obtain ⟨_, h2⟩ := h
  rcases h2 with ⟨rfl, hn⟩ | ⟨g, cap, cur, rfl, hb, hg, hnc, hcm, hcs, htake⟩
  · obtain rfl : xs = [] := List.eq_nil_of_length_eq_zero hn
    exact (row_nil .u8 w).row
  · refine ⟨some ⟨g, 0, none⟩, cap, g, 0, rfl, hnc, hcm, fun _ => rfl, (fun h => by cases h), fun j hj => ?_⟩
    have := World.ownsRow.cellAt h0 j (by omega)
    rw [Nat.zero_add, this]
    simp [hj]

theorem Own.alloc {B : Nat} {w : World} {v : Value} {xs : List Int} (h : Own B w v xs) (o : Obj) : Own B (w.alloc o) v xs := World.ownsRow.alloc h o

theorem ownsRow_mono' {w : World} {base base' : Nat} {e : TypeId} {size : Nat} {v : Value} {n : Nat} {xs : List Value} (h : w.ownsRow base e size v n xs) (hb : base' ≤ base) : w.ownsRow base' e size v n xs :=
  ⟨h.1, h.2.imp id fun ⟨g, cap, cur, h1, h2, h3⟩ => ⟨g, cap, cur, h1, Nat.le_trans hb h2, h3⟩⟩

theorem own_nil (B : Nat) (w : World) : Own B w (.slice none 0 0) [] := World.ownsRow_nil w B 5 1

theorem below_grownBy {B : Nat} {w w' : World} {row : Option Nat} (hg : w.grownBy w' row) (hB : B ≤ w.heap.size) (hr : ∀ k, row = some k → B ≤ k) : Below B w w' :=
  (Below.refl B w).grown hg hB hr

/-- A row that has just been laid. -/
theorem tight_lit (k : IntKind) (w : World) (xs : List Int) (cs : Array Value) (t : TypeId) (fr : Nat × Nat) (H n : Nat) (hcs : cs = (xs.map (Value.int k)).toArray) (hH : H = w.heap.size) (hn : n = xs.length) (hm : xs.length ≤ maxLen) :
    Tight k (w.alloc (.cells cs t fr)) (.slice (some ⟨H, 0, none⟩) n n) xs := by
  subst hcs hH hn
  refine ⟨_, w.heap.size, 0, rfl, hm, fun _ => rfl, fun j hj => ?_⟩
  rw [cell_of_row (w.alloc _) w.heap.size (0 + j) _ t fr (heap_alloc_new w _)]
  simp [hj]

/-- 'append(v, u...)', the bytes: v is without spare room, or the call's own. -/
theorem run_app (B : Nat) (w : World) (ty : TypeId) (v u : Value) (xs ys : List Int) (hv : (Tight .u8 w v xs ∧ ys ≠ []) ∨ Own B w v xs) (hu : Row .u8 w u ys) (hB : B ≤ w.heap.size) (hlen : xs.length + ys.length ≤ 140737488355328) :
    ∃ v' w', (Builtin.append_ #[28, 28] ty #[v, u]).run Try.prog w = .ok v' w' ∧ Own B w' v' (xs ++ ys) ∧ Below B w w' := by
  obtain ⟨i0, hi, hz0, hz1, hz2⟩ := info_parts info5
  have hml : xs.length + ys.length ≤ maxLen := by unfold maxLen; omega
  have hone : ∀ x ∈ ys.map (Value.int .u8), x.oneCell' = true := by
    intro x hx
    obtain ⟨_, _, rfl⟩ := List.mem_map.1 hx
    rfl
  obtain ⟨ao, c, g, o, rfl, hc1, hc2, ha, hn, hcell⟩ := hu
  have hnews : ∀ a, ao = some a → ∀ j x, (ys.map (Value.int .u8))[j]? = some x → w.cell? (a.add j) = some x := by
    intro a hao j x hx
    have hj : j < ys.length := by
      have := (List.getElem?_eq_some_iff.1 hx).1
      simpa using this
    have e := ha (by omega)
    rw [hao] at e
    cases e
    rw [Addr.add_lit, hcell j hj]
    simp [hj] at hx ⊢
    exact hx
  rcases hv with ⟨hv, hne⟩ | hv
  · obtain ⟨bo, g', o', rfl, hd2, hb, hcell'⟩ := hv
    have hpos : 0 < ys.length := by
      rcases Nat.eq_zero_or_pos ys.length with h0 | h0
      · exact absurd (List.eq_nil_of_length_eq_zero h0) hne
      · exact h0
    have hao := ha hpos
    subst hao
    cases bo with
    | none =>
      have h0 : xs.length = 0 := by
        rcases Nat.eq_zero_or_pos xs.length with h0 | h0
        · exact h0
        · have := hb h0; cases this
      obtain rfl : xs = [] := List.eq_nil_of_length_eq_zero h0
      obtain ⟨v', w', hrun, r1, r2, _⟩ := run_append_own (P := Try.prog) w B 28 ty 5 i0 (.int .u8 0) 1 1 Try.underlying28 hi hz0 hz1 hz2 rfl (by decide) (.slice none 0 0) 0 [] (World.ownsRow_nil w B 5 1)
        ⟨g, o, none⟩ ys.length c (ys.map (Value.int .u8)) (by simp) (hnews _ rfl) hone (by simpa using hml) (by simpa using hlen) hB
      exact ⟨v', w', hrun, by simpa [Own] using r1, below_grownBy r2 hB (by simp [Value.ownBlock])⟩
    | some b =>
      obtain ⟨v', w', hrun, r1, r2⟩ := run_append_arg_grows (P := Try.prog) w 28 ty 5 i0 (.int .u8 0) 1 1 Try.underlying28 hi hz0 hz1 hz2 rfl (by decide) b xs.length xs.length (xs.map (Value.int .u8)) (by simp)
        (by
          intro j x hx
          have hj : j < xs.length := by
            have := (List.getElem?_eq_some_iff.1 hx).1
            simpa using this
          have e := hb (by omega)
          cases e
          rw [Addr.add_lit, hcell' j hj]
          simp [hj] at hx ⊢
          exact hx)
        ⟨g, o, none⟩ ys.length c (ys.map (Value.int .u8)) (by simp) (hnews _ rfl) (by omega) hml (by simpa using hlen)
      refine ⟨v', w', hrun, ?_, below_grownBy r2 hB (by simp)⟩
      have := ownsRow_mono' r1 hB
      simpa [Own] using this
  · have hlt := hv.lt
    cases ao with
    | none =>
      have h0 : ys.length = 0 := by
        rcases Nat.eq_zero_or_pos ys.length with h0 | h0
        · exact h0
        · have := ha h0; cases this
      obtain rfl : ys = [] := List.eq_nil_of_length_eq_zero h0
      have hc := hn rfl
      subst hc
      have hsrc := Src.ofNil (P := Try.prog) w (size := i0.size) (tx := 28) Try.underlying28 0
      refine ⟨v, w, ?_, by simpa using hv, Below.refl _ _⟩
      rcases hv.2 with ⟨rfl, hn0⟩ | ⟨g1, cap, cur, rfl, hbb, hg, hnc, hcm, hcs, htake⟩
      · simp [Builtin.append_, run_underlying Try.underlying28, sizeOf, typeInfo, hi, Builtin.lenOf, Builtin.firstCells]
      · have := run_append_room_src (P := Try.prog) w 28 28 ty 5 i0 Try.underlying28 hi g1 0 xs.length cap (.slice none 0 0) 0 [] hsrc (by omega) (by simp) (by simp)
        simpa [World.setCells] using this
    | some a =>
      obtain ⟨v', w', hrun, r1, r2, _⟩ := run_append_own (P := Try.prog) w B 28 ty 5 i0 (.int .u8 0) 1 1 Try.underlying28 hi hz0 hz1 hz2 rfl (by decide) v xs.length (xs.map (Value.int .u8)) hv
        a ys.length c (ys.map (Value.int .u8)) (by simp) (hnews _ rfl) hone hml (by simpa using hlen) hB
      exact ⟨v', w', hrun, by simpa [Own] using r1, below_grownBy r2 hB (fun k hk => (hlt k hk).1)⟩

/-- .. for the walk. -/
theorem wpList_app {ops : Array Oper} {rest : List Oper} {o : Oper} {a : Act} {Q : Exit → Act → World → Prop} (w : World) (hgd : o.guard = none) (s x : Operand)
    (ho : o.op = .call { callee := .builtin .append, args := #[s, x], argTypes := #[28, 28] }) (B : Nat) (v u : Value) (xs ys : List Int) (hs : a.eval s = v) (hx : a.eval x = u)
    (hv : (Tight .u8 w v xs ∧ ys ≠ []) ∨ Own B w v xs) (hu : Row .u8 w u ys) (hB : B ≤ w.heap.size) (hlen : xs.length + ys.length ≤ 140737488355328)
    (h : ∀ v' w', Own B w' v' (xs ++ ys) → Below B w w' → wpList Try.prog ops Q rest (a.put o.dst v') w') : wpList Try.prog ops Q (o :: rest) a w := by
  refine wpList_plain hgd fun K hK => ?_
  obtain ⟨v', w', hr, h2, h3⟩ := run_app B w o.type v u xs ys hv hu hB hlen
  unfold Oper.wp execOp
  simp only [ho, resolve, invoke, builtin, Sem.run_bind, Sem.run_pure, Result.andThen_ok, List.map_toArray, List.map_cons, List.map_nil, hs, hx, hr]
  exact hK _ _ (h v' w' h2 h3)
end Go.Proofs.Qxb6616481a

import Derived.Test.Qxb6616481aSign
import Derived.Deep.WholeRow
namespace Go.Proofs.Qxb6616481a
open Go.RowKit

theorem sizeOf5 (w : World) : (sizeOf 5).run Try.prog w = .ok 1 w := by
  obtain ⟨i0, hi, hz0, hz1, hz2⟩ := info_parts info5
  simp [sizeOf, typeInfo, hi, hz1]

theorem part5 (xs : List Int) (i : Nat) (h : i < xs.length) (w : World) : (part 5 (arr xs) i).run Try.prog w = .ok (.int .u8 (xs.getD i 0)) w := by
  have ha := arr_at xs i h
  have hg : (isAgg 5).run Try.prog w = .ok false w := by
    unfold isAgg
    rw [Sem.run_bind, run_underlying Try.underlying5 w]
    rfl
  simp [part, hg, ha]

theorem equalIn5 (d : Nat) (a b : Int) (w : World) : (Op.equalIn (d + 1) 5 (.int .u8 a) (.int .u8 b)).run Try.prog w = .ok (a == b) w := run_equalIn_int w d 5 .u8 .u8 a b Try.underlying5

theorem eqLoop (d : Nat) (xs ys : List Int) (w : World) : ∀ L : List Nat, (∀ i ∈ L, i < xs.length ∧ i < ys.length) →
    (forIn (m := Sem) L ((none : Option Bool), ()) fun i _ => do
            let a ← part 5 (arr xs) i
            let b ← part 5 (arr ys) i
            let c ← Op.equalIn (d + 1) 5 a b
            if (!c) = true then pure (ForInStep.done (some false, ())) else pure (ForInStep.yield (none, ()))).run Try.prog w =
      .ok (if ∀ i ∈ L, xs.getD i 0 = ys.getD i 0 then (none, ()) else (some false, ())) w := by
  intro L
  induction L with
  | nil => intro _; simp
  | cons i L ih =>
    intro h
    have h0 := h i (by simp)
    have ih' := ih (fun j hj => h j (by simp [hj]))
    simp only [List.forIn_cons, Sem.run_bind, part5 xs i h0.1, part5 ys i h0.2, Result.andThen_ok, equalIn5]
    by_cases hi : xs.getD i 0 = ys.getD i 0
    · simp only [hi, beq_self_eq_true, Bool.not_true, Bool.false_eq_true, if_false, Sem.run_pure, Result.andThen_ok, ih']
      simp only [List.forall_mem_cons, hi, true_and]
    · have hb : (xs.getD i 0 == ys.getD i 0) = false := by simpa using hi
      simp only [hb, Bool.not_false, if_true, Sem.run_pure, Result.andThen_ok]
      rw [if_neg]
      intro hall
      exact hi (hall i (by simp))

theorem eq_of_getD' {xs ys : List Int} (hl : xs.length = ys.length) (h : ∀ j, j < xs.length → xs.getD j 0 = ys.getD j 0) : xs = ys := by
  apply List.ext_getElem hl
  intro i h1 h2
  have := h i h1
  simpa [h1, h2] using this

theorem eqArrIn (d : Nat) (xs ys : List Int) (hx : xs.length = 32) (hy : ys.length = 32) (w : World) :
    (Op.equalIn (d + 2) 22 (.agg (arr xs)) (.agg (arr ys))).run Try.prog w = .ok (decide (xs = ys)) w := by
  rw [Op.equalIn]
  simp only [Sem.run_bind, run_underlying Try.underlying22, Result.andThen_ok, sizeOf5, Nat.mul_one]
  rw [Std.Legacy.Range.forIn_eq_forIn_range', eqLoop d xs ys w _ (by intro i hi; simp at hi; omega)]
  by_cases h : xs = ys
  · subst h; simp
  · rw [if_neg]
    · simp [h]
    · intro hall
      exact h (eq_of_getD' (by omega) (fun j hj => hall j (by simp; omega)))

theorem eqArr (xs ys : List Int) (hx : xs.length = 32) (hy : ys.length = 32) (w : World) :
    (binOp .eql 22 (.agg (arr xs)) (.agg (arr ys))).run Try.prog w = .ok (.bool (decide (xs = ys))) w := by
  rw [run_eql_struct, eqArrIn 9998 xs ys hx hy w]
  rfl

set_option maxRecDepth 100000 in
theorem built27a (a0 a1 a2 a3 a4 a5 a6 a7 a8 a9 a10 a11 a12 a13 a14 a15 a16 a17 a18 a19 a20 a21 a22 a23 a24 a25 a26 a27 a28 a29 a30 a31 id : Int) : Try.prog.built 27 [(0, .agg (arr [a0, a1, a2, a3, a4, a5, a6, a7, a8, a9, a10, a11, a12, a13, a14, a15, a16, a17, a18, a19, a20, a21, a22, a23, a24, a25, a26, a27, a28, a29, a30, a31])), (1, .int .u64 id)] = some (pathCells [a0, a1, a2, a3, a4, a5, a6, a7, a8, a9, a10, a11, a12, a13, a14, a15, a16, a17, a18, a19, a20, a21, a22, a23, a24, a25, a26, a27, a28, a29, a30, a31] id) := by kernel_rfl

theorem built27 (src : List Int) (id : Int) (h : src.length = 32) : Try.prog.built 27 [(0, .agg (arr src)), (1, .int .u64 id)] = some (pathCells src id) := by
  match src, h with
  | [a0, a1, a2, a3, a4, a5, a6, a7, a8, a9, a10, a11, a12, a13, a14, a15, a16, a17, a18, a19, a20, a21, a22, a23, a24, a25, a26, a27, a28, a29, a30, a31], _ => exact built27a a0 a1 a2 a3 a4 a5 a6 a7 a8 a9 a10 a11 a12 a13 a14 a15 a16 a17 a18 a19 a20 a21 a22 a23 a24 a25 a26 a27 a28 a29 a30 a31 id

theorem run_build27 (src : List Int) (id : Int) (h : src.length = 32) (w : World) : (Instr.build 27 #[(0, .agg (arr src)), (1, .int .u64 id)]).run Try.prog w = .ok (.agg (pathCells src id)) w :=
  run_build w 27 _ _ (built27 src id h)

theorem path_one (src : List Int) (id : Int) : (pathCells src id).all (·.oneCell') = true := by
  simp only [pathCells, List.all_toArray, List.all_append, List.all_map]
  simp [Value.oneCell']
theorem size22' (xs : List Int) (h : xs.length = 32) : (Try.prog.info? 22).map (·.size) = some (arr xs).size := by rw [size22]; simp [arr, h]

theorem wpList_build27 {ops : Array Oper} {rest : List Oper} {o : Oper} {a : Act} {Q : Exit → Act → World → Prop} (w : World) (hgd : o.guard = none) (x y : Operand) (ho : o.op = .build 27 #[(0, x), (1, y)])
    (src : List Int) (id : Int) (hs : src.length = 32) (hx : a.eval x = .agg (arr src)) (hy : a.eval y = .int .u64 id)
    (h : wpList Try.prog ops Q rest (a.put o.dst (.agg (pathCells src id))) w) : wpList Try.prog ops Q (o :: rest) a w := by
  refine wpList_plain hgd fun K hK => ?_
  unfold Oper.wp execOp
  simp only [ho, hx, hy, Sem.run_bind, Sem.run_pure, List.map_toArray, List.map_cons, List.map_nil, run_build27 src id hs, Result.andThen_ok]
  exact hK _ _ h

theorem wpList_store_new {P : Program} {ops : Array Oper} {rest : List Oper} {o : Oper} {a : Act} {Q : Exit → Act → World → Prop} (w : World) (hgd : o.guard = none) (ty : TypeId) (x y : Operand) (ho : o.op = .store ty x y)
    (H : Nat) (c c' : Array Value) (hx : a.eval x = .pointer (some ⟨H, 0, none⟩)) (hy : a.eval y = .agg c') (hH : H = w.heap.size)
    (hi : (P.info? ty).map (·.size) = some c'.size) (hc : c.size = c'.size) (h1 : c'.all (·.oneCell') = true)
    (h : wpList P ops Q rest (a.put o.dst undef) (w.alloc (.cells c' ty))) : wpList P ops Q (o :: rest) a (w.alloc (.cells c ty)) := by
  subst hH
  refine wpList_plain hgd fun K hK => ?_
  unfold Oper.wp execOp
  simp only [ho, hx, hy, Sem.run_bind, Sem.run_pure, Result.andThen_ok, run_storeAt_new w ty c c' hi hc h1]
  exact hK _ _ h
end Go.Proofs.Qxb6616481a

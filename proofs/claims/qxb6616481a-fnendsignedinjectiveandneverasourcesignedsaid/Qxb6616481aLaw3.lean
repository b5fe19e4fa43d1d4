import Derived.Test.Qxb6616481aArr
import Derived.Test.Qxb6616481aEq
namespace Go.Proofs.Qxb6616481a
open Go.RowKit
set_option linter.unusedVariables false

theorem heap6 (w : World) (A B C D E F : Obj) :
    ((((w.alloc A).alloc B).alloc C).alloc D).heap[w.heap.size]? = some A ∧
    (((((w.alloc A).alloc B).alloc C).alloc D).alloc E).heap[w.heap.size + 1 + 1]? = some C ∧
    ((((((w.alloc A).alloc B).alloc C).alloc D).alloc E).alloc F).heap[w.heap.size]? = some A ∧
    ((((((w.alloc A).alloc B).alloc C).alloc D).alloc E).alloc F).heap[w.heap.size + 1]? = some B ∧
    ((((((w.alloc A).alloc B).alloc C).alloc D).alloc E).alloc F).heap[w.heap.size + 1 + 1]? = some C ∧
    ((((((w.alloc A).alloc B).alloc C).alloc D).alloc E).alloc F).heap[w.heap.size + 1 + 1 + 1]? = some D ∧
    ((((((w.alloc A).alloc B).alloc C).alloc D).alloc E).alloc F).heap[w.heap.size + 1 + 1 + 1 + 1]? = some E ∧
    ((((((w.alloc A).alloc B).alloc C).alloc D).alloc E).alloc F).heap[w.heap.size + 1 + 1 + 1 + 1 + 1]? = some F := by
  have e : ∀ (w : World) (o : Obj), (w.alloc o).heap = w.heap.push o := fun _ _ => rfl
  have n2 : ¬ w.heap.size = w.heap.size + 1 + 1 := by omega
  have n3 : ¬ w.heap.size = w.heap.size + 1 + 1 + 1 := by omega
  have n4 : ¬ w.heap.size = w.heap.size + 1 + 1 + 1 + 1 := by omega
  have n5 : ¬ w.heap.size = w.heap.size + 1 + 1 + 1 + 1 + 1 := by omega
  simp only [e, Array.getElem?_push, Array.size_push]
  simp [n2, n3, n4, n5]

theorem wpList_load_row_g {P : Program} {ops : Array Oper} {rest : List Oper} {o : Oper} {a : Act} {w : World} {Q : Exit → Act → World → Prop} (hw : Region.wanted o (yielded ops a.tmps) = true) (ty : TypeId) (x : Operand) (ho : o.op = .load ty x)
    (g : Nat) (hx : a.eval x = .pointer (some ⟨g, 0, none⟩)) (t : TypeId) (cs : Array Value) (fr : Nat × Nat) (d : TypeDesc) (hg : w.heap[g]? = some (.cells cs t fr))
    (hu : P.underlying ty = some d) (hd : (match d with | .struct _ | .array _ _ => true | _ => false) = true) (hi : (P.info? ty).map (·.size) = some cs.size)
    (h : wpList P ops Q rest (a.put o.dst (.agg cs)) w) : wpList P ops Q (o :: rest) a w :=
  BigFrame.wpList_want hw fun _ hK => wp_load_row ty x ho g hx t cs fr d hg hu hd hi (hK _ _ h)

/-- What the law's six boxes hold. -/
structure Six (N : Nat) (W : World) (A B C D E F : Obj) : Prop where
  a : W.heap[N]? = some A
  b : W.heap[N + 1]? = some B
  c : W.heap[N + 1 + 1]? = some C
  d : W.heap[N + 1 + 1 + 1]? = some D
  e : W.heap[N + 1 + 1 + 1 + 1]? = some E
  f : W.heap[N + 1 + 1 + 1 + 1 + 1]? = some F
  size : N + 6 ≤ W.heap.size

theorem Six.start (w : World) (A B C D E F : Obj) : Six w.heap.size ((((((w.alloc A).alloc B).alloc C).alloc D).alloc E).alloc F) A B C D E F := by
  have h := heap6 w A B C D E F
  exact ⟨h.2.2.1, h.2.2.2.1, h.2.2.2.2.1, h.2.2.2.2.2.1, h.2.2.2.2.2.2.1, h.2.2.2.2.2.2.2, by simp⟩

theorem Six.to {N : Nat} {W W' : World} {A B C D E F : Obj} (h : Six N W A B C D E F) (hb : Below W.heap.size W W') : Six N W' A B C D E F := by
  have hs := h.size
  have hz := hb.size
  exact ⟨(hb.block _ (by omega)).trans h.a, (hb.block _ (by omega)).trans h.b, (hb.block _ (by omega)).trans h.c, (hb.block _ (by omega)).trans h.d, (hb.block _ (by omega)).trans h.e, (hb.block _ (by omega)).trans h.f, by omega⟩

theorem zzEq_is (b : Bool) (v u : Value) (xs ys : List Int) (w : World) (hv : Row .u8 w v xs) (hu : Row .u8 w u ys) (hb : decide (xs = ys) = b) :
    Calls Try.prog 8 #[v, u] w fun e w' => e = .returned (.bool b) ∧ ∃ n, w' = w.drewN n := hb ▸ zzEq_any v u xs ys w hv hu
theorem zzHasPrefix_is (b : Bool) (v u : Value) (xs ys : List Int) (w : World) (hv : Row .u8 w v xs) (hu : Row .u8 w u ys) (hb : decide (xs.take ys.length = ys) = b) :
    Calls Try.prog 9 #[v, u] w fun e w' => e = .returned (.bool b) ∧ ∃ n, w' = w.drewN n := hb ▸ zzHasPrefix_any v u xs ys w hv hu

def endText (s : List Int) (id : Int) (e : List Int) : List Int := ctxEnd ++ s ++ be8 id ++ e
def srcText (s : List Int) (id : Int) : List Int := ctxSrc ++ s ++ be8 id

theorem be8_inj {a b : Int} (ha0 : 0 ≤ a) (ha1 : a ≤ 18446744073709551615) (hb0 : 0 ≤ b) (hb1 : b ≤ 18446744073709551615) (h : be8 a = be8 b) : a = b := by
  simp only [be8, List.cons.injEq] at h
  omega

theorem endText_inj {s1 s2 e1 e2 : List Int} {a b : Int} (h1 : s1.length = 32) (h2 : s2.length = 32) (h3 : e1.length = 32) (h4 : e2.length = 32)
    (ha0 : 0 ≤ a) (ha1 : a ≤ 18446744073709551615) (hb0 : 0 ≤ b) (hb1 : b ≤ 18446744073709551615) : endText s1 a e1 = endText s2 b e2 ↔ s1 = s2 ∧ a = b ∧ e1 = e2 := by
  constructor
  · intro h
    unfold endText at h
    obtain ⟨h', he⟩ := List.append_inj' h (by omega)
    obtain ⟨h', hb⟩ := List.append_inj' h' (by simp [be8])
    obtain ⟨_, hs⟩ := List.append_inj' h' (by omega)
    exact ⟨hs, be8_inj ha0 ha1 hb0 hb1 hb, he⟩
  · rintro ⟨rfl, rfl, rfl⟩
    rfl

theorem endText_len {s e : List Int} {a : Int} (h1 : s.length = 32) (h3 : e.length = 32) : (endText s a e).length = 91 := by
  simp [endText, ctxEnd, be8, h1, h3]
theorem srcText_len {s : List Int} {a : Int} (h1 : s.length = 32) : (srcText s a).length = 62 := by
  simp [srcText, ctxSrc, be8, h1]
theorem no_prefix1 {s s' e : List Int} {a a' : Int} (h1 : s.length = 32) (h1' : s'.length = 32) : decide ((endText s a e).take (srcText s' a').length = srcText s' a') = false := by
  rw [srcText_len h1', decide_eq_false_iff_not]
  intro h
  have := congrArg (fun l => l[13]?) h
  simp [endText, srcText, ctxEnd, ctxSrc] at this
theorem no_prefix2 {s s' e : List Int} {a a' : Int} (h1 : s.length = 32) (h1' : s'.length = 32) (h3 : e.length = 32) : decide ((srcText s' a').take (endText s a e).length = endText s a e) = false := by
  rw [endText_len h1 h3, decide_eq_false_iff_not]
  intro h
  have := congrArg List.length h
  rw [endText_len h1 h3, List.length_take, srcText_len h1'] at this
  omega
theorem endText_at {s e : List Int} {a : Int} (h1 : s.length = 32) (k : Nat) : (endText s a e).getD (59 + k) 0 = e.getD k 0 := by
  have : (ctxEnd ++ s ++ be8 a).length = 59 := by simp [ctxEnd, be8, h1]
  unfold endText
  rw [List.getD_eq_getElem?_getD, List.getElem?_append_right (by omega), this, Nat.add_sub_cancel_left, ← List.getD_eq_getElem?_getD]

set_option maxHeartbeats 1000000 in
theorem law3 (s1 e1 s2 e2 : List Int) (id1 id2 : Int) (w : World) (hs1 : s1.length = 32) (he1 : e1.length = 32) (hs2 : s2.length = 32) (he2 : e2.length = 32)
    (i10 : 0 ≤ id1) (i11 : id1 ≤ 18446744073709551615) (i20 : 0 ≤ id2) (i21 : id2 ≤ 18446744073709551615) :
    Calls Try.prog 3 #[.agg (arr s1), .int .u64 id1, .agg (arr e1), .agg (arr s2), .int .u64 id2, .agg (arr e2)] w fun e w' => e = .returned (.bool true) ∧ Below w.heap.size w w' := by
  have HS1 := hide hs1; clear hs1
  have HS2 := hide hs2; clear hs2
  have HE1 := hide he1; clear he1
  have HE2 := hide he2; clear he2
  have z1 := hide (size22' s1 HS1.out)
  have z2 := hide (size22' s2 HS2.out)
  have z3 := hide (size22' e1 HE1.out)
  have z4 := hide (size22' e2 HE2.out)
  have y1 := hide (size27' s1 id1 HS1.out)
  have y2 := hide (size27' s2 id2 HS2.out)
  go_enter Try.func3, Try.ntmps3
  go_wp2_with (first
    | (refine wpList_load_row rfl 22 (.tmp 6) rfl _ rfl 22 (arr s1) (0, 0) _ ?_ Try.underlying22 rfl z1.out ?_; exact (heap6 w _ _ _ _ (.cells #[] 0) (.cells #[] 0)).1)
    | refine wpList_build27 _ rfl (.tmp 20) (.tmp 21) rfl s1 id1 HS1.out rfl rfl ?_
    | (refine wpList_store_new _ rfl 27 (.tmp 13) (.tmp 22) rfl _ _ (pathCells s1 id1) rfl rfl ?_ y1.out ?_ (path_one s1 id1) ?_; simp; exact (path_size _ _ HS1.out).symm)
    | (refine wpList_load_row rfl 22 (.tmp 9) rfl _ rfl 22 (arr s2) (0, 0) _ ?_ Try.underlying22 rfl z2.out ?_; exact (heap6 w _ _ _ _ _ (.cells #[] 0)).2.1)
    | refine wpList_build27 _ rfl (.tmp 23) (.tmp 24) rfl s2 id2 HS2.out rfl rfl ?_
    | (refine wpList_store_new _ rfl 27 (.tmp 14) (.tmp 25) rfl _ _ (pathCells s2 id2) rfl rfl ?_ y2.out ?_ (path_one s2 id2) ?_; simp; exact (path_size _ _ HS2.out).symm)
    | (refine wpList_load_row rfl 27 (.tmp 13) rfl _ rfl 27 (pathCells s1 id1) (0, 0) _ ?_ Try.underlying27 rfl y1.out ?_; exact (Six.start w _ _ _ _ _ _).e)
    | (refine wpList_load_row rfl 22 (.tmp 8) rfl _ rfl 22 (arr e1) (0, 0) _ ?_ Try.underlying22 rfl z3.out ?_; exact (Six.start w _ _ _ _ _ _).b))
  refine (endSigned_any s1 e1 id1 _ HS1.out HE1.out i10 i11).mono ?_
  rintro e w1 ⟨v1, rfl, hown, hbel⟩
  have six1 := hide ((Six.start w _ _ _ _ _ _).to hbel)
  have R1 := hide hown.row; clear hown
  have B1 := hide ((((((((Below.refl _ w).alloc (Nat.le_refl _) _).alloc (by simp) _).alloc (by simp; omega) _).alloc (by simp; omega) _).alloc (by simp; omega) _).alloc (by simp; omega) _).trans (hbel.mono (by simp; omega))); clear hbel
  go_wp2_with (first
    | (refine wpList_load_row rfl 27 (.tmp 14) rfl _ rfl 27 (pathCells s2 id2) (0, 0) _ ?_ Try.underlying27 rfl y2.out ?_; exact six1.out.f)
    | (refine wpList_load_row rfl 22 (.tmp 11) rfl _ rfl 22 (arr e2) (0, 0) _ ?_ Try.underlying22 rfl z4.out ?_; exact six1.out.d))
  refine (endSigned_any s2 e2 id2 _ HS2.out HE2.out i20 i21).mono ?_
  rintro e w2 ⟨v2, rfl, hown, hbel⟩
  have six2 := hide (six1.out.to hbel)
  have R2 := hide hown.row; clear hown
  have R12 := hide (R1.out.to hbel)
  have B2 := hide (B1.out.trans (hbel.mono B1.out.size)); clear hbel
  go_wp2_with (refine wpList_load_row rfl 27 (.tmp 14) rfl _ rfl 27 (pathCells s2 id2) (0, 0) _ ?_ Try.underlying27 rfl y2.out ?_; exact six2.out.f)
  refine (sourceSigned_any s2 id2 _ HS2.out i20 i21).mono ?_
  rintro e w3 ⟨v3, rfl, hown, hbel⟩
  have six3 := hide (six2.out.to hbel)
  have RS := hide hown.row; clear hown
  have RE := hide (R12.out.to hbel)
  have RF := hide (R2.out.to hbel)
  have BW := hide (B2.out.trans (hbel.mono B2.out.size)); clear hbel
  clear R1 R12 R2 B1 B2 six1 six2
  have hg22 : Try.prog.eqGuardType Try.prog.depth 22 = false := by kernel_rfl
  have RE' := hide (show Row .u8 w3 v1 (endText s1 id1 e1) from RE.out); clear RE
  have RF' := hide (show Row .u8 w3 v2 (endText s2 id2 e2) from RF.out); clear RF
  have RS' := hide (show Row .u8 w3 v3 (srcText s2 id2) from RS.out); clear RS
  have np1 := hide (no_prefix1 (s := s1) (s' := s2) (e := e1) (a := id1) (a' := id2) HS1.out HS2.out)
  have np2 := hide (no_prefix2 (s := s1) (s' := s2) (e := e1) (a := id1) (a' := id2) HS1.out HS2.out HE1.out)
  have inj := hide (endText_inj HS1.out HS2.out HE1.out HE2.out i10 i11 i20 i21)
  obtain ⟨B1, hB1⟩ : ∃ b, decide (s1 = s2) = b := ⟨_, rfl⟩
  obtain ⟨B2, hB2⟩ : ∃ b, (id1 == id2) = b := ⟨_, rfl⟩
  obtain ⟨B3, hB3⟩ : ∃ b, decide (e1 = e2) = b := ⟨_, rfl⟩
  have q1 : ∀ w, (binOp .eql 22 (.agg (arr s1)) (.agg (arr s2))).run Try.prog w = .ok (.bool B1) w := fun w => by rw [eqArr s1 s2 HS1.out HS2.out w, hB1]
  have q3 : ∀ w, (binOp .eql 22 (.agg (arr e1)) (.agg (arr e2))).run Try.prog w = .ok (.bool B3) w := fun w => by rw [eqArr e1 e2 HE1.out HE2.out w, hB3]
  have hsame := hide (show decide (endText s1 id1 e1 = endText s2 id2 e2) = (B1 && B2 && B3) from by
    rw [← hB1, ← hB2, ← hB3, Bool.eq_iff_iff]
    simp [inj.out, and_assoc])
  clear hB1 hB3 inj
  have RE1 := hide RE'.out
  have RF1 := hide RF'.out
  obtain ⟨ao1, cap1, g1, o1, hv1, hc1, hm1, ha1, -, hcell1⟩ := RE'.out
  obtain ⟨ao2, cap2, g2, o2, hv2, hc2, hm2, ha2, -, hcell2⟩ := RF'.out
  rw [endText_len HS1.out HE1.out] at hv1 ha1 hcell1 hc1
  rw [endText_len HS2.out HE2.out] at hv2 ha2 hcell2 hc2
  have ea1 := ha1 (by omega)
  have ea2 := ha2 (by omega)
  rw [ea1] at hv1
  rw [ea2] at hv2
  clear ha1 ha2 ea1 ea2 RE' RF'
  have HC1 := hide hcell1; clear hcell1
  have HC2 := hide hcell2; clear hcell2
  subst hv1 hv2
  have h4 : (B1 = false) ∨ (B1 = true ∧ B2 = false) ∨ (B1 = true ∧ B2 = true ∧ B3 = false) ∨ (B1 = true ∧ B2 = true ∧ B3 = true) := by cases B1 <;> cases B2 <;> cases B3 <;> simp
  rcases h4 with rfl | ⟨rfl, rfl⟩ | ⟨rfl, rfl, rfl⟩ | ⟨rfl, rfl, rfl⟩
  all_goals
    go_wp2_with (first
      | (refine wpList_load_row rfl 22 (.tmp 6) rfl _ rfl 22 (arr s1) (0, 0) _ ?_ Try.underlying22 rfl z1.out ?_; exact six3.out.a)
      | (refine wpList_load_row rfl 22 (.tmp 9) rfl _ rfl 22 (arr s2) (0, 0) _ ?_ Try.underlying22 rfl z2.out ?_; exact six3.out.c)
      | (refine wpList_load_row_g rfl 22 (.tmp 8) rfl _ rfl 22 (arr e1) (0, 0) _ ?_ Try.underlying22 rfl z3.out ?_; exact six3.out.b)
      | (refine wpList_load_row_g rfl 22 (.tmp 11) rfl _ rfl 22 (arr e2) (0, 0) _ ?_ Try.underlying22 rfl z4.out ?_; exact six3.out.d)
      | (go_at_call 8; refine (zzEq_is _ _ _ _ _ _ RE1.out RF1.out hsame.out).mono ?_; rintro e w4 ⟨rfl, n4, rfl⟩))
    refine (zzHasPrefix_is _ _ _ _ _ _ ((Row.drewN _).2 RE1.out) ((Row.drewN _).2 RS'.out) np1.out).mono ?_
    rintro e w5 ⟨rfl, n5, rfl⟩
    go_wp2_with fail
    refine (zzHasPrefix_is _ _ _ _ _ _ ((Row.drewN _).2 RS'.out) ((Row.drewN _).2 RE1.out) np2.out).mono ?_
    rintro e w6 ⟨rfl, n6, rfl⟩
    go_wp2
    go_loopw [19] (fun i wr => ∃ k : Nat, i = .int .i64 k ∧ k ≤ 32 ∧ ∃ m, wr = w3.drewN m) (fun i _ => 32 - (intOf i).toNat)
    case atStart => exact ⟨0, rfl, Nat.zero_le _, _, rfl⟩
    case round =>
      obtain ⟨k, rfl, hk, m, rfl⟩ := hrel
      by_cases hlt : k < 32
      · have x1 := HC1.out (59 + k) (by omega)
        have x2 := HC2.out (59 + k) (by omega)
        rw [endText_at HS1.out] at x1
        rw [endText_at HS2.out] at x2
        have x3 : w3.cell? ⟨w.heap.size + 1, k, none⟩ = some (.int .u8 (e1.getD k 0)) := by
          rw [cell_of_row _ _ _ _ _ _ six3.out.b]; exact arr_at e1 k (by rw [HE1.out]; exact hlt)
        have x4 : w3.cell? ⟨w.heap.size + 1 + 1 + 1, k, none⟩ = some (.int .u8 (e2.getD k 0)) := by
          rw [cell_of_row _ _ _ _ _ _ six3.out.d]; exact arr_at e2 k (by rw [HE2.out]; exact hlt)
        generalize e1.getD k 0 = X at x1 x3
        generalize e2.getD k 0 = Y at x2 x4
        have hk0 : (0 : Int) ≤ (k : Int) := by omega
        have hk1 : (k : Int) < 32 := by omega
        have ek : (59 + (k : Int)).toNat = 59 + k := by omega
        go_wp2
        go_quiet (fail)
        go_wp2
        go_roundw
        case rel => exact ⟨k + 1, by go_num, by omega, _, rfl⟩
        case measure => simp [intOf]; omega
      · go_wp2
        go_ret
        exact ⟨rfl, below_drewN BW.out _⟩
end Go.Proofs.Qxb6616481a

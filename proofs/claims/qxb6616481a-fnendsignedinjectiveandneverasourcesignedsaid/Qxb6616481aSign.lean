import Derived.Test.Qxb6616481aApp
import Derived.WalkLawsBesides
import Derived.Outline
import Derived.Lib.SlBytesConst
namespace Go.Proofs.Qxb6616481a
open Go.RowKit

/-- The eight bytes of a uint64, the greatest first. -/
def be8 (x : Int) : List Int := [x / 72057594037927936, x / 281474976710656 % 256, x / 1099511627776 % 256, x / 4294967296 % 256, x / 16777216 % 256, x / 65536 % 256, x / 256 % 256, x % 256]

theorem Own.to_grown {B : Nat} {w : World} {v : Value} {xs : List Int} (h : Tight .u8 w v xs ∨ Own B w v xs) (o : Obj) (ys : List Int) (hy : ys ≠ []) : (Tight .u8 (w.alloc o) v xs ∧ ys ≠ []) ∨ Own B (w.alloc o) v xs :=
  h.imp (fun h => ⟨h.to ((Below.refl _ w).alloc (Nat.le_refl _) o), hy⟩) (fun h => h.alloc o)

theorem tOwn_alloc {B : Nat} {w : World} {v : Value} {xs : List Int} (h : Tight .u8 w v xs ∨ Own B w v xs) (o : Obj) : Tight .u8 (w.alloc o) v xs ∨ Own B (w.alloc o) v xs :=
  h.imp (fun h => h.to ((Below.refl _ w).alloc (Nat.le_refl _) o)) (fun h => h.alloc o)

set_option maxHeartbeats 400000 in
theorem au64_any (B : Nat) (v : Value) (xs : List Int) (x : Int) (w : World) (hx0 : 0 ≤ x) (hx1 : x ≤ 18446744073709551615) (hv : Tight .u8 w v xs ∨ Own B w v xs) (hB : B ≤ w.heap.size) (hlen : xs.length ≤ 1000000) :
    Calls Try.prog 22 #[.agg #[], v, .int .u64 x] w fun e w' => ∃ v', e = .returned v' ∧ Own B w' v' (xs ++ be8 x) ∧ Below B w w' := by
  have HV := hide hv; clear hv
  go_enter Try.func22, Try.ntmps22
  go_wp2_with (at_builtin; refine wpList_app _ rfl _ _ rfl B _ _ xs (be8 x) rfl rfl ?h1 ?h2 ?h3 ?h4 ?_)
  case h1 => exact Own.to_grown (tOwn_alloc HV.out _) _ _ (by simp [be8])
  case h2 => exact (tight_lit .u8 (w.alloc (.cells #[] 50)) (be8 x) _ 5 (0, 0) _ 8 rfl (by simp) rfl (by simp [be8, maxLen])).row
  case h3 => simp; omega
  case h4 => simp [be8]; omega
  intro v' w1 hown hbel
  go_wp2
  go_ret
  exact ⟨v', rfl, hown, (((Below.refl B w).alloc hB _).alloc (by simp; omega) _).trans hbel⟩

def pathCells (src : List Int) (id : Int) : Array Value := (src.map (Value.int .u8) ++ [Value.int .u64 id]).toArray

theorem tight_part (k : IntKind) (w : World) (xs : List Int) (cs : Array Value) (t : TypeId) (fr : Nat × Nat) (H n : Nat) (hcs : ∀ j, j < xs.length → cs[j]? = some (Value.int k (xs.getD j 0))) (hH : H = w.heap.size) (hn : n = xs.length) (hm : xs.length ≤ maxLen) :
    Tight k (w.alloc (.cells cs t fr)) (.slice (some ⟨H, 0, none⟩) n n) xs := by
  subst hH hn
  refine ⟨_, w.heap.size, 0, rfl, hm, fun _ => rfl, fun j hj => ?_⟩
  rw [cell_of_row (w.alloc _) w.heap.size (0 + j) _ t fr (heap_alloc_new w _), Nat.zero_add]
  exact hcs j hj

theorem path_src (src : List Int) (id : Int) : ∀ j, j < src.length → (pathCells src id)[j]? = some (Value.int .u8 (src.getD j 0)) := by
  intro j hj
  rw [pathCells, List.getElem?_toArray, List.getElem?_append_left (by simpa using hj)]
  simp [hj]
theorem path_size (src : List Int) (id : Int) (h : src.length = 32) : (pathCells src id).size = 33 := by simp [pathCells, h]
theorem path_id (src : List Int) (id : Int) (h : src.length = 32) : (pathCells src id)[32]? = some (Value.int .u64 id) := by
  simp [pathCells, h]

set_option maxHeartbeats 400000 in
theorem pathAppend_any (v : Value) (xs src : List Int) (id : Int) (w : World) (hs : src.length = 32) (hx0 : 0 ≤ id) (hx1 : id ≤ 18446744073709551615) (hv : Tight .u8 w v xs) (hlen : xs.length ≤ 1000) :
    Calls Try.prog 19 #[.agg (pathCells src id), v] w fun e w' => ∃ v', e = .returned v' ∧ Own w.heap.size w' v' (xs ++ src ++ be8 id) ∧ Below w.heap.size w w' := by
  have HV := hide hv; clear hv
  have HS := hide hs; clear hs
  have hcid : (w.alloc (.cells (pathCells src id) 27)).cell? ⟨w.heap.size, 32, none⟩ = some (.int .u64 id) := by
    rw [cell_of_row (w.alloc _) w.heap.size 32 _ 27 (0, 0) (heap_alloc_new w _)]
    exact path_id src id HS.out
  go_enter Try.func19, Try.ntmps19
  go_wp2_with (at_builtin; refine wpList_app _ rfl _ _ rfl (w.heap.size + 1) _ _ xs src rfl rfl ?h1 ?h2 ?h3 ?h4 ?_)
  case h1 => exact .inl ⟨HV.out.to ((Below.refl _ w).alloc (Nat.le_refl _) _), by intro h; have := HS.out; rw [h] at this; cases this⟩
  case h2 => exact (tight_part .u8 w src _ 27 (0, 0) _ 32 (path_src src id) rfl HS.out.symm (by rw [HS.out]; simp [maxLen])).row
  case h3 => simp
  case h4 => rw [HS.out]; omega
  intro v' w1 hown hbel
  have HO := hide hown; clear hown
  have HB := hide hbel; clear hbel
  have hc1 : w1.cell? ⟨w.heap.size, 32, none⟩ = some (.int .u64 id) := by
    rw [HB.out.cell (by simp)]; exact hcid
  clear hcid
  have hsz := HB.out.size
  have hsz1 : w.heap.size + 1 ≤ w1.heap.size := by simpa using hsz
  clear hsz
  go_wp2_with (go_at_call 22; refine (au64_any (w.heap.size + 1) _ _ _ _ hx0 hx1 (.inr HO.out) hsz1 (by simp [HS.out]; omega)).mono ?_; rintro e w2 ⟨v2, rfl, hown2, hbel2⟩)
  go_ret
  exact ⟨v2, rfl, ownsRow_mono' hown2 (by omega), (((Below.refl _ w).alloc (Nat.le_refl _) _).trans ((HB.out.trans hbel2).mono (by omega)))⟩

def arr (xs : List Int) : Array Value := (xs.map (Value.int .u8)).toArray
def ctxEnd : List Int := [107, 101, 121, 108, 105, 110, 101, 32, 112, 97, 116, 104, 32, 101, 110, 100, 32, 118, 49]
def ctxSrc : List Int := [107, 101, 121, 108, 105, 110, 101, 32, 112, 97, 116, 104, 32, 115, 111, 117, 114, 99, 101, 32, 118, 49]

theorem size27 : (Try.prog.info? 27).map (·.size) = some 33 := by kernel_rfl
theorem size22 : (Try.prog.info? 22).map (·.size) = some 32 := by kernel_rfl
theorem size27' (src : List Int) (id : Int) (h : src.length = 32) : (Try.prog.info? 27).map (·.size) = some (pathCells src id).size := by rw [path_size src id h]; exact size27

theorem arr_at (xs : List Int) : ∀ j, j < xs.length → (arr xs)[j]? = some (Value.int .u8 (xs.getD j 0)) := by
  intro j hj
  simp [arr, hj]

theorem tight_in (k : IntKind) (w : World) (xs : List Int) (cs : Array Value) (t : TypeId) (fr : Nat × Nat) (H n : Nat) (hcs : ∀ j, j < xs.length → cs[j]? = some (Value.int k (xs.getD j 0))) (hH : w.heap[H]? = some (.cells cs t fr)) (hn : n = xs.length) (hm : xs.length ≤ maxLen) :
    Tight k w (.slice (some ⟨H, 0, none⟩) n n) xs := by
  subst hn
  refine ⟨_, H, 0, rfl, hm, fun _ => rfl, fun j hj => ?_⟩
  rw [cell_of_row w H (0 + j) _ t fr hH, Nat.zero_add]
  exact hcs j hj

theorem kc2 (w : World) (A B : Obj) (C : Array Value) (n c : Nat) : (convert 28 28 (.slice (some ⟨w.heap.size + 1 + 1, 0, none⟩) n c)).run Try.prog (((w.alloc A).alloc B).alloc (.cells C 5)) =
    .ok (.slice (some ⟨w.heap.size + 1 + 1, 0, none⟩) n c) (((w.alloc A).alloc B).alloc (.cells C 5 (C.size, C.size + 1))) := by
  have := Lib.run_convert_bytes_const (P := Try.prog) ((w.alloc A).alloc B) 28 5 C n c Try.underlying28 Try.underlying5
  simpa using this
theorem kc1 (w : World) (A : Obj) (C : Array Value) (n c : Nat) : (convert 28 28 (.slice (some ⟨w.heap.size + 1, 0, none⟩) n c)).run Try.prog ((w.alloc A).alloc (.cells C 5)) =
    .ok (.slice (some ⟨w.heap.size + 1, 0, none⟩) n c) ((w.alloc A).alloc (.cells C 5 (C.size, C.size + 1))) := by
  have := Lib.run_convert_bytes_const (P := Try.prog) (w.alloc A) 28 5 C n c Try.underlying28 Try.underlying5
  simpa using this

set_option maxHeartbeats 400000 in
theorem endSigned_any (src en : List Int) (id : Int) (w : World) (hs : src.length = 32) (he : en.length = 32) (hx0 : 0 ≤ id) (hx1 : id ≤ 18446744073709551615) :
    Calls Try.prog 6 #[.agg (pathCells src id), .agg (arr en)] w fun e w' => ∃ v', e = .returned v' ∧ Own w.heap.size w' v' (ctxEnd ++ src ++ be8 id ++ en) ∧ Below w.heap.size w w' := by
  have HS := hide hs; clear hs
  have HE := hide he; clear he
  have hsz27 := hide (size27' src id HS.out)
  have kc := kc2 w
  go_enter Try.func6, Try.ntmps6
  go_wp2_with (refine wpList_load_row rfl 27 _ rfl _ rfl 27 (pathCells src id) (0, 0) _ ?hg Try.underlying27 rfl hsz27.out ?_)
  case hg => exact heap_alloc2_old w _ _
  go_wp2_with fail
  refine (pathAppend_any _ ctxEnd src id _ HS.out hx0 hx1 ?hv (by simp [ctxEnd])).mono ?_
  case hv => exact tight_lit .u8 _ ctxEnd _ 5 _ _ 19 rfl (by simp) rfl (by simp [ctxEnd, maxLen])
  rintro e w1 ⟨v1, rfl, hown, hbel⟩
  have HO := hide hown; clear hown
  have HB := hide hbel; clear hbel
  have hsz := HB.out.size
  have hblk : w1.heap[w.heap.size + 1]? = some (.cells (arr en) 25 (0, 0)) := by
    rw [HB.out.block _ (by simp), heap_alloc_old _ _ (by simp)]
    exact heap_alloc2_new w _ _
  go_wp2_with (at_builtin; refine wpList_app _ rfl _ _ rfl w.heap.size _ _ (ctxEnd ++ src ++ be8 id) en rfl rfl ?h1 ?h2 ?h3 ?h4 ?_)
  case h1 => exact .inr (ownsRow_mono' HO.out (by simp; omega))
  case h2 => exact (tight_in .u8 w1 en _ 25 (0, 0) _ 32 (arr_at en) hblk HE.out.symm (by rw [HE.out]; simp [maxLen])).row
  case h3 => simp at hsz; omega
  case h4 => simp [HE.out, HS.out, ctxEnd, be8]
  intro v' w2 hown2 hbel2
  have HO2 := hide hown2; clear hown2
  go_wp2
  go_ret
  refine ⟨v', rfl, by simpa only [List.append_assoc] using HO2.out, ?_⟩
  refine Below.trans ?_ hbel2
  refine Below.trans ?_ (HB.out.mono (by simp; omega))
  exact ((((Below.refl _ w).alloc (Nat.le_refl _) _).alloc (by simp) _).alloc (by simp; omega) _)

set_option maxHeartbeats 400000 in
theorem sourceSigned_any (src : List Int) (id : Int) (w : World) (hs : src.length = 32) (hx0 : 0 ≤ id) (hx1 : id ≤ 18446744073709551615) :
    Calls Try.prog 7 #[.agg (pathCells src id)] w fun e w' => ∃ v', e = .returned v' ∧ Own w.heap.size w' v' (ctxSrc ++ src ++ be8 id) ∧ Below w.heap.size w w' := by
  have HS := hide hs; clear hs
  have hsz27 := hide (size27' src id HS.out)
  have kc := kc1 w
  go_enter Try.func7, Try.ntmps7
  go_wp2_with (refine wpList_load_row rfl 27 _ rfl _ rfl 27 (pathCells src id) (0, 0) _ ?hg Try.underlying27 rfl hsz27.out ?_)
  case hg => exact heap_alloc_new w _
  go_wp2_with fail
  refine (pathAppend_any _ ctxSrc src id _ HS.out hx0 hx1 ?hv (by simp [ctxSrc])).mono ?_
  case hv => exact tight_lit .u8 _ ctxSrc _ 5 _ _ 22 rfl (by simp) rfl (by simp [ctxSrc, maxLen])
  rintro e w1 ⟨v1, rfl, hown, hbel⟩
  have HO := hide hown; clear hown
  have HB := hide hbel; clear hbel
  go_wp2
  go_ret
  refine ⟨v1, rfl, ownsRow_mono' HO.out (by simp; omega), ?_⟩
  refine Below.trans ?_ (HB.out.mono (by simp; omega))
  exact (((Below.refl _ w).alloc (Nat.le_refl _) _).alloc (by simp) _)
end Go.Proofs.Qxb6616481a

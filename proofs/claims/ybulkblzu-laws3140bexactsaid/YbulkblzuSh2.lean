import Derived.Test.YbulkblzuSh1
namespace Go.Proofs.Ybulkblzu
open Go.RowKit Go.Maps Go.WideMaps
set_option linter.unusedVariables false
set_option linter.unusedSimpArgs false
theorem ex_index {P : Program} {o : Oper} {a : Act} {x y : Operand} {t : TypeId} {u i v : Value} {w : World} (ho : o.op = .indexAddr t x y) (hx : a.eval x = u) (hy : a.eval y = i) (hrun : (Instr.indexAt t u i).run P w = .ok v w) : (execOp a.eval o).run P w = .ok (.value v) w := by
  simp [execOp, ho, hx, hy, hrun]
theorem ia57 {g j n c : Nat} (h : j < n) (w : World) : (Instr.indexAt 57 (.slice (some ⟨g, 0, none⟩) n c) (.int .i64 (j : Nat))).run Yba.prog w = .ok (.pointer (some ⟨g, j * 25, none⟩)) w := by
  have h' : (j : Int) < (n : Int) := by omega
  go_simp
theorem range_ad {w : World} {b : Nat} {e : Ent} {p : Option Addr} (h : w.heap[b]? = some (.cells (enC e p).toArray 62 (0, 0))) : w.rangeAt b 1 (adC e) := by
  intro j v hv
  rw [cell_of_row w b (1 + j) _ 62 (0, 0) h]
  have : (enC e p).toArray[1 + j]? = (enC e p)[1 + j]? := by simp
  rw [this, show 1 + j = j + 1 from by omega]
  show (adC e ++ [.bool e.held, .pointer p])[j]? = some v
  rw [List.getElem?_append_left (List.getElem?_eq_some_iff.1 hv).1]
  exact hv

set_option maxRecDepth 100000 in
set_option maxHeartbeats 1000000 in
theorem s5r4 (N n c : Nat) (ga : Option Addr) (wa : World) (hN : wa.cell? ⟨N, 21, none⟩ = some (.slice ga n c)) {x0 x1 x2 x3 x4 x5 x7 x8 x9 x10 x11 x12 x13 x14 x15 x16 x17 x18 x19 x20 x21 x22 x23 x24 x25 x26 x27 x28 x29 x30 x31 x32 x33 x34 x35 : Value} (K : Act → World → Prop)
    (hK : ∀ (y17 y18 y19 : Value), K { tmps := #[x0, x1, x2, x3, x4, x5, .pointer (some ⟨N, 0, none⟩), x7, x8, x9, x10, x11, x12, x13, x14, x15, x16, y17, y18, y19, .slice ga n c, .int .i64 ((n : Nat) : Int), .int .i64 ((0 : Nat) : Int), x23, x24, x25, x26, x27, x28, x29, x30, x31, x32, x33, x34, x35], defers := [] } (wa)) :
    Code.wp Yba.prog (headC shT) (only K) { tmps := #[x0, x1, x2, x3, x4, x5, .pointer (some ⟨N, 0, none⟩), x7, x8, x9, x10, x11, x12, x13, x14, x15, x16, x17, x18, x19, x20, x21, x22, x23, x24, x25, x26, x27, x28, x29, x30, x31, x32, x33, x34, x35], defers := [] } wa := by
  simp only [sh5, shL, shX, shT, Yba.f5, Option.getD, dropC, headC, tailC, blkC, lupC, thnC, elsC]
  refine wp_region_lit ?_
  refine plk 17 (.pointer (some ⟨N, 0, none⟩)) rfl rfl (by kernel_rfl) ?_
  simp only [Act.put, List.setIfInBounds_toArray, List.set_cons_zero, List.set_cons_succ]
  refine plk 18 (.pointer (some ⟨N, 0, none⟩)) rfl rfl (by kernel_rfl) ?_
  simp only [Act.put, List.setIfInBounds_toArray, List.set_cons_zero, List.set_cons_succ]
  refine pl 19 rfl rfl (ex_field (x := .tmp 18) (i := 2) (t := 59) (by kernel_rfl) (by kernel_rfl) (fa59_2 N _)) ?_
  simp only [Act.put, List.setIfInBounds_toArray, List.set_cons_zero, List.set_cons_succ]
  refine pl 20 rfl rfl (ex_load (x := .tmp 19) (t := 57) (by kernel_rfl) (by kernel_rfl) (ld57 hN)) ?_
  simp only [Act.put, List.setIfInBounds_toArray, List.set_cons_zero, List.set_cons_succ]
  refine pl 21 rfl rfl (lp (x := .tmp 20) (t := 57) (n := n) (by kernel_rfl) (by kernel_rfl) (len57 ga n c _ _)) ?_
  simp only [Act.put, List.setIfInBounds_toArray, List.set_cons_zero, List.set_cons_succ]
  refine plk 22 (.int .i64 ((0 : Nat) : Int)) rfl rfl (by kernel_rfl) ?_
  simp only [Act.put, List.setIfInBounds_toArray, List.set_cons_zero, List.set_cons_succ]
  exact wpList_nil (hK _ _ _ )

set_option maxRecDepth 100000 in
set_option maxHeartbeats 1000000 in
theorem s5r5 (n j : Nat) (wa : World) {x0 x1 x2 x3 x4 x5 x6 x7 x8 x9 x10 x11 x12 x13 x14 x15 x16 x17 x18 x19 x20 x23 x24 x25 x26 x27 x28 x29 x30 x31 x32 x33 x34 x35 : Value} (K : Act → World → Prop)
    (hK : K { tmps := #[x0, x1, x2, x3, x4, x5, x6, x7, x8, x9, x10, x11, x12, x13, x14, x15, x16, x17, x18, x19, x20, .int .i64 ((n : Nat) : Int), .int .i64 ((j : Nat) : Int), .bool (decide (j < n)), x24, x25, x26, x27, x28, x29, x30, x31, x32, x33, x34, x35], defers := [] } (wa)) :
    Code.wp Yba.prog (headC shL) (only K) { tmps := #[x0, x1, x2, x3, x4, x5, x6, x7, x8, x9, x10, x11, x12, x13, x14, x15, x16, x17, x18, x19, x20, .int .i64 ((n : Nat) : Int), .int .i64 ((j : Nat) : Int), x23, x24, x25, x26, x27, x28, x29, x30, x31, x32, x33, x34, x35], defers := [] } wa := by
  have HK := hid hK
  clear hK
  simp only [sh5, shL, shX, shT, Yba.f5, Option.getD, dropC, headC, tailC, blkC, lupC, thnC, elsC]
  go_wp2_with fail
  exact HK.out 

set_option maxRecDepth 100000 in
set_option maxHeartbeats 1000000 in
theorem s5r6 (e : Ent) (p : Option Addr) (gb n c j : Nat) (wa : World) (hj : j < n) (hr : wa.rangeAt gb (j * 25) (enC e p)) {x0 x1 x2 x3 x4 x5 x6 x7 x8 x9 x10 x11 x12 x13 x14 x15 x16 x17 x18 x19 x21 x23 x24 x25 x26 x27 x28 x29 x30 x31 x32 x33 x34 x35 : Value} (K : Act → World → Prop)
    (hK : ∀ (y24 y25 : Value), K { tmps := #[x0, x1, x2, x3, x4, x5, x6, x7, .pointer (some ⟨wa.heap.size, 0, none⟩), x9, x10, x11, x12, x13, x14, x15, x16, x17, x18, x19, .slice (some ⟨gb, 0, none⟩) n c, x21, .int .i64 ((j : Nat) : Int), x23, y24, y25, x26, x27, x28, x29, x30, x31, x32, x33, x34, x35], defers := [] } (wa.alloc (.cells (enC e p).toArray 62))) :
    Code.wp Yba.prog (headC shX) (only K) { tmps := #[x0, x1, x2, x3, x4, x5, x6, x7, x8, x9, x10, x11, x12, x13, x14, x15, x16, x17, x18, x19, .slice (some ⟨gb, 0, none⟩) n c, x21, .int .i64 ((j : Nat) : Int), x23, x24, x25, x26, x27, x28, x29, x30, x31, x32, x33, x34, x35], defers := [] } wa := by
  simp only [sh5, shL, shX, shT, Yba.f5, Option.getD, dropC, headC, tailC, blkC, lupC, thnC, elsC]
  refine wp_region_lit ?_
  refine pl 24 rfl rfl (ex_index (x := .tmp 20) (y := .tmp 22) (t := 57) (by kernel_rfl) (by kernel_rfl) (by kernel_rfl) (ia57 (g := gb) (c := c) hj _)) ?_
  simp only [Act.put, List.setIfInBounds_toArray, List.set_cons_zero, List.set_cons_succ]
  refine pl 25 rfl rfl (ex_load (x := .tmp 24) (t := 62) (by kernel_rfl) (by kernel_rfl) (ld62m hr)) ?_
  simp only [Act.put, List.setIfInBounds_toArray, List.set_cons_zero, List.set_cons_succ]
  refine pl 8 rfl rfl (ex_alloc (t := 62) (by kernel_rfl) (al62 _)) ?_
  simp only [Act.put, List.setIfInBounds_toArray, List.set_cons_zero, List.set_cons_succ]
  refine pls (x := .tmp 8) (y := .tmp 25) (t := 62) rfl rfl (by kernel_rfl) (by kernel_rfl) (by kernel_rfl) (st62 e p _) ?_
  exact wpList_nil (hK _ _ )

set_option maxRecDepth 100000 in
set_option maxHeartbeats 1000000 in
theorem s5r7 (e : Ent) (p : Option Addr) (b8 : Nat) (wa : World) (h8 : wa.heap[b8]? = some (.cells (enC e p).toArray 62 (0, 0))) {x0 x1 x2 x3 x4 x5 x6 x7 x9 x10 x11 x12 x13 x14 x15 x16 x17 x18 x19 x20 x21 x22 x23 x24 x25 x26 x27 x28 x29 x30 x31 x32 x33 x34 x35 : Value} (K : Act → World → Prop)
    (hK : ∀ (y26 y27 : Value), K { tmps := #[x0, x1, x2, x3, x4, x5, x6, x7, .pointer (some ⟨b8, 0, none⟩), x9, x10, x11, x12, x13, x14, x15, x16, x17, x18, x19, x20, x21, x22, x23, x24, x25, y26, y27, .bool p.isSome, x29, x30, x31, x32, x33, x34, x35], defers := [] } (wa)) :
    Code.wp Yba.prog (headC (tailC shX)) (only K) { tmps := #[x0, x1, x2, x3, x4, x5, x6, x7, .pointer (some ⟨b8, 0, none⟩), x9, x10, x11, x12, x13, x14, x15, x16, x17, x18, x19, x20, x21, x22, x23, x24, x25, x26, x27, x28, x29, x30, x31, x32, x33, x34, x35], defers := [] } wa := by
  have c24 : wa.cell? ⟨b8, 24, none⟩ = some (.pointer p) := by rw [cell_of_row _ b8 24 _ 62 (0, 0) h8]; rfl
  simp only [sh5, shL, shX, shT, Yba.f5, Option.getD, dropC, headC, tailC, blkC, lupC, thnC, elsC]
  refine wp_region_lit ?_
  refine pl 26 rfl rfl (ex_field (x := .tmp 8) (i := 3) (t := 62) (by kernel_rfl) (by kernel_rfl) (fa62_3 b8 _)) ?_
  simp only [Act.put, List.setIfInBounds_toArray, List.set_cons_zero, List.set_cons_succ]
  refine pl 27 rfl rfl (ex_load (x := .tmp 26) (t := 60) (by kernel_rfl) (by kernel_rfl) (ld60 c24)) ?_
  simp only [Act.put, List.setIfInBounds_toArray, List.set_cons_zero, List.set_cons_succ]
  cases p with
  | none =>
    refine plk 28 (.bool false) rfl rfl (by kernel_rfl) ?_
    simp only [Act.put, List.setIfInBounds_toArray, List.set_cons_zero, List.set_cons_succ]
    exact wpList_nil (hK _ _ )
  | some q =>
    refine plk 28 (.bool true) rfl rfl (by kernel_rfl) ?_
    simp only [Act.put, List.setIfInBounds_toArray, List.set_cons_zero, List.set_cons_succ]
    exact wpList_nil (hK _ _ )

set_option maxRecDepth 100000 in
set_option maxHeartbeats 1000000 in
theorem s5r8 (e : Ent) (p : Option Addr) (b8 X m : Nat) (R : Value) (xs : List Value) (wa : World) (h8 : wa.heap[b8]? = some (.cells (enC e p).toArray 62 (0, 0))) (hown : wa.ownsRow X 33 22 R m xs) (hm : m < 1024) (hX : X ≤ wa.heap.size) {x0 x1 x2 x3 x4 x6 x7 x9 x10 x11 x12 x13 x14 x15 x16 x17 x18 x19 x20 x21 x22 x23 x24 x25 x26 x27 x28 x29 x30 x31 x32 x33 x34 x35 : Value} (K : Act → World → Prop)
    (hK : ∀ (y29 y30 y31 y32 y33 : Value) (gn cn : Nat) (wy : World), wy.ownsRow X 33 22 (.slice (some ⟨gn, 0, none⟩) (m + 1) cn) (m + 1) (xs ++ adC e) → (wa.alloc (.cells (adC e).toArray 33)).grownBy wy R.ownBlock → K { tmps := #[x0, x1, x2, x3, x4, .slice (some ⟨gn, 0, none⟩) (m + 1) cn, x6, x7, .pointer (some ⟨b8, 0, none⟩), x9, x10, x11, x12, x13, x14, x15, x16, x17, x18, x19, x20, x21, x22, x23, x24, x25, x26, x27, x28, y29, y30, y31, y32, y33, x34, x35], defers := [] } (wy)) :
    Code.wp Yba.prog (thnC (tailC (tailC shX))) (only K) { tmps := #[x0, x1, x2, x3, x4, R, x6, x7, .pointer (some ⟨b8, 0, none⟩), x9, x10, x11, x12, x13, x14, x15, x16, x17, x18, x19, x20, x21, x22, x23, x24, x25, x26, x27, x28, x29, x30, x31, x32, x33, x34, x35], defers := [] } wa := by
  obtain ⟨i33, hi33, hz33, hs33, hb33⟩ := info_parts info33
  simp only [sh5, shL, shX, shT, Yba.f5, Option.getD, dropC, headC, tailC, blkC, lupC, thnC, elsC]
  refine wp_region_lit ?_
  refine plk 29 (R) rfl rfl (by kernel_rfl) ?_
  simp only [Act.put, List.setIfInBounds_toArray, List.set_cons_zero, List.set_cons_succ]
  refine pl 30 rfl rfl (ex_field (x := .tmp 8) (i := 1) (t := 62) (by kernel_rfl) (by kernel_rfl) (fa62_1 b8 _)) ?_
  simp only [Act.put, List.setIfInBounds_toArray, List.set_cons_zero, List.set_cons_succ]
  refine pl 31 rfl rfl (ex_load (x := .tmp 30) (t := 33) (by kernel_rfl) (by kernel_rfl) (ld33m (range_ad h8))) ?_
  simp only [Act.put, List.setIfInBounds_toArray, List.set_cons_zero, List.set_cons_succ]
  refine pl 32 rfl rfl (ex_buildSlice (x := .tmp 31) (t := 25) (u := .agg (adC e).toArray) (by kernel_rfl) (by kernel_rfl) (bs33 e _)) ?_
  simp only [Act.put, List.setIfInBounds_toArray, List.set_cons_zero, List.set_cons_succ]
  refine wpList_plain rfl fun K2 hK2 => ?_
  refine wp_append_lies _ (.tmp 29) (.tmp 32) 25 rfl X 33 i33 _ 22 48 Yba.underlying25 hi33 hz33 hs33 hb33 rfl (by omega) R m xs (by kernel_rfl) (hown.alloc _) ⟨wa.heap.size, 0, none⟩ 1 1 (adC e) (by kernel_rfl) (by rfl) (World.news_of_block (cs := (adC e).toArray) (t := 33) (fr := (0, 0)) (heap_alloc_new _ _)) (one33' _) (by omega) (by unfold maxLen; omega) (by omega) (by simp; omega) (wa.heap.size + 1) (by simp) ?_
  intro g2 cap2 w2 hown2 hgrow2 hat2 hlt2
  refine hK2 _ _ ?_
  simp only [Act.put, List.setIfInBounds_toArray, List.set_cons_zero, List.set_cons_succ]
  refine plk 5 (.slice (some ⟨g2, 0, none⟩) (m + 1) cap2) rfl rfl (by kernel_rfl) ?_
  simp only [Act.put, List.setIfInBounds_toArray, List.set_cons_zero, List.set_cons_succ]
  exact wpList_nil (hK _ _ _ _ _  g2 cap2 w2 hown2 hgrow2)

set_option maxRecDepth 100000 in
set_option maxHeartbeats 1000000 in
theorem s5r9 (j : Nat) (wa : World) (hj : j < 1024) {x0 x1 x2 x3 x4 x5 x6 x7 x8 x9 x10 x11 x12 x13 x14 x15 x16 x17 x18 x19 x20 x21 x23 x24 x25 x26 x27 x28 x29 x30 x31 x32 x33 x34 x35 : Value} (K : Act → World → Prop)
    (hK : ∀ (y34 : Value), K { tmps := #[x0, x1, x2, x3, x4, x5, x6, x7, x8, x9, x10, x11, x12, x13, x14, x15, x16, x17, x18, x19, x20, x21, .int .i64 ((j + 1 : Nat) : Int), x23, x24, x25, x26, x27, x28, x29, x30, x31, x32, x33, y34, x35], defers := [] } (wa)) :
    Code.wp Yba.prog (tailC (tailC (tailC shL))) (only K) { tmps := #[x0, x1, x2, x3, x4, x5, x6, x7, x8, x9, x10, x11, x12, x13, x14, x15, x16, x17, x18, x19, x20, x21, .int .i64 ((j : Nat) : Int), x23, x24, x25, x26, x27, x28, x29, x30, x31, x32, x33, x34, x35], defers := [] } wa := by
  have HK := hid hK
  clear hK
  simp only [sh5, shL, shX, shT, Yba.f5, Option.getD, dropC, headC, tailC, blkC, lupC, thnC, elsC]
  go_wp2_with fail
  exact HK.out _ 

set_option maxRecDepth 100000 in
set_option maxHeartbeats 1000000 in
theorem s5r10 (R : Value) (wa : World) {x0 x1 x2 x3 x4 x6 x7 x8 x9 x10 x11 x12 x13 x14 x15 x16 x17 x18 x19 x20 x21 x22 x23 x24 x25 x26 x27 x28 x29 x30 x31 x32 x33 x34 x35 : Value} (K : Act → World → Prop)
    (hK : ∀ (y35 : Value), K { tmps := #[x0, x1, x2, x3, R, R, x6, x7, x8, x9, x10, x11, x12, x13, x14, x15, x16, x17, x18, x19, x20, x21, x22, x23, x24, x25, x26, x27, x28, x29, x30, x31, x32, x33, x34, y35], defers := [] } (wa)) :
    Code.wp Yba.prog (headC (dropC 3 sh5)) (only K) { tmps := #[x0, x1, x2, x3, x4, R, x6, x7, x8, x9, x10, x11, x12, x13, x14, x15, x16, x17, x18, x19, x20, x21, x22, x23, x24, x25, x26, x27, x28, x29, x30, x31, x32, x33, x34, x35], defers := [] } wa := by
  simp only [sh5, shL, shX, shT, Yba.f5, Option.getD, dropC, headC, tailC, blkC, lupC, thnC, elsC]
  refine wp_region_lit ?_
  refine plk 35 (R) rfl rfl (by kernel_rfl) ?_
  simp only [Act.put, List.setIfInBounds_toArray, List.set_cons_zero, List.set_cons_succ]
  refine plk 4 (R) rfl rfl (by kernel_rfl) ?_
  simp only [Act.put, List.setIfInBounds_toArray, List.set_cons_zero, List.set_cons_succ]
  exact wpList_nil (hK _ )
end Go.Proofs.Ybulkblzu

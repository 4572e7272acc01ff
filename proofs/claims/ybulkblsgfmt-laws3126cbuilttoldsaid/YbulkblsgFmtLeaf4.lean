import Derived.Test.YbulkblsgFmtLeaf3
namespace Go.Proofs.YbulkblsgFmt
open Go.RowKit Go.Extern.Stop Go.Stop Go.Extern
set_option linter.unusedVariables false
set_option linter.unusedSimpArgs false
theorem ex_eqs {o : Oper} {a : Act} {x y : Operand} {s : ByteArray} {w : World} (ho : o.op = .binOp .eql 9 x y 9) (hx : a.eval x = .string s) (hy : a.eval y = .string s) : (execOp a.eval o).run Ybaf.prog w = .ok (.value (.bool true)) w := by
  simp only [execOp, ho, hx, hy]
  go_simp
set_option maxRecDepth 100000 in
theorem equal_any (v1 v2 : Value) (s : ByteArray) (w : World) (h1 : (convert 53 9 v1).run Ybaf.prog w = .ok (.string s) w) (h2 : (convert 53 9 v2).run Ybaf.prog w = .ok (.string s) w) :
    Calls Ybaf.prog 18 #[v1, v2] w fun e w' => e = .returned (.bool true) ∧ w' = w := by
  go_enter Ybaf.func18, Ybaf.ntmps18
  refine wp_seq (wp_region_lit ?_)
  refine plk 4 (.bool false) rfl rfl (by kernel_rfl) ?_
  simp only [Act.put, List.setIfInBounds_toArray, List.set_cons_zero, List.set_cons_succ]
  refine wpList_nil ?_
  refine wp_seq (wp_region_lit ?_)
  refine plk 5 (v1) rfl rfl (by kernel_rfl) ?_
  simp only [Act.put, List.setIfInBounds_toArray, List.set_cons_zero, List.set_cons_succ]
  refine pl 6 rfl rfl (ex_conv (x := .tmp 5) (s := 53) (t := 9) (by kernel_rfl) (by kernel_rfl) h1) ?_
  simp only [Act.put, List.setIfInBounds_toArray, List.set_cons_zero, List.set_cons_succ]
  refine plk 7 (v2) rfl rfl (by kernel_rfl) ?_
  simp only [Act.put, List.setIfInBounds_toArray, List.set_cons_zero, List.set_cons_succ]
  refine pl 8 rfl rfl (ex_conv (x := .tmp 7) (s := 53) (t := 9) (by kernel_rfl) (by kernel_rfl) h2) ?_
  simp only [Act.put, List.setIfInBounds_toArray, List.set_cons_zero, List.set_cons_succ]
  refine pl 9 rfl rfl (ex_eqs (x := .tmp 6) (y := .tmp 8) (s := s) (by kernel_rfl) (by kernel_rfl) (by kernel_rfl)) ?_
  simp only [Act.put, List.setIfInBounds_toArray, List.set_cons_zero, List.set_cons_succ]
  refine plk 4 (.bool true) rfl rfl (by kernel_rfl) ?_
  simp only [Act.put, List.setIfInBounds_toArray, List.set_cons_zero, List.set_cons_succ]
  refine wpList_nil ?_
  exact wp_ret (bodyPost_ret_by (results_tmp rfl _ _ _) rfl ⟨rfl, rfl⟩)
noncomputable def ad17 : Code := Ybaf.f17.body.getD .skip
noncomputable def adL : Code := lupC (blkC (tailC (headC (dropC 3 ad17))))
noncomputable def adX : Code := blkC (headC (tailC adL))
theorem ad_eq : ad17 = (headC ad17).seq ((headC (dropC 1 ad17)).seq ((headC (dropC 2 ad17)).seq (((headC (headC (dropC 3 ad17))).seq (Code.block 0 (.loop (((headC (headC adL)).seq (Code.cond (.tmp 17) .skip (.exit 0))).seq ((Code.block 1 ((headC adX).seq (Code.cond (.tmp 37) (thnC (tailC adX)) .skip))).seq (tailC (tailC adL))))))).seq ((headC (dropC 4 ad17)).seq .ret)))) := by kernel_rfl

set_option maxRecDepth 100000 in
set_option maxHeartbeats 1000000 in
theorem a17r0 (X Y : Nat → Nat) (zp zq t : Option Addr) (tn tc : Nat) (len : Int) (wa : World) {x1 x2 x3 x4 x5 x6 x7 x8 x9 x10 x11 x12 x13 x14 x15 x16 x17 x18 x19 x20 x21 x22 x23 x24 x25 x26 x27 x28 x29 x30 x31 x32 x33 x34 x35 x36 x37 : Value} (K : Act → World → Prop)
    (hK : K { tmps := #[.agg (pkt ((be X : Nat) : Int) ((be (fun k => X (k + 8)) : Nat) : Int) zp ((be Y : Nat) : Int) ((be (fun k => Y (k + 8)) : Nat) : Int) zq t tn tc len), x1, x2, .pointer (some ⟨wa.heap.size, 0, none⟩), x4, x5, .bool false, x7, x8, x9, x10, x11, x12, x13, x14, x15, x16, x17, x18, x19, x20, x21, x22, x23, x24, x25, x26, x27, x28, x29, x30, x31, x32, x33, x34, x35, x36, x37], defers := [] } (wa.alloc (.cells (pkt ((be X : Nat) : Int) ((be (fun k => X (k + 8)) : Nat) : Int) zp ((be Y : Nat) : Int) ((be (fun k => Y (k + 8)) : Nat) : Int) zq t tn tc len) 67))) :
    Code.wp Ybaf.prog (headC ad17) (only K) { tmps := #[.agg (pkt ((be X : Nat) : Int) ((be (fun k => X (k + 8)) : Nat) : Int) zp ((be Y : Nat) : Int) ((be (fun k => Y (k + 8)) : Nat) : Int) zq t tn tc len), x1, x2, x3, x4, x5, x6, x7, x8, x9, x10, x11, x12, x13, x14, x15, x16, x17, x18, x19, x20, x21, x22, x23, x24, x25, x26, x27, x28, x29, x30, x31, x32, x33, x34, x35, x36, x37], defers := [] } wa := by
  simp only [ad17, adL, adX, Ybaf.f17, Option.getD, dropC, headC, tailC, blkC, lupC, thnC, elsC]
  refine wp_region_lit ?_
  refine pl 3 rfl rfl (ex_box (x := .tmp 0) (t := 67) (by kernel_rfl) (by kernel_rfl) (bx67 ((be X : Nat) : Int) ((be (fun k => X (k + 8)) : Nat) : Int) zp ((be Y : Nat) : Int) ((be (fun k => Y (k + 8)) : Nat) : Int) zq t tn tc len _)) ?_
  simp only [Act.put, List.setIfInBounds_toArray, List.set_cons_zero, List.set_cons_succ]
  refine plk 6 (.bool false) rfl rfl (by kernel_rfl) ?_
  simp only [Act.put, List.setIfInBounds_toArray, List.set_cons_zero, List.set_cons_succ]
  exact wpList_nil (hK )

set_option maxRecDepth 100000 in
set_option maxHeartbeats 1000000 in
theorem a17r1 (X Y : Nat → Nat) (zp zq t : Option Addr) (tn tc : Nat) (len : Int) (N : Nat) (wa : World) (hX : ∀ k, k < 16 → X k ≤ 255) (hN : wa.heap[N]? = some (.cells (pkt ((be X : Nat) : Int) ((be (fun k => X (k + 8)) : Nat) : Int) zp ((be Y : Nat) : Int) ((be (fun k => Y (k + 8)) : Nat) : Int) zq t tn tc len) 67 (0, 0))) {x0 x1 x2 x4 x5 x6 x7 x8 x9 x10 x11 x12 x13 x14 x15 x16 x17 x18 x19 x20 x21 x22 x23 x24 x25 x26 x27 x28 x29 x30 x31 x32 x33 x34 x35 x36 x37 : Value} (K : Act → World → Prop)
    (hK : ∀ (y10 y11 y12 : Value) (nb : Nat) (wy : World), Below wa.heap.size wa wy → wa.heap.size ≤ nb → wy.heap[nb]? = some (.cells (row16 X) 96 (0, 0)) → K { tmps := #[x0, x1, x2, .pointer (some ⟨N, 0, none⟩), x4, x5, x6, .pointer (some ⟨nb, 0, none⟩), x8, x9, y10, y11, y12, x13, x14, x15, x16, x17, x18, x19, x20, x21, x22, x23, x24, x25, x26, x27, x28, x29, x30, x31, x32, x33, x34, x35, x36, x37], defers := [] } (wy)) :
    Code.wp Ybaf.prog (headC (dropC 1 ad17)) (only K) { tmps := #[x0, x1, x2, .pointer (some ⟨N, 0, none⟩), x4, x5, x6, x7, x8, x9, x10, x11, x12, x13, x14, x15, x16, x17, x18, x19, x20, x21, x22, x23, x24, x25, x26, x27, x28, x29, x30, x31, x32, x33, x34, x35, x36, x37], defers := [] } wa := by
  have c0 : wa.cell? ⟨N, 0, none⟩ = some (.int .u64 ((be X : Nat) : Int)) := by rw [cell_of_row _ _ 0 _ 67 (0, 0) hN]; rfl
  have c1 : wa.cell? ⟨N, 1, none⟩ = some (.int .u64 ((be (fun k => X (k + 8)) : Nat) : Int)) := by rw [cell_of_row _ _ 1 _ 67 (0, 0) hN]; rfl
  have c2 : wa.cell? ⟨N, 2, none⟩ = some (.pointer zp) := by rw [cell_of_row _ _ 2 _ 67 (0, 0) hN]; rfl
  have c3 : wa.cell? ⟨N, 3, none⟩ = some (.int .u64 ((be Y : Nat) : Int)) := by rw [cell_of_row _ _ 3 _ 67 (0, 0) hN]; rfl
  have c4 : wa.cell? ⟨N, 4, none⟩ = some (.int .u64 ((be (fun k => Y (k + 8)) : Nat) : Int)) := by rw [cell_of_row _ _ 4 _ 67 (0, 0) hN]; rfl
  have c5 : wa.cell? ⟨N, 5, none⟩ = some (.pointer zq) := by rw [cell_of_row _ _ 5 _ 67 (0, 0) hN]; rfl
  simp only [ad17, adL, adX, Ybaf.f17, Option.getD, dropC, headC, tailC, blkC, lupC, thnC, elsC]
  refine wp_region_lit ?_
  refine pl 10 rfl rfl (ex_field (x := .tmp 3) (i := 0) (t := 67) (by kernel_rfl) (by kernel_rfl) (fa67_0 N _)) ?_
  simp only [Act.put, List.setIfInBounds_toArray, List.set_cons_zero, List.set_cons_succ]
  refine pl 11 rfl rfl (ex_load (x := .tmp 10) (t := 65) (by kernel_rfl) (by kernel_rfl) (ld65m c0 c1 c2)) ?_
  simp only [Act.put, List.setIfInBounds_toArray, List.set_cons_zero, List.set_cons_succ]
  refine plc 12 (f := 33) (args := #[.agg (adr X (.pointer zp))]) (R := fun v x => v = .agg (row16 X) ∧ Below wa.heap.size wa x) rfl rfl (by kernel_rfl) ((as16_any X zp wa hX).mono fun _ _ ⟨h1, h2⟩ => ⟨_, h1, rfl, h2⟩) ?_
  rintro v x ⟨rfl, bx⟩
  simp only [Act.put, List.setIfInBounds_toArray, List.set_cons_zero, List.set_cons_succ]
  refine pl 7 rfl rfl (ex_alloc (t := 96) (by kernel_rfl) (al96 _)) ?_
  simp only [Act.put, List.setIfInBounds_toArray, List.set_cons_zero, List.set_cons_succ]
  refine pls (x := .tmp 7) (y := .tmp 12) (t := 96) rfl rfl (by kernel_rfl) (by kernel_rfl) (by kernel_rfl) (run_storeAt_new x 96 Z16 (row16 X) (by kernel_rfl) rfl (by kernel_rfl)) ?_
  exact wpList_nil (hK _ _ _  x.heap.size _ (al bx _) bx.size (heap_alloc_new _ _))

set_option maxRecDepth 100000 in
set_option maxHeartbeats 1000000 in
theorem a17r2 (X Y : Nat → Nat) (zp zq t : Option Addr) (tn tc : Nat) (len : Int) (N : Nat) (wa : World) (hX : ∀ k, k < 16 → Y k ≤ 255) (hN : wa.heap[N]? = some (.cells (pkt ((be X : Nat) : Int) ((be (fun k => X (k + 8)) : Nat) : Int) zp ((be Y : Nat) : Int) ((be (fun k => Y (k + 8)) : Nat) : Int) zq t tn tc len) 67 (0, 0))) {x0 x1 x2 x4 x5 x6 x7 x8 x9 x10 x11 x12 x13 x14 x15 x16 x17 x18 x19 x20 x21 x22 x23 x24 x25 x26 x27 x28 x29 x30 x31 x32 x33 x34 x35 x36 x37 : Value} (K : Act → World → Prop)
    (hK : ∀ (y13 y14 y15 : Value) (nb : Nat) (wy : World), Below wa.heap.size wa wy → wa.heap.size ≤ nb → wy.heap[nb]? = some (.cells (row16 Y) 96 (0, 0)) → K { tmps := #[x0, x1, x2, .pointer (some ⟨N, 0, none⟩), x4, x5, x6, x7, .pointer (some ⟨nb, 0, none⟩), x9, x10, x11, x12, y13, y14, y15, x16, x17, x18, x19, x20, x21, x22, x23, x24, x25, x26, x27, x28, x29, x30, x31, x32, x33, x34, x35, x36, x37], defers := [] } (wy)) :
    Code.wp Ybaf.prog (headC (dropC 2 ad17)) (only K) { tmps := #[x0, x1, x2, .pointer (some ⟨N, 0, none⟩), x4, x5, x6, x7, x8, x9, x10, x11, x12, x13, x14, x15, x16, x17, x18, x19, x20, x21, x22, x23, x24, x25, x26, x27, x28, x29, x30, x31, x32, x33, x34, x35, x36, x37], defers := [] } wa := by
  have c0 : wa.cell? ⟨N, 0, none⟩ = some (.int .u64 ((be X : Nat) : Int)) := by rw [cell_of_row _ _ 0 _ 67 (0, 0) hN]; rfl
  have c1 : wa.cell? ⟨N, 1, none⟩ = some (.int .u64 ((be (fun k => X (k + 8)) : Nat) : Int)) := by rw [cell_of_row _ _ 1 _ 67 (0, 0) hN]; rfl
  have c2 : wa.cell? ⟨N, 2, none⟩ = some (.pointer zp) := by rw [cell_of_row _ _ 2 _ 67 (0, 0) hN]; rfl
  have c3 : wa.cell? ⟨N, 3, none⟩ = some (.int .u64 ((be Y : Nat) : Int)) := by rw [cell_of_row _ _ 3 _ 67 (0, 0) hN]; rfl
  have c4 : wa.cell? ⟨N, 4, none⟩ = some (.int .u64 ((be (fun k => Y (k + 8)) : Nat) : Int)) := by rw [cell_of_row _ _ 4 _ 67 (0, 0) hN]; rfl
  have c5 : wa.cell? ⟨N, 5, none⟩ = some (.pointer zq) := by rw [cell_of_row _ _ 5 _ 67 (0, 0) hN]; rfl
  simp only [ad17, adL, adX, Ybaf.f17, Option.getD, dropC, headC, tailC, blkC, lupC, thnC, elsC]
  refine wp_region_lit ?_
  refine pl 13 rfl rfl (ex_field (x := .tmp 3) (i := 1) (t := 67) (by kernel_rfl) (by kernel_rfl) (fa67_1 N _)) ?_
  simp only [Act.put, List.setIfInBounds_toArray, List.set_cons_zero, List.set_cons_succ]
  refine pl 14 rfl rfl (ex_load (x := .tmp 13) (t := 65) (by kernel_rfl) (by kernel_rfl) (ld65m c3 c4 c5)) ?_
  simp only [Act.put, List.setIfInBounds_toArray, List.set_cons_zero, List.set_cons_succ]
  refine plc 15 (f := 33) (args := #[.agg (adr Y (.pointer zq))]) (R := fun v x => v = .agg (row16 Y) ∧ Below wa.heap.size wa x) rfl rfl (by kernel_rfl) ((as16_any Y zq wa hX).mono fun _ _ ⟨h1, h2⟩ => ⟨_, h1, rfl, h2⟩) ?_
  rintro v x ⟨rfl, bx⟩
  simp only [Act.put, List.setIfInBounds_toArray, List.set_cons_zero, List.set_cons_succ]
  refine pl 8 rfl rfl (ex_alloc (t := 96) (by kernel_rfl) (al96 _)) ?_
  simp only [Act.put, List.setIfInBounds_toArray, List.set_cons_zero, List.set_cons_succ]
  refine pls (x := .tmp 8) (y := .tmp 15) (t := 96) rfl rfl (by kernel_rfl) (by kernel_rfl) (by kernel_rfl) (run_storeAt_new x 96 Z16 (row16 Y) (by kernel_rfl) rfl (by kernel_rfl)) ?_
  exact wpList_nil (hK _ _ _  x.heap.size _ (al bx _) bx.size (heap_alloc_new _ _))

set_option maxRecDepth 100000 in
set_option maxHeartbeats 1000000 in
theorem a17r3 (wa : World) {x0 x1 x2 x3 x4 x5 x6 x7 x8 x9 x10 x11 x12 x13 x14 x15 x16 x17 x18 x19 x20 x21 x22 x23 x24 x25 x26 x27 x28 x29 x30 x31 x32 x33 x34 x35 x36 x37 : Value} (K : Act → World → Prop)
    (hK : K { tmps := #[x0, x1, x2, x3, x4, x5, x6, x7, x8, .int .i64 ((0 : Nat) : Int), x10, x11, x12, x13, x14, x15, x16, x17, x18, x19, x20, x21, x22, x23, x24, x25, x26, x27, x28, x29, x30, x31, x32, x33, x34, x35, x36, x37], defers := [] } (wa)) :
    Code.wp Ybaf.prog (headC (headC (dropC 3 ad17))) (only K) { tmps := #[x0, x1, x2, x3, x4, x5, x6, x7, x8, x9, x10, x11, x12, x13, x14, x15, x16, x17, x18, x19, x20, x21, x22, x23, x24, x25, x26, x27, x28, x29, x30, x31, x32, x33, x34, x35, x36, x37], defers := [] } wa := by
  have HK := hid hK
  clear hK
  simp only [ad17, adL, adX, Ybaf.f17, Option.getD, dropC, headC, tailC, blkC, lupC, thnC, elsC]
  go_wp2_with fail
  exact HK.out 

set_option maxRecDepth 100000 in
set_option maxHeartbeats 1000000 in
theorem a17r4 (j : Nat) (wa : World) {x0 x1 x2 x3 x4 x5 x6 x7 x8 x10 x11 x12 x13 x14 x15 x16 x17 x18 x19 x20 x21 x22 x23 x24 x25 x26 x27 x28 x29 x30 x31 x32 x33 x34 x35 x36 x37 : Value} (K : Act → World → Prop)
    (hK : ∀ (y16 : Value), K { tmps := #[x0, x1, x2, x3, x4, x5, x6, x7, x8, .int .i64 ((j : Nat) : Int), x10, x11, x12, x13, x14, x15, y16, .bool (decide ((j : Int) < 16)), x18, x19, x20, x21, x22, x23, x24, x25, x26, x27, x28, x29, x30, x31, x32, x33, x34, x35, x36, x37], defers := [] } (wa)) :
    Code.wp Ybaf.prog (headC (headC adL)) (only K) { tmps := #[x0, x1, x2, x3, x4, x5, x6, x7, x8, .int .i64 ((j : Nat) : Int), x10, x11, x12, x13, x14, x15, x16, x17, x18, x19, x20, x21, x22, x23, x24, x25, x26, x27, x28, x29, x30, x31, x32, x33, x34, x35, x36, x37], defers := [] } wa := by
  have HK := hid hK
  clear hK
  simp only [ad17, adL, adX, Ybaf.f17, Option.getD, dropC, headC, tailC, blkC, lupC, thnC, elsC]
  go_wp2_with fail
  exact HK.out _ 

set_option maxRecDepth 100000 in
set_option maxHeartbeats 1000000 in
theorem a17r5 (j : Nat) (wa : World) (hj : j < 16) {x0 x1 x2 x3 x4 x5 x6 x7 x8 x10 x11 x12 x13 x14 x15 x16 x17 x18 x19 x20 x21 x22 x23 x24 x25 x26 x27 x28 x29 x30 x31 x32 x33 x34 x35 x36 x37 : Value} (K : Act → World → Prop)
    (hK : ∀ (y18 y19 : Value), K { tmps := #[x0, x1, x2, x3, x4, x5, x6, x7, x8, .int .i64 ((j + 1 : Nat) : Int), x10, x11, x12, x13, x14, x15, x16, x17, y18, y19, x20, x21, x22, x23, x24, x25, x26, x27, x28, x29, x30, x31, x32, x33, x34, x35, x36, x37], defers := [] } (wa)) :
    Code.wp Ybaf.prog (tailC (tailC adL)) (only K) { tmps := #[x0, x1, x2, x3, x4, x5, x6, x7, x8, .int .i64 ((j : Nat) : Int), x10, x11, x12, x13, x14, x15, x16, x17, x18, x19, x20, x21, x22, x23, x24, x25, x26, x27, x28, x29, x30, x31, x32, x33, x34, x35, x36, x37], defers := [] } wa := by
  have HK := hid hK
  clear hK
  simp only [ad17, adL, adX, Ybaf.f17, Option.getD, dropC, headC, tailC, blkC, lupC, thnC, elsC]
  go_wp2_with fail
  exact HK.out _ _ 

set_option maxRecDepth 100000 in
set_option maxHeartbeats 1000000 in
theorem a17r8 (wa : World) {x0 x1 x2 x3 x4 x5 x6 x7 x8 x9 x10 x11 x12 x13 x14 x15 x16 x17 x18 x19 x20 x21 x22 x23 x24 x25 x26 x27 x28 x29 x30 x31 x32 x33 x34 x35 x36 x37 : Value} (K : Act → World → Prop)
    (hK : K { tmps := #[x0, x1, x2, x3, x4, x5, .bool true, x7, x8, x9, x10, x11, x12, x13, x14, x15, x16, x17, x18, x19, x20, x21, x22, x23, x24, x25, x26, x27, x28, x29, x30, x31, x32, x33, x34, x35, x36, x37], defers := [] } (wa)) :
    Code.wp Ybaf.prog (headC (dropC 4 ad17)) (only K) { tmps := #[x0, x1, x2, x3, x4, x5, x6, x7, x8, x9, x10, x11, x12, x13, x14, x15, x16, x17, x18, x19, x20, x21, x22, x23, x24, x25, x26, x27, x28, x29, x30, x31, x32, x33, x34, x35, x36, x37], defers := [] } wa := by
  have HK := hid hK
  clear hK
  simp only [ad17, adL, adX, Ybaf.f17, Option.getD, dropC, headC, tailC, blkC, lupC, thnC, elsC]
  go_wp2_with fail
  exact HK.out 

set_option maxRecDepth 100000 in
set_option maxHeartbeats 1000000 in
theorem a17r6 (x y : Nat) (N1 N2 b o1 b' o2 c1 c2 j : Nat) (wa : World) (hj : j < 16) (h1 : wa.cell? ⟨N1, j, none⟩ = some (.int .u8 (x : Nat))) (h2 : wa.cell? ⟨b, o1 + j, none⟩ = some (.int .u8 (x : Nat))) (h3 : wa.cell? ⟨N2, j, none⟩ = some (.int .u8 (y : Nat))) (h4 : wa.cell? ⟨b', o2 + j, none⟩ = some (.int .u8 (y : Nat))) {x0 x3 x4 x5 x6 x10 x11 x12 x13 x14 x15 x16 x17 x18 x19 x20 x21 x22 x23 x24 x25 x26 x27 x28 x29 x30 x31 x32 x33 x34 x35 x36 x37 : Value} (K : Act → World → Prop)
    (hK : ∀ (y20 y21 y22 y23 y24 y25 y26 y27 y28 y29 y30 y31 y32 y33 y34 y35 y36 : Value) (nq : Nat), K { tmps := #[x0, .slice (some ⟨b, o1, none⟩) 16 c1, .slice (some ⟨b', o2, none⟩) 16 c2, x3, x4, x5, x6, .pointer (some ⟨N1, 0, none⟩), .pointer (some ⟨N2, 0, none⟩), .int .i64 ((j : Nat) : Int), x10, x11, x12, x13, x14, x15, x16, x17, x18, x19, y20, y21, y22, y23, y24, y25, y26, y27, y28, y29, y30, y31, y32, y33, y34, y35, y36, .bool false], defers := [] } (wa.drewN nq)) :
    Code.wp Ybaf.prog (headC adX) (only K) { tmps := #[x0, .slice (some ⟨b, o1, none⟩) 16 c1, .slice (some ⟨b', o2, none⟩) 16 c2, x3, x4, x5, x6, .pointer (some ⟨N1, 0, none⟩), .pointer (some ⟨N2, 0, none⟩), .int .i64 ((j : Nat) : Int), x10, x11, x12, x13, x14, x15, x16, x17, x18, x19, x20, x21, x22, x23, x24, x25, x26, x27, x28, x29, x30, x31, x32, x33, x34, x35, x36, x37], defers := [] } wa := by
  have HK := hid hK
  clear hK
  have j0 : (0 : Int) ≤ (j : Int) := by omega
  have j1 : (j : Int) < 16 := by omega
  simp only [ad17, adL, adX, Ybaf.f17, Option.getD, dropC, headC, tailC, blkC, lupC, thnC, elsC]
  go_quiet (fail)
  go_wp2_with fail
  exact HK.out _ _ _ _ _ _ _ _ _ _ _ _ _ _ _ _ _  nq
end Go.Proofs.YbulkblsgFmt

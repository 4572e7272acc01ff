import Derived.Test.YbulkblzuLaw1
import Derived.ChangeKeysEq
import Derived.Laws.StructEq
namespace Go.Proofs.Ybulkblzu
open Go.RowKit Go.Maps Go.WideMaps
set_option linter.unusedVariables false
set_option linter.unusedSimpArgs false
theorem cv0 (w : World) : (convert 3 5 (.int .i64 ((0 : Nat) : Int))).run Yba.prog w = .ok (.int .u8 ((0 : Nat) : Int)) w := by kernel_rfl
theorem cv1 (w : World) : (convert 3 5 (.int .i64 ((1 : Nat) : Int))).run Yba.prog w = .ok (.int .u8 ((1 : Nat) : Int)) w := by kernel_rfl
theorem cv2 (w : World) : (convert 3 5 (.int .i64 ((2 : Nat) : Int))).run Yba.prog w = .ok (.int .u8 ((2 : Nat) : Int)) w := by kernel_rfl
theorem cv3 (w : World) : (convert 3 5 (.int .i64 ((3 : Nat) : Int))).run Yba.prog w = .ok (.int .u8 ((3 : Nat) : Int)) w := by kernel_rfl
theorem cv35 {k : Nat} (h : k < 4) (w : World) : (convert 3 5 (.int .i64 (k : Nat))).run Yba.prog w = .ok (.int .u8 (k : Nat)) w := by
  match k, h with
  | 0, _ => exact cv0 w
  | 1, _ => exact cv1 w
  | 2, _ => exact cv2 w
  | 3, _ => exact cv3 w
theorem part_k (n : Nat) (w : World) : ∀ i, i < 20 → ∃ a : Int, (part 5 (kC n) (i * Yba.prog.cellsOf 5)).run Yba.prog w = .ok (.int .u8 a) w
  | 0, _ => ⟨n, by kernel_rfl⟩
  | 1, _ => ⟨0, by kernel_rfl⟩
  | 2, _ => ⟨0, by kernel_rfl⟩
  | 3, _ => ⟨0, by kernel_rfl⟩
  | 4, _ => ⟨0, by kernel_rfl⟩
  | 5, _ => ⟨0, by kernel_rfl⟩
  | 6, _ => ⟨0, by kernel_rfl⟩
  | 7, _ => ⟨0, by kernel_rfl⟩
  | 8, _ => ⟨0, by kernel_rfl⟩
  | 9, _ => ⟨0, by kernel_rfl⟩
  | 10, _ => ⟨0, by kernel_rfl⟩
  | 11, _ => ⟨0, by kernel_rfl⟩
  | 12, _ => ⟨0, by kernel_rfl⟩
  | 13, _ => ⟨0, by kernel_rfl⟩
  | 14, _ => ⟨0, by kernel_rfl⟩
  | 15, _ => ⟨0, by kernel_rfl⟩
  | 16, _ => ⟨0, by kernel_rfl⟩
  | 17, _ => ⟨0, by kernel_rfl⟩
  | 18, _ => ⟨0, by kernel_rfl⟩
  | 19, _ => ⟨0, by kernel_rfl⟩
  | i + 20, h => absurd h (by omega)
theorem eqItems_same (n : Nat) (w : World) : ∀ is : List Nat, (∀ i ∈ is, i < 20) → (Op.eqItems 9998 5 (Yba.prog.cellsOf 5) (kC n) (kC n) is).run Yba.prog w = .ok true w
  | [], _ => by simp [Op.eqItems]
  | i :: is, h => by
    obtain ⟨a, ha⟩ := part_k n w i (h i (by simp))
    have ih := eqItems_same n w is (fun j hj => h j (by simp [hj]))
    simp only [Op.eqItems, Sem.run_bind, ha, Result.andThen_ok, run_equalIn_int w 9997 5 .u8 .u8 a a Yba.underlying5, beq_self_eq_true, Bool.not_true, Bool.false_eq_true, if_false, ih]
theorem eq28 (n : Nat) (w : World) : (Op.equalIn 9999 28 (kA n) (kA n)).run Yba.prog w = .ok true w := by
  obtain ⟨i5, hi5⟩ : ∃ i, Yba.prog.info? 5 = some i := Option.isSome_iff_exists.1 (by kernel_rfl)
  have q := run_equalIn_array (P := Yba.prog) w 9998 (kC n) (kC n) Yba.underlying28 hi5
  exact q.trans (eqItems_same n w _ (fun i hi => List.mem_range.1 hi))
theorem ex_conv {P : Program} {o : Oper} {a : Act} {x : Operand} {s t : TypeId} {u v : Value} {w : World} (ho : o.op = .convert s t x) (hx : a.eval x = u) (hrun : (convert s t u).run P w = .ok v w) : (execOp a.eval o).run P w = .ok (.value v) w := by
  simp [execOp, ho, hx, hrun]
theorem ia25 {g j n c : Nat} (h : j < n) (w : World) : (Instr.indexAt 25 (.slice (some ⟨g, 0, none⟩) n c) (.int .i64 (j : Nat))).run Yba.prog w = .ok (.pointer (some ⟨g, j * 22, none⟩)) w := by
  have h' : (j : Int) < (n : Int) := by omega
  go_simp
theorem ex_neq33 {o : Oper} {a : Act} {x y : Operand} {e : Ent} {w : World} (ho : o.op = .binOp .neq 33 x y 33) (hx : a.eval x = .agg (adC e).toArray) (hy : a.eval y = .agg (adC e).toArray) : (execOp a.eval o).run Yba.prog w = .ok (.value (.bool false)) w := by
  have h28 : (Op.equalIn 9999 28 (.agg #[.int .u8 e.id, z8, z8, z8, z8, z8, z8, z8, z8, z8, z8, z8, z8, z8, z8, z8, z8, z8, z8, z8]) (.agg #[.int .u8 e.id, z8, z8, z8, z8, z8, z8, z8, z8, z8, z8, z8, z8, z8, z8, z8, z8, z8, z8, z8])).run Yba.prog w = .ok true w := eq28 e.id w
  simp only [execOp, ho, hx, hy, adC]
  go_simp

set_option maxRecDepth 100000 in
set_option maxHeartbeats 1000000 in
theorem l3r10 (e : Ent) (b7 sel : Nat) (wa : World) (h7 : wa.heap[b7]? = some (.cells (enR e) 31 (0, 0))) (hsel : sel < 4) (hown : e.own ≤ 255) {x0 x1 x2 x3 x4 x5 x7 x8 x9 x11 x12 x13 x14 x15 x16 x17 x18 x19 x20 x21 x22 x23 x24 x25 x26 x27 x28 x29 x30 x31 x32 x33 x34 x35 x36 x37 x38 x39 x40 x41 x42 x43 x44 x45 x46 x47 x48 x49 x50 x51 x52 x53 x54 x55 x56 x57 x58 x59 x60 x61 x62 x63 x64 x65 x66 x67 x68 x69 x70 x71 x72 x73 x74 x75 x76 x77 x78 x79 x80 x81 x82 x83 x84 x85 x86 x87 x88 x89 x90 x91 x92 x93 x94 x95 x96 x97 x98 x99 x100 x101 x102 x103 x104 x105 x106 x107 x108 x109 x110 x111 x112 x113 x114 x115 x116 x117 x118 x119 x120 x121 x122 x123 x124 x125 x126 x127 x128 x129 x130 x131 x132 x133 x134 x135 x136 x137 x138 x139 x140 x141 x142 x143 x144 x145 x146 x147 x148 x149 x150 x151 x152 x153 x154 x155 x156 x157 x158 x159 x160 x161 x162 : Value} (K : Act → World → Prop)
    (hK : ∀ (y37 y38 y39 y40 y41 y42 y43 y44 y45 y46 y47 y48 y49 : Value), K { tmps := #[x0, x1, x2, x3, x4, x5, .int .i64 ((sel : Nat) : Int), x7, x8, x9, .pointer (some ⟨b7, 0, none⟩), x11, x12, x13, x14, x15, x16, x17, x18, x19, x20, x21, x22, x23, x24, x25, x26, x27, x28, x29, x30, x31, x32, x33, x34, x35, x36, y37, y38, y39, y40, y41, y42, y43, y44, y45, y46, y47, y48, y49, .bool (decide (sel < 3) && (decide (e.own % 3 = sel) && e.held)), x51, x52, x53, x54, x55, x56, x57, x58, x59, x60, x61, x62, x63, x64, x65, x66, x67, x68, x69, x70, x71, x72, x73, x74, x75, x76, x77, x78, x79, x80, x81, x82, x83, x84, x85, x86, x87, x88, x89, x90, x91, x92, x93, x94, x95, x96, x97, x98, x99, x100, x101, x102, x103, x104, x105, x106, x107, x108, x109, x110, x111, x112, x113, x114, x115, x116, x117, x118, x119, x120, x121, x122, x123, x124, x125, x126, x127, x128, x129, x130, x131, x132, x133, x134, x135, x136, x137, x138, x139, x140, x141, x142, x143, x144, x145, x146, x147, x148, x149, x150, x151, x152, x153, x154, x155, x156, x157, x158, x159, x160, x161, x162], defers := [] } (wa)) :
    Code.wp Yba.prog (headC (tailC wX)) (only K) { tmps := #[x0, x1, x2, x3, x4, x5, .int .i64 ((sel : Nat) : Int), x7, x8, x9, .pointer (some ⟨b7, 0, none⟩), x11, x12, x13, x14, x15, x16, x17, x18, x19, x20, x21, x22, x23, x24, x25, x26, x27, x28, x29, x30, x31, x32, x33, x34, x35, x36, x37, x38, x39, x40, x41, x42, x43, x44, x45, x46, x47, x48, x49, x50, x51, x52, x53, x54, x55, x56, x57, x58, x59, x60, x61, x62, x63, x64, x65, x66, x67, x68, x69, x70, x71, x72, x73, x74, x75, x76, x77, x78, x79, x80, x81, x82, x83, x84, x85, x86, x87, x88, x89, x90, x91, x92, x93, x94, x95, x96, x97, x98, x99, x100, x101, x102, x103, x104, x105, x106, x107, x108, x109, x110, x111, x112, x113, x114, x115, x116, x117, x118, x119, x120, x121, x122, x123, x124, x125, x126, x127, x128, x129, x130, x131, x132, x133, x134, x135, x136, x137, x138, x139, x140, x141, x142, x143, x144, x145, x146, x147, x148, x149, x150, x151, x152, x153, x154, x155, x156, x157, x158, x159, x160, x161, x162], defers := [] } wa := by
  have c0 : wa.cell? ⟨b7, 0, none⟩ = some (.int .u8 e.id) := by rw [cell_of_row wa b7 0 _ 31 (0, 0) h7]; rfl
  have c1 : wa.cell? ⟨b7, 1, none⟩ = some (.string e.host) := by rw [cell_of_row wa b7 1 _ 31 (0, 0) h7]; rfl
  have c2 : wa.cell? ⟨b7, 2, none⟩ = some (.int .u16 e.port) := by rw [cell_of_row wa b7 2 _ 31 (0, 0) h7]; rfl
  have c3 : wa.cell? ⟨b7, 3, none⟩ = some (.bool e.held) := by rw [cell_of_row wa b7 3 _ 31 (0, 0) h7]; rfl
  have c4 : wa.cell? ⟨b7, 4, none⟩ = some (.int .u8 e.own) := by rw [cell_of_row wa b7 4 _ 31 (0, 0) h7]; rfl
  have l7 : b7 < wa.heap.size := (Array.getElem?_eq_some_iff.1 h7).1
  clear h7
  by_cases h3 : sel < 3
  · have g3 : (sel : Int) < 3 := by omega
    by_cases ho : e.own % 3 = sel
    · have go : (e.own : Int) % 3 = (sel : Int) := by omega
      rw [decide_eq_true h3, decide_eq_true ho, Bool.true_and, Bool.true_and] at hK
      have HK := hid hK
      clear hK
      simp only [f3b, wL, wX, cI, cA, cB, cL, cX, uL, uX, eL, eX, Yba.f3, Option.getD, dropC, headC, tailC, blkC, lupC, thnC, elsC]
      go_wp2_with fail
      exact HK.out _ _ _ _ _ _ _ _ _ _ _ _ _ 
    · have go : ¬ (e.own : Int) % 3 = (sel : Int) := by omega
      rw [decide_eq_true h3, decide_eq_false ho, Bool.true_and, Bool.false_and] at hK
      have HK := hid hK
      clear hK
      simp only [f3b, wL, wX, cI, cA, cB, cL, cX, uL, uX, eL, eX, Yba.f3, Option.getD, dropC, headC, tailC, blkC, lupC, thnC, elsC]
      go_wp2_with fail
      exact HK.out _ _ _ _ _ _ _ _ _ _ _ _ _ 
  · have g3 : ¬ (sel : Int) < 3 := by omega
    rw [decide_eq_false h3, Bool.false_and] at hK
    have HK := hid hK
    clear hK
    simp only [f3b, wL, wX, cI, cA, cB, cL, cX, uL, uX, eL, eX, Yba.f3, Option.getD, dropC, headC, tailC, blkC, lupC, thnC, elsC]
    go_wp2_with fail
    exact HK.out _ _ _ _ _ _ _ _ _ _ _ _ _ 

set_option maxRecDepth 100000 in
set_option maxHeartbeats 1000000 in
theorem l3r11 (e : Ent) (b7 X m : Nat) (R : Value) (xs : List Value) (wa : World) (h7 : wa.heap[b7]? = some (.cells (enR e) 31 (0, 0))) (hown : wa.ownsRow X 33 22 R m xs) (hm : m < 1024) (hX : X ≤ wa.heap.size) {x0 x1 x2 x3 x4 x5 x6 x7 x9 x11 x12 x13 x14 x15 x16 x17 x18 x19 x20 x21 x22 x23 x24 x25 x26 x27 x28 x29 x30 x31 x32 x33 x34 x35 x36 x37 x38 x39 x40 x41 x42 x43 x44 x45 x46 x47 x48 x49 x50 x51 x52 x53 x54 x55 x56 x57 x58 x59 x60 x61 x62 x63 x64 x65 x66 x67 x68 x69 x70 x71 x72 x73 x74 x75 x76 x77 x78 x79 x80 x81 x82 x83 x84 x85 x86 x87 x88 x89 x90 x91 x92 x93 x94 x95 x96 x97 x98 x99 x100 x101 x102 x103 x104 x105 x106 x107 x108 x109 x110 x111 x112 x113 x114 x115 x116 x117 x118 x119 x120 x121 x122 x123 x124 x125 x126 x127 x128 x129 x130 x131 x132 x133 x134 x135 x136 x137 x138 x139 x140 x141 x142 x143 x144 x145 x146 x147 x148 x149 x150 x151 x152 x153 x154 x155 x156 x157 x158 x159 x160 x161 x162 : Value} (K : Act → World → Prop)
    (hK : ∀ (y51 y52 y53 y54 y55 y56 y57 y58 y59 y60 y61 : Value) (gn cn : Nat) (wy : World), wy.ownsRow X 33 22 (.slice (some ⟨gn, 0, none⟩) (m + 1) cn) (m + 1) (xs ++ adC e) → (wa.alloc (.cells (adC e).toArray 33)).grownBy wy R.ownBlock → K { tmps := #[x0, x1, x2, x3, x4, x5, x6, x7, .slice (some ⟨gn, 0, none⟩) (m + 1) cn, x9, .pointer (some ⟨b7, 0, none⟩), x11, x12, x13, x14, x15, x16, x17, x18, x19, x20, x21, x22, x23, x24, x25, x26, x27, x28, x29, x30, x31, x32, x33, x34, x35, x36, x37, x38, x39, x40, x41, x42, x43, x44, x45, x46, x47, x48, x49, x50, y51, y52, y53, y54, y55, y56, y57, y58, y59, y60, y61, x62, x63, x64, x65, x66, x67, x68, x69, x70, x71, x72, x73, x74, x75, x76, x77, x78, x79, x80, x81, x82, x83, x84, x85, x86, x87, x88, x89, x90, x91, x92, x93, x94, x95, x96, x97, x98, x99, x100, x101, x102, x103, x104, x105, x106, x107, x108, x109, x110, x111, x112, x113, x114, x115, x116, x117, x118, x119, x120, x121, x122, x123, x124, x125, x126, x127, x128, x129, x130, x131, x132, x133, x134, x135, x136, x137, x138, x139, x140, x141, x142, x143, x144, x145, x146, x147, x148, x149, x150, x151, x152, x153, x154, x155, x156, x157, x158, x159, x160, x161, x162], defers := [] } (wy)) :
    Code.wp Yba.prog (thnC (tailC (tailC wX))) (only K) { tmps := #[x0, x1, x2, x3, x4, x5, x6, x7, R, x9, .pointer (some ⟨b7, 0, none⟩), x11, x12, x13, x14, x15, x16, x17, x18, x19, x20, x21, x22, x23, x24, x25, x26, x27, x28, x29, x30, x31, x32, x33, x34, x35, x36, x37, x38, x39, x40, x41, x42, x43, x44, x45, x46, x47, x48, x49, x50, x51, x52, x53, x54, x55, x56, x57, x58, x59, x60, x61, x62, x63, x64, x65, x66, x67, x68, x69, x70, x71, x72, x73, x74, x75, x76, x77, x78, x79, x80, x81, x82, x83, x84, x85, x86, x87, x88, x89, x90, x91, x92, x93, x94, x95, x96, x97, x98, x99, x100, x101, x102, x103, x104, x105, x106, x107, x108, x109, x110, x111, x112, x113, x114, x115, x116, x117, x118, x119, x120, x121, x122, x123, x124, x125, x126, x127, x128, x129, x130, x131, x132, x133, x134, x135, x136, x137, x138, x139, x140, x141, x142, x143, x144, x145, x146, x147, x148, x149, x150, x151, x152, x153, x154, x155, x156, x157, x158, x159, x160, x161, x162], defers := [] } wa := by
  have c0 : wa.cell? ⟨b7, 0, none⟩ = some (.int .u8 e.id) := by rw [cell_of_row wa b7 0 _ 31 (0, 0) h7]; rfl
  have c1 : wa.cell? ⟨b7, 1, none⟩ = some (.string e.host) := by rw [cell_of_row wa b7 1 _ 31 (0, 0) h7]; rfl
  have c2 : wa.cell? ⟨b7, 2, none⟩ = some (.int .u16 e.port) := by rw [cell_of_row wa b7 2 _ 31 (0, 0) h7]; rfl
  have c3 : wa.cell? ⟨b7, 3, none⟩ = some (.bool e.held) := by rw [cell_of_row wa b7 3 _ 31 (0, 0) h7]; rfl
  have c4 : wa.cell? ⟨b7, 4, none⟩ = some (.int .u8 e.own) := by rw [cell_of_row wa b7 4 _ 31 (0, 0) h7]; rfl
  obtain ⟨i33, hi33, hz33, hs33, hb33⟩ := info_parts info33
  simp only [f3b, wL, wX, cI, cA, cB, cL, cX, uL, uX, eL, eX, Yba.f3, Option.getD, dropC, headC, tailC, blkC, lupC, thnC, elsC]
  refine wp_region_lit ?_
  refine plk 51 (R) rfl rfl (by kernel_rfl) ?_
  simp only [Act.put, List.setIfInBounds_toArray, List.set_cons_zero, List.set_cons_succ]
  refine pl 52 rfl rfl (ex_field (x := .tmp 10) (i := 0) (t := 31) (by kernel_rfl) (by kernel_rfl) (fa31_0 b7 _)) ?_
  simp only [Act.put, List.setIfInBounds_toArray, List.set_cons_zero, List.set_cons_succ]
  refine pl 53 rfl rfl (ex_load (x := .tmp 52) (t := 5) (by kernel_rfl) (by kernel_rfl) (ld5 c0)) ?_
  simp only [Act.put, List.setIfInBounds_toArray, List.set_cons_zero, List.set_cons_succ]
  refine pl 54 rfl rfl (ex_build1 (x := .tmp 53) (t := 28) (by kernel_rfl) (by kernel_rfl) (bl28 e.id _)) ?_
  simp only [Act.put, List.setIfInBounds_toArray, List.set_cons_zero, List.set_cons_succ]
  refine pl 55 rfl rfl (ex_field (x := .tmp 10) (i := 1) (t := 31) (by kernel_rfl) (by kernel_rfl) (fa31_1 b7 _)) ?_
  simp only [Act.put, List.setIfInBounds_toArray, List.set_cons_zero, List.set_cons_succ]
  refine pl 56 rfl rfl (ex_load (x := .tmp 55) (t := 9) (by kernel_rfl) (by kernel_rfl) (ld9 c1)) ?_
  simp only [Act.put, List.setIfInBounds_toArray, List.set_cons_zero, List.set_cons_succ]
  refine pl 57 rfl rfl (ex_field (x := .tmp 10) (i := 2) (t := 31) (by kernel_rfl) (by kernel_rfl) (fa31_2 b7 _)) ?_
  simp only [Act.put, List.setIfInBounds_toArray, List.set_cons_zero, List.set_cons_succ]
  refine pl 58 rfl rfl (ex_load (x := .tmp 57) (t := 29) (by kernel_rfl) (by kernel_rfl) (ld29 c2)) ?_
  simp only [Act.put, List.setIfInBounds_toArray, List.set_cons_zero, List.set_cons_succ]
  refine pl 59 rfl rfl (ex_build3 (x := .tmp 54) (y := .tmp 56) (z := .tmp 58) (t := 33) (by kernel_rfl) (by kernel_rfl) (by kernel_rfl) (by kernel_rfl) (bl33 e _)) ?_
  simp only [Act.put, List.setIfInBounds_toArray, List.set_cons_zero, List.set_cons_succ]
  refine pl 60 rfl rfl (ex_buildSlice (x := .tmp 59) (t := 25) (u := .agg (adC e).toArray) (by kernel_rfl) (by kernel_rfl) (bs33 e _)) ?_
  simp only [Act.put, List.setIfInBounds_toArray, List.set_cons_zero, List.set_cons_succ]
  refine wpList_plain rfl fun K2 hK2 => ?_
  refine wp_append_lies _ (.tmp 51) (.tmp 60) 25 rfl X 33 i33 _ 22 48 Yba.underlying25 hi33 hz33 hs33 hb33 rfl (by omega) R m xs (by kernel_rfl) (hown.alloc _) ⟨wa.heap.size, 0, none⟩ 1 1 (adC e) (by kernel_rfl) (by rfl) (World.news_of_block (cs := (adC e).toArray) (t := 33) (fr := (0, 0)) (heap_alloc_new _ _)) (one33' _) (by omega) (by unfold maxLen; omega) (by omega) (by simp; omega) (wa.heap.size + 1) (by simp) ?_
  intro g2 cap2 w2 hown2 hgrow2 hat2 hlt2
  refine hK2 _ _ ?_
  simp only [Act.put, List.setIfInBounds_toArray, List.set_cons_zero, List.set_cons_succ]
  refine plk 8 (.slice (some ⟨g2, 0, none⟩) (m + 1) cap2) rfl rfl (by kernel_rfl) ?_
  simp only [Act.put, List.setIfInBounds_toArray, List.set_cons_zero, List.set_cons_succ]
  exact wpList_nil (hK _ _ _ _ _ _ _ _ _ _ _  g2 cap2 w2 hown2 hgrow2)

set_option maxRecDepth 100000 in
set_option maxHeartbeats 1000000 in
theorem l3r21 (e : Ent) (ga gb m c c2 j : Nat) (wa : World) (hj : j < m) (hA : wa.rangeAt ga (j * 22) (adC e)) (hB : wa.rangeAt gb (j * 22) (adC e)) {x0 x1 x2 x3 x4 x5 x6 x9 x10 x12 x13 x14 x15 x16 x17 x18 x19 x20 x21 x22 x23 x24 x25 x26 x27 x28 x29 x30 x31 x32 x33 x34 x35 x36 x37 x38 x39 x40 x41 x42 x43 x44 x45 x46 x47 x48 x49 x50 x51 x52 x53 x54 x55 x56 x57 x58 x59 x60 x61 x62 x63 x64 x65 x66 x67 x68 x69 x70 x71 x72 x73 x74 x75 x76 x77 x78 x79 x80 x81 x82 x83 x84 x85 x86 x87 x88 x89 x90 x91 x92 x93 x94 x95 x96 x97 x98 x99 x100 x101 x102 x103 x104 x105 x106 x107 x108 x109 x110 x111 x112 x113 x114 x115 x116 x117 x118 x119 x120 x121 x122 x123 x124 x125 x126 x127 x128 x129 x130 x131 x132 x133 x134 x135 x136 x137 x138 x139 x140 x141 x142 x143 x144 x145 x146 x147 x148 x149 x150 x151 x152 x153 x154 x155 x156 x157 x158 x159 x160 x161 x162 : Value} (K : Act → World → Prop)
    (hK : ∀ (y78 y79 y80 y81 y82 y83 y84 y85 : Value), K { tmps := #[x0, x1, x2, x3, x4, x5, x6, .slice (some ⟨ga, 0, none⟩) m c, .slice (some ⟨gb, 0, none⟩) m c2, x9, x10, .int .i64 ((j : Nat) : Int), x12, x13, x14, x15, x16, x17, x18, x19, x20, x21, x22, x23, x24, x25, x26, x27, x28, x29, x30, x31, x32, x33, x34, x35, x36, x37, x38, x39, x40, x41, x42, x43, x44, x45, x46, x47, x48, x49, x50, x51, x52, x53, x54, x55, x56, x57, x58, x59, x60, x61, x62, x63, x64, x65, x66, x67, x68, x69, x70, x71, x72, x73, x74, x75, x76, x77, y78, y79, y80, y81, y82, y83, y84, y85, .bool false, x87, x88, x89, x90, x91, x92, x93, x94, x95, x96, x97, x98, x99, x100, x101, x102, x103, x104, x105, x106, x107, x108, x109, x110, x111, x112, x113, x114, x115, x116, x117, x118, x119, x120, x121, x122, x123, x124, x125, x126, x127, x128, x129, x130, x131, x132, x133, x134, x135, x136, x137, x138, x139, x140, x141, x142, x143, x144, x145, x146, x147, x148, x149, x150, x151, x152, x153, x154, x155, x156, x157, x158, x159, x160, x161, x162], defers := [] } (wa.drew)) :
    Code.wp Yba.prog (headC (tailC cX)) (only K) { tmps := #[x0, x1, x2, x3, x4, x5, x6, .slice (some ⟨ga, 0, none⟩) m c, .slice (some ⟨gb, 0, none⟩) m c2, x9, x10, .int .i64 ((j : Nat) : Int), x12, x13, x14, x15, x16, x17, x18, x19, x20, x21, x22, x23, x24, x25, x26, x27, x28, x29, x30, x31, x32, x33, x34, x35, x36, x37, x38, x39, x40, x41, x42, x43, x44, x45, x46, x47, x48, x49, x50, x51, x52, x53, x54, x55, x56, x57, x58, x59, x60, x61, x62, x63, x64, x65, x66, x67, x68, x69, x70, x71, x72, x73, x74, x75, x76, x77, x78, x79, x80, x81, x82, x83, x84, x85, x86, x87, x88, x89, x90, x91, x92, x93, x94, x95, x96, x97, x98, x99, x100, x101, x102, x103, x104, x105, x106, x107, x108, x109, x110, x111, x112, x113, x114, x115, x116, x117, x118, x119, x120, x121, x122, x123, x124, x125, x126, x127, x128, x129, x130, x131, x132, x133, x134, x135, x136, x137, x138, x139, x140, x141, x142, x143, x144, x145, x146, x147, x148, x149, x150, x151, x152, x153, x154, x155, x156, x157, x158, x159, x160, x161, x162], defers := [] } wa := by
  simp only [f3b, wL, wX, cI, cA, cB, cL, cX, uL, uX, eL, eX, Yba.f3, Option.getD, dropC, headC, tailC, blkC, lupC, thnC, elsC]
  refine wp_region_any (by kernel_rfl) ?_
  change wpAny _ _ _ _ _ _ _ (World.drew _)
  refine anyT 78 (i := 0) (v := .slice (some ⟨ga, 0, none⟩) m c) rfl (by kernel_rfl) (by kernel_rfl) (by kernel_rfl) (fun _ _ _ h => h) (by kernel_rfl) (by kernel_rfl) (fun w => ex_move (x := .tmp 7) (v := .slice (some ⟨ga, 0, none⟩) m c) (by kernel_rfl) (by kernel_rfl) w) ?_
  simp only [Act.put, List.setIfInBounds_toArray, List.set_cons_zero, List.set_cons_succ]
  refine anyT 79 (i := 1) (v := .int .i64 ((j : Nat) : Int)) rfl (by kernel_rfl) (by kernel_rfl) (by kernel_rfl) (fun _ _ _ h => h) (by kernel_rfl) (by kernel_rfl) (fun w => ex_move (x := .tmp 11) (v := .int .i64 ((j : Nat) : Int)) (by kernel_rfl) (by kernel_rfl) w) ?_
  simp only [Act.put, List.setIfInBounds_toArray, List.set_cons_zero, List.set_cons_succ]
  refine anyT 80 (i := 2) (v := .pointer (some ⟨ga, j * 22, none⟩)) rfl (by kernel_rfl) (by kernel_rfl) (by kernel_rfl) (fun _ _ _ h => h) (by kernel_rfl) (by kernel_rfl) (fun w => ex_index (x := .tmp 78) (y := .tmp 79) (t := 25) (by kernel_rfl) (by kernel_rfl) (by kernel_rfl) (ia25 (g := ga) (c := c) hj w)) ?_
  simp only [Act.put, List.setIfInBounds_toArray, List.set_cons_zero, List.set_cons_succ]
  refine anyT 82 (i := 4) (v := .slice (some ⟨gb, 0, none⟩) m c2) rfl (by kernel_rfl) (by kernel_rfl) (by kernel_rfl) (fun _ _ _ h => h) (by kernel_rfl) (by kernel_rfl) (fun w => ex_move (x := .tmp 8) (v := .slice (some ⟨gb, 0, none⟩) m c2) (by kernel_rfl) (by kernel_rfl) w) ?_
  simp only [Act.put, List.setIfInBounds_toArray, List.set_cons_zero, List.set_cons_succ]
  refine anyT 83 (i := 5) (v := .int .i64 ((j : Nat) : Int)) rfl (by kernel_rfl) (by kernel_rfl) (by kernel_rfl) (fun _ _ _ h => h) (by kernel_rfl) (by kernel_rfl) (fun w => ex_move (x := .tmp 11) (v := .int .i64 ((j : Nat) : Int)) (by kernel_rfl) (by kernel_rfl) w) ?_
  simp only [Act.put, List.setIfInBounds_toArray, List.set_cons_zero, List.set_cons_succ]
  refine anyT 84 (i := 6) (v := .pointer (some ⟨gb, j * 22, none⟩)) rfl (by kernel_rfl) (by kernel_rfl) (by kernel_rfl) (fun _ _ _ h => h) (by kernel_rfl) (by kernel_rfl) (fun w => ex_index (x := .tmp 82) (y := .tmp 83) (t := 25) (by kernel_rfl) (by kernel_rfl) (by kernel_rfl) (ia25 (g := gb) (c := c2) hj w)) ?_
  simp only [Act.put, List.setIfInBounds_toArray, List.set_cons_zero, List.set_cons_succ]
  refine any2 81 85 (i := 3) (j := 7) (by kernel_rfl) rfl rfl (by kernel_rfl) (by kernel_rfl) (by kernel_rfl) (by kernel_rfl) (ex_load (x := .tmp 80) (t := 33) (by kernel_rfl) (by kernel_rfl) (ld33m (w := wa.drew) hA)) (ex_load (x := .tmp 84) (t := 33) (by kernel_rfl) (by kernel_rfl) (ld33m (w := wa.drew) hB)) ?_ ?_
  · skip
    simp only [Act.put, List.setIfInBounds_toArray, List.set_cons_zero, List.set_cons_succ]
    refine any1 85 (i := 7) (by kernel_rfl) rfl (by kernel_rfl) (by kernel_rfl) (ex_load (x := .tmp 84) (t := 33) (by kernel_rfl) (by kernel_rfl) (ld33m (w := wa.drew) hB)) ?_
    simp only [Act.put, List.setIfInBounds_toArray, List.set_cons_zero, List.set_cons_succ]
    refine any1 86 (i := 8) (by kernel_rfl) rfl (by kernel_rfl) (by kernel_rfl) (ex_neq33 (x := .tmp 81) (y := .tmp 85) (e := e) (by kernel_rfl) (by kernel_rfl) (by kernel_rfl)) ?_
    simp only [Act.put, List.setIfInBounds_toArray, List.set_cons_zero, List.set_cons_succ]
    exact wpAny_done (by kernel_rfl) (hK _ _ _ _ _ _ _ _ ) _
  · skip
    simp only [Act.put, List.setIfInBounds_toArray, List.set_cons_zero, List.set_cons_succ]
    refine any1 81 (i := 3) (by kernel_rfl) rfl (by kernel_rfl) (by kernel_rfl) (ex_load (x := .tmp 80) (t := 33) (by kernel_rfl) (by kernel_rfl) (ld33m (w := wa.drew) hA)) ?_
    simp only [Act.put, List.setIfInBounds_toArray, List.set_cons_zero, List.set_cons_succ]
    refine any1 86 (i := 8) (by kernel_rfl) rfl (by kernel_rfl) (by kernel_rfl) (ex_neq33 (x := .tmp 81) (y := .tmp 85) (e := e) (by kernel_rfl) (by kernel_rfl) (by kernel_rfl)) ?_
    simp only [Act.put, List.setIfInBounds_toArray, List.set_cons_zero, List.set_cons_succ]
    exact wpAny_done (by kernel_rfl) (hK _ _ _ _ _ _ _ _ ) _

set_option maxRecDepth 100000 in
set_option maxHeartbeats 1000000 in
theorem l3r27 (k T M : Nat) (r : Value) (wa : World) (hk : k < 4) (hT : wa.cell? ⟨T, 32, none⟩ = some (.map (some M))) (hl : (Instr.lookup 46 (.map (some M)) (kA k) false).run Yba.prog wa = .ok r wa) {x0 x1 x2 x3 x4 x6 x7 x8 x9 x10 x11 x13 x14 x15 x16 x17 x18 x19 x20 x21 x22 x23 x24 x25 x26 x27 x28 x29 x30 x31 x32 x33 x34 x35 x36 x37 x38 x39 x40 x41 x42 x43 x44 x45 x46 x47 x48 x49 x50 x51 x52 x53 x54 x55 x56 x57 x58 x59 x60 x61 x62 x63 x64 x65 x66 x67 x68 x69 x70 x71 x72 x73 x74 x75 x76 x77 x78 x79 x80 x81 x82 x83 x84 x85 x86 x87 x88 x89 x90 x91 x92 x93 x94 x95 x96 x97 x98 x99 x100 x101 x102 x103 x104 x105 x106 x107 x108 x109 x110 x111 x112 x113 x114 x115 x116 x117 x118 x119 x120 x121 x122 x123 x124 x125 x126 x127 x128 x129 x130 x131 x132 x133 x134 x135 x136 x137 x138 x139 x140 x141 x142 x143 x144 x145 x146 x147 x148 x149 x150 x151 x152 x153 x154 x155 x156 x157 x158 x159 x160 x161 x162 : Value} (K : Act → World → Prop)
    (hK : ∀ (y92 y93 y94 y95 y96 y97 y98 y99 : Value), K { tmps := #[x0, x1, x2, x3, x4, .pointer (some ⟨T, 0, none⟩), x6, x7, x8, x9, x10, x11, .int .i64 ((k : Nat) : Int), r, x14, x15, x16, x17, x18, x19, x20, x21, x22, x23, x24, x25, x26, x27, x28, x29, x30, x31, x32, x33, x34, x35, x36, x37, x38, x39, x40, x41, x42, x43, x44, x45, x46, x47, x48, x49, x50, x51, x52, x53, x54, x55, x56, x57, x58, x59, x60, x61, x62, x63, x64, x65, x66, x67, x68, x69, x70, x71, x72, x73, x74, x75, x76, x77, x78, x79, x80, x81, x82, x83, x84, x85, x86, x87, x88, x89, x90, x91, y92, y93, y94, y95, y96, y97, y98, y99, x100, x101, x102, x103, x104, x105, x106, x107, x108, x109, x110, x111, x112, x113, x114, x115, x116, x117, x118, x119, x120, x121, x122, x123, x124, x125, x126, x127, x128, x129, x130, x131, x132, x133, x134, x135, x136, x137, x138, x139, x140, x141, x142, x143, x144, x145, x146, x147, x148, x149, x150, x151, x152, x153, x154, x155, x156, x157, x158, x159, x160, x161, x162], defers := [] } (wa)) :
    Code.wp Yba.prog (headC uX) (only K) { tmps := #[x0, x1, x2, x3, x4, .pointer (some ⟨T, 0, none⟩), x6, x7, x8, x9, x10, x11, .int .i64 ((k : Nat) : Int), x13, x14, x15, x16, x17, x18, x19, x20, x21, x22, x23, x24, x25, x26, x27, x28, x29, x30, x31, x32, x33, x34, x35, x36, x37, x38, x39, x40, x41, x42, x43, x44, x45, x46, x47, x48, x49, x50, x51, x52, x53, x54, x55, x56, x57, x58, x59, x60, x61, x62, x63, x64, x65, x66, x67, x68, x69, x70, x71, x72, x73, x74, x75, x76, x77, x78, x79, x80, x81, x82, x83, x84, x85, x86, x87, x88, x89, x90, x91, x92, x93, x94, x95, x96, x97, x98, x99, x100, x101, x102, x103, x104, x105, x106, x107, x108, x109, x110, x111, x112, x113, x114, x115, x116, x117, x118, x119, x120, x121, x122, x123, x124, x125, x126, x127, x128, x129, x130, x131, x132, x133, x134, x135, x136, x137, x138, x139, x140, x141, x142, x143, x144, x145, x146, x147, x148, x149, x150, x151, x152, x153, x154, x155, x156, x157, x158, x159, x160, x161, x162], defers := [] } wa := by
  simp only [f3b, wL, wX, cI, cA, cB, cL, cX, uL, uX, eL, eX, Yba.f3, Option.getD, dropC, headC, tailC, blkC, lupC, thnC, elsC]
  refine wp_region_lit ?_
  refine plk 92 (.pointer (some ⟨T, 0, none⟩)) rfl rfl (by kernel_rfl) ?_
  simp only [Act.put, List.setIfInBounds_toArray, List.set_cons_zero, List.set_cons_succ]
  refine plk 93 (.pointer (some ⟨T, 0, none⟩)) rfl rfl (by kernel_rfl) ?_
  simp only [Act.put, List.setIfInBounds_toArray, List.set_cons_zero, List.set_cons_succ]
  refine pl 94 rfl rfl (ex_field (x := .tmp 93) (i := 8) (t := 55) (by kernel_rfl) (by kernel_rfl) (fa55_8 T _)) ?_
  simp only [Act.put, List.setIfInBounds_toArray, List.set_cons_zero, List.set_cons_succ]
  refine pl 95 rfl rfl (ex_load (x := .tmp 94) (t := 46) (by kernel_rfl) (by kernel_rfl) (ld46 hT)) ?_
  simp only [Act.put, List.setIfInBounds_toArray, List.set_cons_zero, List.set_cons_succ]
  refine plk 96 (.int .i64 ((k : Nat) : Int)) rfl rfl (by kernel_rfl) ?_
  simp only [Act.put, List.setIfInBounds_toArray, List.set_cons_zero, List.set_cons_succ]
  refine pl 97 rfl rfl (ex_conv (x := .tmp 96) (s := 3) (t := 5) (by kernel_rfl) (by kernel_rfl) (cv35 hk _)) ?_
  simp only [Act.put, List.setIfInBounds_toArray, List.set_cons_zero, List.set_cons_succ]
  refine pl 98 rfl rfl (ex_build1 (x := .tmp 97) (t := 28) (by kernel_rfl) (by kernel_rfl) (bl28 k _)) ?_
  simp only [Act.put, List.setIfInBounds_toArray, List.set_cons_zero, List.set_cons_succ]
  refine pl 99 rfl rfl (ex_look (m := .tmp 95) (x := .tmp 98) (t := 46) (by kernel_rfl) (by kernel_rfl) (by kernel_rfl) hl) ?_
  simp only [Act.put, List.setIfInBounds_toArray, List.set_cons_zero, List.set_cons_succ]
  refine plk 13 (r) rfl rfl (by kernel_rfl) ?_
  simp only [Act.put, List.setIfInBounds_toArray, List.set_cons_zero, List.set_cons_succ]
  exact wpList_nil (hK _ _ _ _ _ _ _ _ )

set_option maxRecDepth 100000 in
set_option maxHeartbeats 1000000 in
theorem l3r34 (e : Ent) (b7 k : Nat) (wa : World) (h7 : wa.heap[b7]? = some (.cells (enR e) 31 (0, 0))) (hk : k < 3) (hown : e.own ≤ 255) {x0 x1 x2 x3 x4 x5 x6 x7 x8 x9 x10 x11 x13 x14 x15 x17 x18 x19 x20 x21 x22 x23 x24 x25 x26 x27 x28 x29 x30 x31 x32 x33 x34 x35 x36 x37 x38 x39 x40 x41 x42 x43 x44 x45 x46 x47 x48 x49 x50 x51 x52 x53 x54 x55 x56 x57 x58 x59 x60 x61 x62 x63 x64 x65 x66 x67 x68 x69 x70 x71 x72 x73 x74 x75 x76 x77 x78 x79 x80 x81 x82 x83 x84 x85 x86 x87 x88 x89 x90 x91 x92 x93 x94 x95 x96 x97 x98 x99 x100 x101 x102 x103 x104 x105 x106 x107 x108 x109 x110 x111 x112 x113 x114 x115 x116 x117 x118 x119 x120 x121 x122 x123 x124 x125 x126 x127 x128 x129 x130 x131 x132 x133 x134 x135 x136 x137 x138 x139 x140 x141 x142 x143 x144 x145 x146 x147 x148 x149 x150 x151 x152 x153 x154 x155 x156 x157 x158 x159 x160 x161 x162 : Value} (K : Act → World → Prop)
    (hK : ∀ (y108 y109 y110 y111 y112 : Value), K { tmps := #[x0, x1, x2, x3, x4, x5, x6, x7, x8, x9, x10, x11, .int .i64 ((k : Nat) : Int), x13, x14, x15, .pointer (some ⟨b7, 0, none⟩), x17, x18, x19, x20, x21, x22, x23, x24, x25, x26, x27, x28, x29, x30, x31, x32, x33, x34, x35, x36, x37, x38, x39, x40, x41, x42, x43, x44, x45, x46, x47, x48, x49, x50, x51, x52, x53, x54, x55, x56, x57, x58, x59, x60, x61, x62, x63, x64, x65, x66, x67, x68, x69, x70, x71, x72, x73, x74, x75, x76, x77, x78, x79, x80, x81, x82, x83, x84, x85, x86, x87, x88, x89, x90, x91, x92, x93, x94, x95, x96, x97, x98, x99, x100, x101, x102, x103, x104, x105, x106, x107, y108, y109, y110, y111, y112, .bool (decide (¬ e.own % 3 = k)), x114, x115, x116, x117, x118, x119, x120, x121, x122, x123, x124, x125, x126, x127, x128, x129, x130, x131, x132, x133, x134, x135, x136, x137, x138, x139, x140, x141, x142, x143, x144, x145, x146, x147, x148, x149, x150, x151, x152, x153, x154, x155, x156, x157, x158, x159, x160, x161, x162], defers := [] } (wa)) :
    Code.wp Yba.prog (headC (headC (dropC 1 eX))) (only K) { tmps := #[x0, x1, x2, x3, x4, x5, x6, x7, x8, x9, x10, x11, .int .i64 ((k : Nat) : Int), x13, x14, x15, .pointer (some ⟨b7, 0, none⟩), x17, x18, x19, x20, x21, x22, x23, x24, x25, x26, x27, x28, x29, x30, x31, x32, x33, x34, x35, x36, x37, x38, x39, x40, x41, x42, x43, x44, x45, x46, x47, x48, x49, x50, x51, x52, x53, x54, x55, x56, x57, x58, x59, x60, x61, x62, x63, x64, x65, x66, x67, x68, x69, x70, x71, x72, x73, x74, x75, x76, x77, x78, x79, x80, x81, x82, x83, x84, x85, x86, x87, x88, x89, x90, x91, x92, x93, x94, x95, x96, x97, x98, x99, x100, x101, x102, x103, x104, x105, x106, x107, x108, x109, x110, x111, x112, x113, x114, x115, x116, x117, x118, x119, x120, x121, x122, x123, x124, x125, x126, x127, x128, x129, x130, x131, x132, x133, x134, x135, x136, x137, x138, x139, x140, x141, x142, x143, x144, x145, x146, x147, x148, x149, x150, x151, x152, x153, x154, x155, x156, x157, x158, x159, x160, x161, x162], defers := [] } wa := by
  have c0 : wa.cell? ⟨b7, 0, none⟩ = some (.int .u8 e.id) := by rw [cell_of_row wa b7 0 _ 31 (0, 0) h7]; rfl
  have c1 : wa.cell? ⟨b7, 1, none⟩ = some (.string e.host) := by rw [cell_of_row wa b7 1 _ 31 (0, 0) h7]; rfl
  have c2 : wa.cell? ⟨b7, 2, none⟩ = some (.int .u16 e.port) := by rw [cell_of_row wa b7 2 _ 31 (0, 0) h7]; rfl
  have c3 : wa.cell? ⟨b7, 3, none⟩ = some (.bool e.held) := by rw [cell_of_row wa b7 3 _ 31 (0, 0) h7]; rfl
  have c4 : wa.cell? ⟨b7, 4, none⟩ = some (.int .u8 e.own) := by rw [cell_of_row wa b7 4 _ 31 (0, 0) h7]; rfl
  have l7 : b7 < wa.heap.size := (Array.getElem?_eq_some_iff.1 h7).1
  clear h7
  by_cases ho : e.own % 3 = k
  · have go : (e.own : Int) % 3 = (k : Int) := by omega
    rw [decide_eq_false (not_not_intro ho)] at hK
    have HK := hid hK
    clear hK
    simp only [f3b, wL, wX, cI, cA, cB, cL, cX, uL, uX, eL, eX, Yba.f3, Option.getD, dropC, headC, tailC, blkC, lupC, thnC, elsC]
    go_wp2_with fail
    exact HK.out _ _ _ _ _ 
  · have go : ¬ (e.own : Int) % 3 = (k : Int) := by omega
    have gb : ((e.own : Int) % 3 != (k : Int)) = true := by simp only [bne_iff_ne, ne_eq]; exact go
    rw [decide_eq_true ho] at hK
    have HK := hid hK
    clear hK
    simp only [f3b, wL, wX, cI, cA, cB, cL, cX, uL, uX, eL, eX, Yba.f3, Option.getD, dropC, headC, tailC, blkC, lupC, thnC, elsC]
    go_wp2_with fail
    exact HK.out _ _ _ _ _ 

set_option maxRecDepth 100000 in
set_option maxHeartbeats 1000000 in
theorem l3r35 (N n m c : Nat) (ga : Option Addr) (wa : World) (hN : wa.cell? ⟨N, 21, none⟩ = some (.slice ga m c)) (h : n < m) {x0 x1 x2 x3 x4 x5 x6 x7 x8 x9 x10 x11 x12 x15 x16 x17 x18 x19 x20 x21 x22 x23 x24 x25 x26 x27 x28 x29 x30 x31 x32 x33 x34 x35 x36 x37 x38 x39 x40 x41 x42 x43 x44 x45 x46 x47 x48 x49 x50 x51 x52 x53 x54 x55 x56 x57 x58 x59 x60 x61 x62 x63 x64 x65 x66 x67 x68 x69 x70 x71 x72 x73 x74 x75 x76 x77 x78 x79 x80 x81 x82 x83 x84 x85 x86 x87 x88 x89 x90 x91 x92 x93 x94 x95 x96 x97 x98 x99 x100 x101 x102 x103 x104 x105 x106 x107 x108 x109 x110 x111 x112 x113 x114 x115 x116 x117 x118 x119 x120 x121 x122 x123 x124 x125 x126 x127 x128 x129 x130 x131 x132 x133 x134 x135 x136 x137 x138 x139 x140 x141 x142 x143 x144 x145 x146 x147 x148 x149 x150 x151 x152 x153 x154 x155 x156 x157 x158 x159 x160 x161 x162 : Value} (K : Act → World → Prop)
    (hK : ∀ (y114 y115 y116 y117 y118 y119 : Value), K { tmps := #[x0, x1, x2, x3, x4, x5, x6, x7, x8, x9, x10, x11, x12, .pointer (some ⟨N, 0, none⟩), .int .i64 ((n : Nat) : Int), x15, x16, x17, x18, x19, x20, x21, x22, x23, x24, x25, x26, x27, x28, x29, x30, x31, x32, x33, x34, x35, x36, x37, x38, x39, x40, x41, x42, x43, x44, x45, x46, x47, x48, x49, x50, x51, x52, x53, x54, x55, x56, x57, x58, x59, x60, x61, x62, x63, x64, x65, x66, x67, x68, x69, x70, x71, x72, x73, x74, x75, x76, x77, x78, x79, x80, x81, x82, x83, x84, x85, x86, x87, x88, x89, x90, x91, x92, x93, x94, x95, x96, x97, x98, x99, x100, x101, x102, x103, x104, x105, x106, x107, x108, x109, x110, x111, x112, x113, y114, y115, y116, y117, y118, y119, .bool false, x121, x122, x123, x124, x125, x126, x127, x128, x129, x130, x131, x132, x133, x134, x135, x136, x137, x138, x139, x140, x141, x142, x143, x144, x145, x146, x147, x148, x149, x150, x151, x152, x153, x154, x155, x156, x157, x158, x159, x160, x161, x162], defers := [] } (wa)) :
    Code.wp Yba.prog (headC (headC (dropC 2 eX))) (only K) { tmps := #[x0, x1, x2, x3, x4, x5, x6, x7, x8, x9, x10, x11, x12, .pointer (some ⟨N, 0, none⟩), .int .i64 ((n : Nat) : Int), x15, x16, x17, x18, x19, x20, x21, x22, x23, x24, x25, x26, x27, x28, x29, x30, x31, x32, x33, x34, x35, x36, x37, x38, x39, x40, x41, x42, x43, x44, x45, x46, x47, x48, x49, x50, x51, x52, x53, x54, x55, x56, x57, x58, x59, x60, x61, x62, x63, x64, x65, x66, x67, x68, x69, x70, x71, x72, x73, x74, x75, x76, x77, x78, x79, x80, x81, x82, x83, x84, x85, x86, x87, x88, x89, x90, x91, x92, x93, x94, x95, x96, x97, x98, x99, x100, x101, x102, x103, x104, x105, x106, x107, x108, x109, x110, x111, x112, x113, x114, x115, x116, x117, x118, x119, x120, x121, x122, x123, x124, x125, x126, x127, x128, x129, x130, x131, x132, x133, x134, x135, x136, x137, x138, x139, x140, x141, x142, x143, x144, x145, x146, x147, x148, x149, x150, x151, x152, x153, x154, x155, x156, x157, x158, x159, x160, x161, x162], defers := [] } wa := by
  have hlt : N < wa.heap.size := World.block_lt_of_cell? wa _ hN
  have h' : ¬ (m : Int) ≤ (n : Int) := by omega
  have HK := hid hK
  clear hK
  simp only [f3b, wL, wX, cI, cA, cB, cL, cX, uL, uX, eL, eX, Yba.f3, Option.getD, dropC, headC, tailC, blkC, lupC, thnC, elsC]
  go_wp2_with fail
  exact HK.out _ _ _ _ _ _ 

set_option maxRecDepth 100000 in
set_option maxHeartbeats 1000000 in
theorem l3r42 (N n c : Nat) (ga : Option Addr) (wa : World) (hN : wa.cell? ⟨N, 21, none⟩ = some (.slice ga n c)) {x0 x1 x2 x3 x4 x5 x6 x7 x8 x9 x10 x11 x12 x15 x16 x17 x18 x19 x20 x21 x22 x23 x24 x25 x26 x27 x28 x29 x30 x31 x32 x33 x34 x35 x36 x37 x38 x39 x40 x41 x42 x43 x44 x45 x46 x47 x48 x49 x50 x51 x52 x53 x54 x55 x56 x57 x58 x59 x60 x61 x62 x63 x64 x65 x66 x67 x68 x69 x70 x71 x72 x73 x74 x75 x76 x77 x78 x79 x80 x81 x82 x83 x84 x85 x86 x87 x88 x89 x90 x91 x92 x93 x94 x95 x96 x97 x98 x99 x100 x101 x102 x103 x104 x105 x106 x107 x108 x109 x110 x111 x112 x113 x114 x115 x116 x117 x118 x119 x120 x121 x122 x123 x124 x125 x126 x127 x128 x129 x130 x131 x132 x133 x134 x135 x136 x137 x138 x139 x140 x141 x142 x143 x144 x145 x146 x147 x148 x149 x150 x151 x152 x153 x154 x155 x156 x157 x158 x159 x160 x161 x162 : Value} (K : Act → World → Prop)
    (hK : ∀ (y150 y151 y152 y153 y154 y155 : Value), K { tmps := #[x0, x1, x2, x3, x4, x5, x6, x7, x8, x9, x10, x11, x12, .pointer (some ⟨N, 0, none⟩), .int .i64 ((n : Nat) : Int), x15, x16, x17, x18, x19, x20, x21, x22, x23, x24, x25, x26, x27, x28, x29, x30, x31, x32, x33, x34, x35, x36, x37, x38, x39, x40, x41, x42, x43, x44, x45, x46, x47, x48, x49, x50, x51, x52, x53, x54, x55, x56, x57, x58, x59, x60, x61, x62, x63, x64, x65, x66, x67, x68, x69, x70, x71, x72, x73, x74, x75, x76, x77, x78, x79, x80, x81, x82, x83, x84, x85, x86, x87, x88, x89, x90, x91, x92, x93, x94, x95, x96, x97, x98, x99, x100, x101, x102, x103, x104, x105, x106, x107, x108, x109, x110, x111, x112, x113, x114, x115, x116, x117, x118, x119, x120, x121, x122, x123, x124, x125, x126, x127, x128, x129, x130, x131, x132, x133, x134, x135, x136, x137, x138, x139, x140, x141, x142, x143, x144, x145, x146, x147, x148, x149, y150, y151, y152, y153, y154, y155, .bool false, x157, x158, x159, x160, x161, x162], defers := [] } (wa)) :
    Code.wp Yba.prog (headC (dropC 4 uX)) (only K) { tmps := #[x0, x1, x2, x3, x4, x5, x6, x7, x8, x9, x10, x11, x12, .pointer (some ⟨N, 0, none⟩), .int .i64 ((n : Nat) : Int), x15, x16, x17, x18, x19, x20, x21, x22, x23, x24, x25, x26, x27, x28, x29, x30, x31, x32, x33, x34, x35, x36, x37, x38, x39, x40, x41, x42, x43, x44, x45, x46, x47, x48, x49, x50, x51, x52, x53, x54, x55, x56, x57, x58, x59, x60, x61, x62, x63, x64, x65, x66, x67, x68, x69, x70, x71, x72, x73, x74, x75, x76, x77, x78, x79, x80, x81, x82, x83, x84, x85, x86, x87, x88, x89, x90, x91, x92, x93, x94, x95, x96, x97, x98, x99, x100, x101, x102, x103, x104, x105, x106, x107, x108, x109, x110, x111, x112, x113, x114, x115, x116, x117, x118, x119, x120, x121, x122, x123, x124, x125, x126, x127, x128, x129, x130, x131, x132, x133, x134, x135, x136, x137, x138, x139, x140, x141, x142, x143, x144, x145, x146, x147, x148, x149, x150, x151, x152, x153, x154, x155, x156, x157, x158, x159, x160, x161, x162], defers := [] } wa := by
  have hlt : N < wa.heap.size := World.block_lt_of_cell? wa _ hN
  have HK := hid hK
  clear hK
  simp only [f3b, wL, wX, cI, cA, cB, cL, cX, uL, uX, eL, eX, Yba.f3, Option.getD, dropC, headC, tailC, blkC, lupC, thnC, elsC]
  go_wp2_with fail
  exact HK.out _ _ _ _ _ _ 

set_option maxRecDepth 100000 in
set_option maxHeartbeats 1000000 in
theorem l3r37 (e : Ent) (p : Option Addr) (N n m c gb : Nat) (wa : World) (hN : wa.cell? ⟨N, 21, none⟩ = some (.slice (some ⟨gb, 0, none⟩) m c)) (h : n < m) (hr : wa.rangeAt gb (n * 25) (enC e p)) {x0 x1 x2 x3 x4 x5 x6 x7 x8 x9 x10 x11 x12 x15 x16 x17 x18 x19 x20 x21 x22 x23 x24 x25 x26 x27 x28 x29 x30 x31 x32 x33 x34 x35 x36 x37 x38 x39 x40 x41 x42 x43 x44 x45 x46 x47 x48 x49 x50 x51 x52 x53 x54 x55 x56 x57 x58 x59 x60 x61 x62 x63 x64 x65 x66 x67 x68 x69 x70 x71 x72 x73 x74 x75 x76 x77 x78 x79 x80 x81 x82 x83 x84 x85 x86 x87 x88 x89 x90 x91 x92 x93 x94 x95 x96 x97 x98 x99 x100 x101 x102 x103 x104 x105 x106 x107 x108 x109 x110 x111 x112 x113 x114 x115 x116 x117 x118 x119 x120 x121 x122 x123 x124 x125 x126 x127 x128 x129 x130 x131 x132 x133 x134 x135 x136 x137 x138 x139 x140 x141 x142 x143 x144 x145 x146 x147 x148 x149 x150 x151 x152 x153 x154 x155 x156 x157 x158 x159 x160 x161 x162 : Value} (K : Act → World → Prop)
    (hK : ∀ (y121 y122 y123 y124 y125 y126 y127 : Value), K { tmps := #[x0, x1, x2, x3, x4, x5, x6, x7, x8, x9, x10, x11, x12, .pointer (some ⟨N, 0, none⟩), .int .i64 ((n : Nat) : Int), x15, x16, .pointer (some ⟨wa.heap.size, 0, none⟩), x18, x19, x20, x21, x22, x23, x24, x25, x26, x27, x28, x29, x30, x31, x32, x33, x34, x35, x36, x37, x38, x39, x40, x41, x42, x43, x44, x45, x46, x47, x48, x49, x50, x51, x52, x53, x54, x55, x56, x57, x58, x59, x60, x61, x62, x63, x64, x65, x66, x67, x68, x69, x70, x71, x72, x73, x74, x75, x76, x77, x78, x79, x80, x81, x82, x83, x84, x85, x86, x87, x88, x89, x90, x91, x92, x93, x94, x95, x96, x97, x98, x99, x100, x101, x102, x103, x104, x105, x106, x107, x108, x109, x110, x111, x112, x113, x114, x115, x116, x117, x118, x119, x120, y121, y122, y123, y124, y125, y126, y127, x128, x129, x130, x131, x132, x133, x134, x135, x136, x137, x138, x139, x140, x141, x142, x143, x144, x145, x146, x147, x148, x149, x150, x151, x152, x153, x154, x155, x156, x157, x158, x159, x160, x161, x162], defers := [] } (wa.alloc (.cells (enC e p).toArray 62))) :
    Code.wp Yba.prog (headC (dropC 3 eX)) (only K) { tmps := #[x0, x1, x2, x3, x4, x5, x6, x7, x8, x9, x10, x11, x12, .pointer (some ⟨N, 0, none⟩), .int .i64 ((n : Nat) : Int), x15, x16, x17, x18, x19, x20, x21, x22, x23, x24, x25, x26, x27, x28, x29, x30, x31, x32, x33, x34, x35, x36, x37, x38, x39, x40, x41, x42, x43, x44, x45, x46, x47, x48, x49, x50, x51, x52, x53, x54, x55, x56, x57, x58, x59, x60, x61, x62, x63, x64, x65, x66, x67, x68, x69, x70, x71, x72, x73, x74, x75, x76, x77, x78, x79, x80, x81, x82, x83, x84, x85, x86, x87, x88, x89, x90, x91, x92, x93, x94, x95, x96, x97, x98, x99, x100, x101, x102, x103, x104, x105, x106, x107, x108, x109, x110, x111, x112, x113, x114, x115, x116, x117, x118, x119, x120, x121, x122, x123, x124, x125, x126, x127, x128, x129, x130, x131, x132, x133, x134, x135, x136, x137, x138, x139, x140, x141, x142, x143, x144, x145, x146, x147, x148, x149, x150, x151, x152, x153, x154, x155, x156, x157, x158, x159, x160, x161, x162], defers := [] } wa := by
  simp only [f3b, wL, wX, cI, cA, cB, cL, cX, uL, uX, eL, eX, Yba.f3, Option.getD, dropC, headC, tailC, blkC, lupC, thnC, elsC]
  refine wp_region_lit ?_
  refine plk 121 (.pointer (some ⟨N, 0, none⟩)) rfl rfl (by kernel_rfl) ?_
  simp only [Act.put, List.setIfInBounds_toArray, List.set_cons_zero, List.set_cons_succ]
  refine plk 122 (.pointer (some ⟨N, 0, none⟩)) rfl rfl (by kernel_rfl) ?_
  simp only [Act.put, List.setIfInBounds_toArray, List.set_cons_zero, List.set_cons_succ]
  refine pl 123 rfl rfl (ex_field (x := .tmp 122) (i := 2) (t := 59) (by kernel_rfl) (by kernel_rfl) (fa59_2 N _)) ?_
  simp only [Act.put, List.setIfInBounds_toArray, List.set_cons_zero, List.set_cons_succ]
  refine pl 124 rfl rfl (ex_load (x := .tmp 123) (t := 57) (by kernel_rfl) (by kernel_rfl) (ld57 hN)) ?_
  simp only [Act.put, List.setIfInBounds_toArray, List.set_cons_zero, List.set_cons_succ]
  refine plk 125 (.int .i64 ((n : Nat) : Int)) rfl rfl (by kernel_rfl) ?_
  simp only [Act.put, List.setIfInBounds_toArray, List.set_cons_zero, List.set_cons_succ]
  refine pl 126 rfl rfl (ex_index (x := .tmp 124) (y := .tmp 125) (t := 57) (by kernel_rfl) (by kernel_rfl) (by kernel_rfl) (ia57 (g := gb) (c := c) h _)) ?_
  simp only [Act.put, List.setIfInBounds_toArray, List.set_cons_zero, List.set_cons_succ]
  refine pl 127 rfl rfl (ex_load (x := .tmp 126) (t := 62) (by kernel_rfl) (by kernel_rfl) (ld62m hr)) ?_
  simp only [Act.put, List.setIfInBounds_toArray, List.set_cons_zero, List.set_cons_succ]
  refine pl 17 rfl rfl (ex_alloc (t := 62) (by kernel_rfl) (al62 _)) ?_
  simp only [Act.put, List.setIfInBounds_toArray, List.set_cons_zero, List.set_cons_succ]
  refine pls (x := .tmp 17) (y := .tmp 127) (t := 62) rfl rfl (by kernel_rfl) (by kernel_rfl) (by kernel_rfl) (st62 e p _) ?_
  exact wpList_nil (hK _ _ _ _ _ _ _ )

set_option maxRecDepth 100000 in
set_option maxHeartbeats 1000000 in
theorem l3r38 (e : Ent) (p : Option Addr) (b7 b17 : Nat) (wa : World) (h7 : wa.heap[b7]? = some (.cells (enR e) 31 (0, 0))) (h17 : wa.heap[b17]? = some (.cells (enC e p).toArray 62 (0, 0))) (hp : p.isSome = e.held) {x0 x1 x2 x3 x4 x5 x6 x7 x8 x9 x10 x11 x12 x13 x14 x15 x18 x19 x20 x21 x22 x23 x24 x25 x26 x27 x28 x29 x30 x31 x32 x33 x34 x35 x36 x37 x38 x39 x40 x41 x42 x43 x44 x45 x46 x47 x48 x49 x50 x51 x52 x53 x54 x55 x56 x57 x58 x59 x60 x61 x62 x63 x64 x65 x66 x67 x68 x69 x70 x71 x72 x73 x74 x75 x76 x77 x78 x79 x80 x81 x82 x83 x84 x85 x86 x87 x88 x89 x90 x91 x92 x93 x94 x95 x96 x97 x98 x99 x100 x101 x102 x103 x104 x105 x106 x107 x108 x109 x110 x111 x112 x113 x114 x115 x116 x117 x118 x119 x120 x121 x122 x123 x124 x125 x126 x127 x128 x129 x130 x131 x132 x133 x134 x135 x136 x137 x138 x139 x140 x141 x142 x143 x144 x145 x146 x147 x148 x149 x150 x151 x152 x153 x154 x155 x156 x157 x158 x159 x160 x161 x162 : Value} (K : Act → World → Prop)
    (hK : ∀ (y128 y129 y130 y131 y132 y133 y134 y135 y136 y137 y138 y139 y140 y141 y142 y143 y144 y145 : Value), K { tmps := #[x0, x1, x2, x3, x4, x5, x6, x7, x8, x9, x10, x11, x12, x13, x14, x15, .pointer (some ⟨b7, 0, none⟩), .pointer (some ⟨b17, 0, none⟩), x18, x19, x20, x21, x22, x23, x24, x25, x26, x27, x28, x29, x30, x31, x32, x33, x34, x35, x36, x37, x38, x39, x40, x41, x42, x43, x44, x45, x46, x47, x48, x49, x50, x51, x52, x53, x54, x55, x56, x57, x58, x59, x60, x61, x62, x63, x64, x65, x66, x67, x68, x69, x70, x71, x72, x73, x74, x75, x76, x77, x78, x79, x80, x81, x82, x83, x84, x85, x86, x87, x88, x89, x90, x91, x92, x93, x94, x95, x96, x97, x98, x99, x100, x101, x102, x103, x104, x105, x106, x107, x108, x109, x110, x111, x112, x113, x114, x115, x116, x117, x118, x119, x120, x121, x122, x123, x124, x125, x126, x127, y128, y129, y130, y131, y132, y133, y134, y135, y136, y137, y138, y139, y140, y141, y142, y143, y144, y145, .bool false, x147, x148, x149, x150, x151, x152, x153, x154, x155, x156, x157, x158, x159, x160, x161, x162], defers := [] } (wa)) :
    Code.wp Yba.prog (headC (headC (dropC 4 eX))) (only K) { tmps := #[x0, x1, x2, x3, x4, x5, x6, x7, x8, x9, x10, x11, x12, x13, x14, x15, .pointer (some ⟨b7, 0, none⟩), .pointer (some ⟨b17, 0, none⟩), x18, x19, x20, x21, x22, x23, x24, x25, x26, x27, x28, x29, x30, x31, x32, x33, x34, x35, x36, x37, x38, x39, x40, x41, x42, x43, x44, x45, x46, x47, x48, x49, x50, x51, x52, x53, x54, x55, x56, x57, x58, x59, x60, x61, x62, x63, x64, x65, x66, x67, x68, x69, x70, x71, x72, x73, x74, x75, x76, x77, x78, x79, x80, x81, x82, x83, x84, x85, x86, x87, x88, x89, x90, x91, x92, x93, x94, x95, x96, x97, x98, x99, x100, x101, x102, x103, x104, x105, x106, x107, x108, x109, x110, x111, x112, x113, x114, x115, x116, x117, x118, x119, x120, x121, x122, x123, x124, x125, x126, x127, x128, x129, x130, x131, x132, x133, x134, x135, x136, x137, x138, x139, x140, x141, x142, x143, x144, x145, x146, x147, x148, x149, x150, x151, x152, x153, x154, x155, x156, x157, x158, x159, x160, x161, x162], defers := [] } wa := by
  have c0 : wa.cell? ⟨b7, 0, none⟩ = some (.int .u8 e.id) := by rw [cell_of_row wa b7 0 _ 31 (0, 0) h7]; rfl
  have c1 : wa.cell? ⟨b7, 1, none⟩ = some (.string e.host) := by rw [cell_of_row wa b7 1 _ 31 (0, 0) h7]; rfl
  have c2 : wa.cell? ⟨b7, 2, none⟩ = some (.int .u16 e.port) := by rw [cell_of_row wa b7 2 _ 31 (0, 0) h7]; rfl
  have c3 : wa.cell? ⟨b7, 3, none⟩ = some (.bool e.held) := by rw [cell_of_row wa b7 3 _ 31 (0, 0) h7]; rfl
  have c4 : wa.cell? ⟨b7, 4, none⟩ = some (.int .u8 e.own) := by rw [cell_of_row wa b7 4 _ 31 (0, 0) h7]; rfl
  have c24 : wa.cell? ⟨b17, 24, none⟩ = some (.pointer p) := by rw [cell_of_row _ b17 24 _ 62 (0, 0) h17]; rfl
  have hr := range_ad h17
  have l7 : b7 < wa.heap.size := (Array.getElem?_eq_some_iff.1 h7).1
  have l17 : b17 < wa.heap.size := (Array.getElem?_eq_some_iff.1 h17).1
  have HK := hid hK
  clear hK
  simp only [f3b, wL, wX, cI, cA, cB, cL, cX, uL, uX, eL, eX, Yba.f3, Option.getD, dropC, headC, tailC, blkC, lupC, thnC, elsC]
  refine wp_region_lit ?_
  refine pl 128 rfl rfl (ex_field (x := .tmp 17) (i := 1) (t := 62) (by kernel_rfl) (by kernel_rfl) (fa62_1 b17 _)) ?_
  simp only [Act.put, List.setIfInBounds_toArray, List.set_cons_zero, List.set_cons_succ]
  refine pl 129 rfl rfl (ex_load (x := .tmp 128) (t := 33) (by kernel_rfl) (by kernel_rfl) (ld33m hr)) ?_
  simp only [Act.put, List.setIfInBounds_toArray, List.set_cons_zero, List.set_cons_succ]
  refine pl 130 rfl rfl (ex_field (x := .tmp 16) (i := 0) (t := 31) (by kernel_rfl) (by kernel_rfl) (fa31_0 b7 _)) ?_
  simp only [Act.put, List.setIfInBounds_toArray, List.set_cons_zero, List.set_cons_succ]
  refine pl 131 rfl rfl (ex_load (x := .tmp 130) (t := 5) (by kernel_rfl) (by kernel_rfl) (ld5 c0)) ?_
  simp only [Act.put, List.setIfInBounds_toArray, List.set_cons_zero, List.set_cons_succ]
  refine pl 132 rfl rfl (ex_build1 (x := .tmp 131) (t := 28) (by kernel_rfl) (by kernel_rfl) (bl28 e.id _)) ?_
  simp only [Act.put, List.setIfInBounds_toArray, List.set_cons_zero, List.set_cons_succ]
  refine pl 133 rfl rfl (ex_field (x := .tmp 16) (i := 1) (t := 31) (by kernel_rfl) (by kernel_rfl) (fa31_1 b7 _)) ?_
  simp only [Act.put, List.setIfInBounds_toArray, List.set_cons_zero, List.set_cons_succ]
  refine pl 134 rfl rfl (ex_load (x := .tmp 133) (t := 9) (by kernel_rfl) (by kernel_rfl) (ld9 c1)) ?_
  simp only [Act.put, List.setIfInBounds_toArray, List.set_cons_zero, List.set_cons_succ]
  refine pl 135 rfl rfl (ex_field (x := .tmp 16) (i := 2) (t := 31) (by kernel_rfl) (by kernel_rfl) (fa31_2 b7 _)) ?_
  simp only [Act.put, List.setIfInBounds_toArray, List.set_cons_zero, List.set_cons_succ]
  refine pl 136 rfl rfl (ex_load (x := .tmp 135) (t := 29) (by kernel_rfl) (by kernel_rfl) (ld29 c2)) ?_
  simp only [Act.put, List.setIfInBounds_toArray, List.set_cons_zero, List.set_cons_succ]
  refine pl 137 rfl rfl (ex_build3 (x := .tmp 132) (y := .tmp 134) (z := .tmp 136) (t := 33) (by kernel_rfl) (by kernel_rfl) (by kernel_rfl) (by kernel_rfl) (bl33 e _)) ?_
  simp only [Act.put, List.setIfInBounds_toArray, List.set_cons_zero, List.set_cons_succ]
  refine pl 138 rfl rfl (ex_neq33 (x := .tmp 129) (y := .tmp 137) (e := e) (by kernel_rfl) (by kernel_rfl) (by kernel_rfl)) ?_
  simp only [Act.put, List.setIfInBounds_toArray, List.set_cons_zero, List.set_cons_succ]
  clear hr h17 h7
  cases p with
  | none =>
    have hh : e.held = false := hp.symm
    rw [hh] at c3
    go_wp2_with fail
    exact HK.out _ _ _ _ _ _ _ _ _ _ _ _ _ _ _ _ _ _ 
  | some q =>
    have hh : e.held = true := hp.symm
    rw [hh] at c3
    go_wp2_with fail
    exact HK.out _ _ _ _ _ _ _ _ _ _ _ _ _ _ _ _ _ _ 

set_option maxRecDepth 100000 in
set_option maxHeartbeats 1000000 in
theorem l3r44 (T M : Nat) (wa : World) (hT : wa.cell? ⟨T, 32, none⟩ = some (.map (some M))) (hl : ∀ ty, (Builtin.len_ #[46] ty #[.map (some M)]).run Yba.prog wa = .ok (.int .i64 ((3 : Nat) : Int)) wa) {x0 x1 x2 x3 x4 x6 x7 x8 x9 x10 x11 x12 x13 x14 x15 x16 x17 x18 x19 x20 x21 x22 x23 x24 x25 x26 x27 x28 x29 x30 x31 x32 x33 x34 x35 x36 x37 x38 x39 x40 x41 x42 x43 x44 x45 x46 x47 x48 x49 x50 x51 x52 x53 x54 x55 x56 x57 x58 x59 x60 x61 x62 x63 x64 x65 x66 x67 x68 x69 x70 x71 x72 x73 x74 x75 x76 x77 x78 x79 x80 x81 x82 x83 x84 x85 x86 x87 x88 x89 x90 x91 x92 x93 x94 x95 x96 x97 x98 x99 x100 x101 x102 x103 x104 x105 x106 x107 x108 x109 x110 x111 x112 x113 x114 x115 x116 x117 x118 x119 x120 x121 x122 x123 x124 x125 x126 x127 x128 x129 x130 x131 x132 x133 x134 x135 x136 x137 x138 x139 x140 x141 x142 x143 x144 x145 x146 x147 x148 x149 x150 x151 x152 x153 x154 x155 x156 x157 x158 x159 x160 x161 x162 : Value} (K : Act → World → Prop)
    (hK : ∀ (y157 y158 y159 y160 y161 y162 : Value), K { tmps := #[x0, x1, x2, x3, .bool true, .pointer (some ⟨T, 0, none⟩), x6, x7, x8, x9, x10, x11, x12, x13, x14, x15, x16, x17, x18, x19, x20, x21, x22, x23, x24, x25, x26, x27, x28, x29, x30, x31, x32, x33, x34, x35, x36, x37, x38, x39, x40, x41, x42, x43, x44, x45, x46, x47, x48, x49, x50, x51, x52, x53, x54, x55, x56, x57, x58, x59, x60, x61, x62, x63, x64, x65, x66, x67, x68, x69, x70, x71, x72, x73, x74, x75, x76, x77, x78, x79, x80, x81, x82, x83, x84, x85, x86, x87, x88, x89, x90, x91, x92, x93, x94, x95, x96, x97, x98, x99, x100, x101, x102, x103, x104, x105, x106, x107, x108, x109, x110, x111, x112, x113, x114, x115, x116, x117, x118, x119, x120, x121, x122, x123, x124, x125, x126, x127, x128, x129, x130, x131, x132, x133, x134, x135, x136, x137, x138, x139, x140, x141, x142, x143, x144, x145, x146, x147, x148, x149, x150, x151, x152, x153, x154, x155, x156, y157, y158, y159, y160, y161, y162], defers := [] } (wa)) :
    Code.wp Yba.prog (headC (dropC 9 f3b)) (only K) { tmps := #[x0, x1, x2, x3, x4, .pointer (some ⟨T, 0, none⟩), x6, x7, x8, x9, x10, x11, x12, x13, x14, x15, x16, x17, x18, x19, x20, x21, x22, x23, x24, x25, x26, x27, x28, x29, x30, x31, x32, x33, x34, x35, x36, x37, x38, x39, x40, x41, x42, x43, x44, x45, x46, x47, x48, x49, x50, x51, x52, x53, x54, x55, x56, x57, x58, x59, x60, x61, x62, x63, x64, x65, x66, x67, x68, x69, x70, x71, x72, x73, x74, x75, x76, x77, x78, x79, x80, x81, x82, x83, x84, x85, x86, x87, x88, x89, x90, x91, x92, x93, x94, x95, x96, x97, x98, x99, x100, x101, x102, x103, x104, x105, x106, x107, x108, x109, x110, x111, x112, x113, x114, x115, x116, x117, x118, x119, x120, x121, x122, x123, x124, x125, x126, x127, x128, x129, x130, x131, x132, x133, x134, x135, x136, x137, x138, x139, x140, x141, x142, x143, x144, x145, x146, x147, x148, x149, x150, x151, x152, x153, x154, x155, x156, x157, x158, x159, x160, x161, x162], defers := [] } wa := by
  simp only [f3b, wL, wX, cI, cA, cB, cL, cX, uL, uX, eL, eX, Yba.f3, Option.getD, dropC, headC, tailC, blkC, lupC, thnC, elsC]
  refine wp_region_lit ?_
  refine plk 157 (.pointer (some ⟨T, 0, none⟩)) rfl rfl (by kernel_rfl) ?_
  simp only [Act.put, List.setIfInBounds_toArray, List.set_cons_zero, List.set_cons_succ]
  refine plk 158 (.pointer (some ⟨T, 0, none⟩)) rfl rfl (by kernel_rfl) ?_
  simp only [Act.put, List.setIfInBounds_toArray, List.set_cons_zero, List.set_cons_succ]
  refine pl 159 rfl rfl (ex_field (x := .tmp 158) (i := 8) (t := 55) (by kernel_rfl) (by kernel_rfl) (fa55_8 T _)) ?_
  simp only [Act.put, List.setIfInBounds_toArray, List.set_cons_zero, List.set_cons_succ]
  refine pl 160 rfl rfl (ex_load (x := .tmp 159) (t := 46) (by kernel_rfl) (by kernel_rfl) (ld46 hT)) ?_
  simp only [Act.put, List.setIfInBounds_toArray, List.set_cons_zero, List.set_cons_succ]
  refine pl 161 rfl rfl (lp (x := .tmp 160) (t := 46) (n := 3) (by kernel_rfl) (by kernel_rfl) (hl _)) ?_
  simp only [Act.put, List.setIfInBounds_toArray, List.set_cons_zero, List.set_cons_succ]
  refine plk 162 (.bool true) rfl rfl (by kernel_rfl) ?_
  simp only [Act.put, List.setIfInBounds_toArray, List.set_cons_zero, List.set_cons_succ]
  refine plk 4 (.bool true) rfl rfl (by kernel_rfl) ?_
  simp only [Act.put, List.setIfInBounds_toArray, List.set_cons_zero, List.set_cons_succ]
  exact wpList_nil (hK _ _ _ _ _ _ )
end Go.Proofs.Ybulkblzu

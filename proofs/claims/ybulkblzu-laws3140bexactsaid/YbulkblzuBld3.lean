import Derived.Test.YbulkblzuBld2
import Derived.Deep.WholeRow
namespace Go.Proofs.Ybulkblzu
open Go.RowKit Go.Maps Go.WideMaps
set_option linter.unusedVariables false
set_option linter.unusedSimpArgs false
def Z33 : Array Value := #[z8, z8, z8, z8, z8, z8, z8, z8, z8, z8, z8, z8, z8, z8, z8, z8, z8, z8, z8, z8, .string ByteArray.empty, .int .u16 0]
def Z62 : Array Value := #[.string ByteArray.empty, z8, z8, z8, z8, z8, z8, z8, z8, z8, z8, z8, z8, z8, z8, z8, z8, z8, z8, z8, z8, .string ByteArray.empty, .int .u16 0, .bool false, .pointer none]
def enR (e : Ent) : Array Value := #[.int .u8 e.id, .string e.host, .int .u16 e.port, .bool e.held, .int .u8 e.own]
/-- A heldAddress's cells. -/
def heC (e : Ent) : Array Value := (adC e ++ [Value.pointer none, Value.slice none 0 0]).toArray
theorem one33 (e : Ent) : (adC e).toArray.all (·.oneCell') = true := by kernel_rfl
theorem one62' (e : Ent) (p : Option Addr) : (enC e p).toArray.all (·.oneCell') = true := by kernel_rfl
theorem bl28 (n : Nat) (w : World) : (Instr.build 28 #[(0, .int .u8 n)]).run Yba.prog w = .ok (kA n) w := by kernel_rfl
theorem bl33 (e : Ent) (w : World) : (Instr.build 33 #[(0, kA e.id), (1, .string e.host), (2, .int .u16 e.port)]).run Yba.prog w = .ok (.agg (adC e).toArray) w := by kernel_rfl
theorem bl62 (e : Ent) (w : World) : (Instr.build 62 #[(0, .string e.host), (1, .agg (adC e).toArray), (2, .bool e.held)]).run Yba.prog w = .ok (.agg (enC e none).toArray) w := by kernel_rfl
theorem bl67 (e : Ent) (w : World) : (Instr.build 67 #[(0, .agg (adC e).toArray)]).run Yba.prog w = .ok (.agg (heC e)) w := by kernel_rfl
theorem al33 (w : World) : (Instr.alloc 33 true (.tuple #[])).run Yba.prog w = .ok (.pointer (some ⟨w.heap.size, 0, none⟩)) (w.alloc (.cells Z33 33)) := by kernel_rfl
theorem al62 (w : World) : (Instr.alloc 62 true (.tuple #[])).run Yba.prog w = .ok (.pointer (some ⟨w.heap.size, 0, none⟩)) (w.alloc (.cells Z62 62)) := by kernel_rfl
theorem bx67 (e : Ent) (w : World) : (Instr.box 67 (.agg (heC e))).run Yba.prog w = .ok (.pointer (some ⟨w.heap.size, 0, none⟩)) (w.alloc (.cells (heC e) 67)) := by kernel_rfl
theorem st33 (e : Ent) (w : World) : (Instr.storeAt 33 (.pointer (some ⟨w.heap.size, 0, none⟩)) (.agg (adC e).toArray)).run Yba.prog (w.alloc (.cells Z33 33)) = .ok () (w.alloc (.cells (adC e).toArray 33)) := run_storeAt_new w 33 Z33 _ (by kernel_rfl) (by kernel_rfl) (one33 e)
theorem st62 (e : Ent) (p : Option Addr) (w : World) : (Instr.storeAt 62 (.pointer (some ⟨w.heap.size, 0, none⟩)) (.agg (enC e p).toArray)).run Yba.prog (w.alloc (.cells Z62 62)) = .ok () (w.alloc (.cells (enC e p).toArray 62)) := run_storeAt_new w 62 Z62 _ (by kernel_rfl) (by kernel_rfl) (one62' e p)
theorem fa31_0 (b : Nat) (w : World) : (Instr.fieldAt 31 (.pointer (some ⟨b, 0, none⟩)) 0).run Yba.prog w = .ok (.pointer (some ⟨b, 0, none⟩)) w := by kernel_rfl
theorem fa31_1 (b : Nat) (w : World) : (Instr.fieldAt 31 (.pointer (some ⟨b, 0, none⟩)) 1).run Yba.prog w = .ok (.pointer (some ⟨b, 1, none⟩)) w := by kernel_rfl
theorem fa31_2 (b : Nat) (w : World) : (Instr.fieldAt 31 (.pointer (some ⟨b, 0, none⟩)) 2).run Yba.prog w = .ok (.pointer (some ⟨b, 2, none⟩)) w := by kernel_rfl
theorem fa31_3 (b : Nat) (w : World) : (Instr.fieldAt 31 (.pointer (some ⟨b, 0, none⟩)) 3).run Yba.prog w = .ok (.pointer (some ⟨b, 3, none⟩)) w := by kernel_rfl
theorem fa62_3 (b : Nat) (w : World) : (Instr.fieldAt 62 (.pointer (some ⟨b, 0, none⟩)) 3).run Yba.prog w = .ok (.pointer (some ⟨b, 24, none⟩)) w := by kernel_rfl
section
variable {v : Value} {b o : Nat} {w : World}
theorem ld5 (h : w.cell? ⟨b, o, none⟩ = some v) : (Instr.loadAt 5 (.pointer (some ⟨b, o, none⟩))).run Yba.prog w = .ok v w := by go_simp
theorem ld9 (h : w.cell? ⟨b, o, none⟩ = some v) : (Instr.loadAt 9 (.pointer (some ⟨b, o, none⟩))).run Yba.prog w = .ok v w := by go_simp
theorem ld29 (h : w.cell? ⟨b, o, none⟩ = some v) : (Instr.loadAt 29 (.pointer (some ⟨b, o, none⟩))).run Yba.prog w = .ok v w := by go_simp
theorem ld4 (h : w.cell? ⟨b, o, none⟩ = some v) : (Instr.loadAt 4 (.pointer (some ⟨b, o, none⟩))).run Yba.prog w = .ok v w := by go_simp
theorem st60 {p : Option Addr} (h : w.cell? ⟨b, o, none⟩ = some v) (hf : w.frozen? ⟨b, o, none⟩ = false) : (Instr.storeAt 60 (.pointer (some ⟨b, o, none⟩)) (.pointer p)).run Yba.prog w = .ok () (w.setCell ⟨b, o, none⟩ (.pointer p)) := by go_simp
end
theorem ld33 {e : Ent} {A : Nat} {w : World} (hA : w.heap[A]? = some (.cells (adC e).toArray 33 (0, 0))) : (Instr.loadAt 33 (.pointer (some ⟨A, 0, none⟩))).run Yba.prog w = .ok (.agg (adC e).toArray) w := by
  simp only [Instr.loadAt, Instr.sureAddr, Sem.run_bind, Sem.run_pure, Result.andThen_ok, run_loadVar_row w A 33 33 _ (0, 0) _ hA Yba.underlying33 rfl (by kernel_rfl)]

set_option maxRecDepth 100000 in
set_option maxHeartbeats 1000000 in
theorem b4r10 (e : Ent) (b off nn c0 i : Nat) (wr : World) (hin : (i : Int) < (nn : Int)) (q0 : wr.cell? ⟨b, off + i * 5, none⟩ = some (.int .u8 e.id)) (q1 : wr.cell? ⟨b, off + i * 5 + 1, none⟩ = some (.string e.host)) (q2 : wr.cell? ⟨b, off + i * 5 + 2, none⟩ = some (.int .u16 e.port)) (q3 : wr.cell? ⟨b, off + i * 5 + 3, none⟩ = some (.bool e.held)) (q4 : wr.cell? ⟨b, off + i * 5 + 4, none⟩ = some (.int .u8 e.own)) {x0 x1 x2 x3 x4 x5 x6 x7 x8 x9 x10 x11 x12 x13 x14 x15 x16 x17 x18 x19 x20 x21 x22 x23 x24 x25 x26 x27 x28 x29 x30 x31 x32 x33 x34 x35 x37 x39 x40 x41 x42 x43 x44 x45 x46 x47 x48 x49 x50 x51 x52 x53 x54 x55 x56 x57 x58 x59 x60 x61 x62 x63 x64 x65 x66 x67 x68 x69 x70 x71 x72 x73 x74 x75 x76 x77 x78 x79 : Value} (K : Act → World → Prop)
    (hK : ∀ (y40 y41 : Value), K { tmps := #[x0, x1, x2, x3, x4, x5, x6, .pointer (some ⟨wr.heap.size, 0, none⟩), x8, x9, x10, x11, x12, x13, x14, x15, x16, x17, x18, x19, x20, x21, x22, x23, x24, x25, x26, x27, x28, x29, x30, x31, x32, x33, x34, x35, .slice (some ⟨b, off, none⟩) nn c0, x37, .int .i64 (i : Nat), x39, y40, y41, x42, x43, x44, x45, x46, x47, x48, x49, x50, x51, x52, x53, x54, x55, x56, x57, x58, x59, x60, x61, x62, x63, x64, x65, x66, x67, x68, x69, x70, x71, x72, x73, x74, x75, x76, x77, x78, x79], defers := [] } (wr.alloc (.cells (enR e) 31))) :
    Code.wp Yba.prog (headC bX) (only K) { tmps := #[x0, x1, x2, x3, x4, x5, x6, x7, x8, x9, x10, x11, x12, x13, x14, x15, x16, x17, x18, x19, x20, x21, x22, x23, x24, x25, x26, x27, x28, x29, x30, x31, x32, x33, x34, x35, .slice (some ⟨b, off, none⟩) nn c0, x37, .int .i64 (i : Nat), x39, x40, x41, x42, x43, x44, x45, x46, x47, x48, x49, x50, x51, x52, x53, x54, x55, x56, x57, x58, x59, x60, x61, x62, x63, x64, x65, x66, x67, x68, x69, x70, x71, x72, x73, x74, x75, x76, x77, x78, x79], defers := [] } wr := by
  have HK := hid hK
  clear hK
  simp only [bX, Yba.f4, Option.getD, dropC, headC, tailC, blkC, lupC]
  go_wp2_with fail
  exact HK.out _ _ 

set_option maxRecDepth 100000 in
set_option maxHeartbeats 1000000 in
theorem b4r11 (e : Ent) (b7 : Nat) (wa : World) (h7 : wa.heap[b7]? = some (.cells (enR e) 31 (0, 0))) {x0 x1 x2 x3 x4 x5 x6 x8 x9 x10 x11 x12 x13 x14 x15 x16 x17 x18 x19 x20 x21 x22 x23 x24 x25 x26 x27 x28 x29 x30 x31 x32 x33 x34 x35 x36 x37 x38 x39 x40 x41 x42 x43 x44 x45 x46 x47 x48 x49 x50 x51 x52 x53 x54 x55 x56 x57 x58 x59 x60 x61 x62 x63 x64 x65 x66 x67 x68 x69 x70 x71 x72 x73 x74 x75 x76 x77 x78 x79 : Value} (K : Act → World → Prop)
    (hK : ∀ (y42 y43 y44 y45 y46 y47 y48 y49 : Value), K { tmps := #[x0, x1, x2, x3, x4, x5, x6, .pointer (some ⟨b7, 0, none⟩), .pointer (some ⟨wa.heap.size, 0, none⟩), x9, x10, x11, x12, x13, x14, x15, x16, x17, x18, x19, x20, x21, x22, x23, x24, x25, x26, x27, x28, x29, x30, x31, x32, x33, x34, x35, x36, x37, x38, x39, x40, x41, y42, y43, y44, y45, y46, y47, y48, y49, x50, x51, x52, x53, x54, x55, x56, x57, x58, x59, x60, x61, x62, x63, x64, x65, x66, x67, x68, x69, x70, x71, x72, x73, x74, x75, x76, x77, x78, x79], defers := [] } (wa.alloc (.cells (adC e).toArray 33))) :
    Code.wp Yba.prog (headC (dropC 1 bX)) (only K) { tmps := #[x0, x1, x2, x3, x4, x5, x6, .pointer (some ⟨b7, 0, none⟩), x8, x9, x10, x11, x12, x13, x14, x15, x16, x17, x18, x19, x20, x21, x22, x23, x24, x25, x26, x27, x28, x29, x30, x31, x32, x33, x34, x35, x36, x37, x38, x39, x40, x41, x42, x43, x44, x45, x46, x47, x48, x49, x50, x51, x52, x53, x54, x55, x56, x57, x58, x59, x60, x61, x62, x63, x64, x65, x66, x67, x68, x69, x70, x71, x72, x73, x74, x75, x76, x77, x78, x79], defers := [] } wa := by
  have c0 : wa.cell? ⟨b7, 0, none⟩ = some (.int .u8 e.id) := by rw [cell_of_row wa b7 0 _ 31 (0, 0) h7]; rfl
  have c1 : wa.cell? ⟨b7, 1, none⟩ = some (.string e.host) := by rw [cell_of_row wa b7 1 _ 31 (0, 0) h7]; rfl
  have c2 : wa.cell? ⟨b7, 2, none⟩ = some (.int .u16 e.port) := by rw [cell_of_row wa b7 2 _ 31 (0, 0) h7]; rfl
  have c3 : wa.cell? ⟨b7, 3, none⟩ = some (.bool e.held) := by rw [cell_of_row wa b7 3 _ 31 (0, 0) h7]; rfl
  have c4 : wa.cell? ⟨b7, 4, none⟩ = some (.int .u8 e.own) := by rw [cell_of_row wa b7 4 _ 31 (0, 0) h7]; rfl
  simp only [bX, Yba.f4, Option.getD, dropC, headC, tailC, blkC, lupC, thnC, elsC]
  refine wp_region_lit ?_
  refine pl 42 rfl rfl (ex_field (x := .tmp 7) (i := 0) (t := 31) (by kernel_rfl) (by kernel_rfl) (fa31_0 b7 _)) ?_
  simp only [Act.put, List.setIfInBounds_toArray, List.set_cons_zero, List.set_cons_succ]
  refine pl 43 rfl rfl (ex_load (x := .tmp 42) (t := 5) (by kernel_rfl) (by kernel_rfl) (ld5 c0)) ?_
  simp only [Act.put, List.setIfInBounds_toArray, List.set_cons_zero, List.set_cons_succ]
  refine pl 44 rfl rfl (ex_build1 (x := .tmp 43) (t := 28) (by kernel_rfl) (by kernel_rfl) (bl28 e.id _)) ?_
  simp only [Act.put, List.setIfInBounds_toArray, List.set_cons_zero, List.set_cons_succ]
  refine pl 45 rfl rfl (ex_field (x := .tmp 7) (i := 1) (t := 31) (by kernel_rfl) (by kernel_rfl) (fa31_1 b7 _)) ?_
  simp only [Act.put, List.setIfInBounds_toArray, List.set_cons_zero, List.set_cons_succ]
  refine pl 46 rfl rfl (ex_load (x := .tmp 45) (t := 9) (by kernel_rfl) (by kernel_rfl) (ld9 c1)) ?_
  simp only [Act.put, List.setIfInBounds_toArray, List.set_cons_zero, List.set_cons_succ]
  refine pl 47 rfl rfl (ex_field (x := .tmp 7) (i := 2) (t := 31) (by kernel_rfl) (by kernel_rfl) (fa31_2 b7 _)) ?_
  simp only [Act.put, List.setIfInBounds_toArray, List.set_cons_zero, List.set_cons_succ]
  refine pl 48 rfl rfl (ex_load (x := .tmp 47) (t := 29) (by kernel_rfl) (by kernel_rfl) (ld29 c2)) ?_
  simp only [Act.put, List.setIfInBounds_toArray, List.set_cons_zero, List.set_cons_succ]
  refine pl 49 rfl rfl (ex_build3 (x := .tmp 44) (y := .tmp 46) (z := .tmp 48) (t := 33) (by kernel_rfl) (by kernel_rfl) (by kernel_rfl) (by kernel_rfl) (bl33 e _)) ?_
  simp only [Act.put, List.setIfInBounds_toArray, List.set_cons_zero, List.set_cons_succ]
  refine pl 8 rfl rfl (ex_alloc (t := 33) (by kernel_rfl) (al33 _)) ?_
  simp only [Act.put, List.setIfInBounds_toArray, List.set_cons_zero, List.set_cons_succ]
  refine pls (x := .tmp 8) (y := .tmp 49) (t := 33) rfl rfl (by kernel_rfl) (by kernel_rfl) (by kernel_rfl) (st33 e _) ?_
  exact wpList_nil (hK _ _ _ _ _ _ _ _ )

set_option maxRecDepth 100000 in
set_option maxHeartbeats 1000000 in
theorem b4r12 (e : Ent) (b7 b8 : Nat) (wa : World) (h7 : wa.heap[b7]? = some (.cells (enR e) 31 (0, 0))) (h8 : wa.heap[b8]? = some (.cells (adC e).toArray 33 (0, 0))) {x0 x1 x2 x3 x4 x5 x6 x9 x10 x11 x12 x13 x14 x15 x16 x17 x18 x19 x20 x21 x22 x23 x24 x25 x26 x27 x28 x29 x30 x31 x32 x33 x34 x35 x36 x37 x38 x39 x40 x41 x42 x43 x44 x45 x46 x47 x48 x49 x50 x51 x52 x53 x54 x55 x56 x57 x58 x59 x60 x61 x62 x63 x64 x65 x66 x67 x68 x69 x70 x71 x72 x73 x74 x75 x76 x77 x78 x79 : Value} (K : Act → World → Prop)
    (hK : ∀ (y50 y51 y52 y53 y54 y55 : Value), K { tmps := #[x0, x1, x2, x3, x4, x5, x6, .pointer (some ⟨b7, 0, none⟩), .pointer (some ⟨b8, 0, none⟩), .pointer (some ⟨wa.heap.size, 0, none⟩), x10, x11, x12, x13, x14, x15, x16, x17, x18, x19, x20, x21, x22, x23, x24, x25, x26, x27, x28, x29, x30, x31, x32, x33, x34, x35, x36, x37, x38, x39, x40, x41, x42, x43, x44, x45, x46, x47, x48, x49, y50, y51, y52, y53, y54, y55, x56, x57, x58, x59, x60, x61, x62, x63, x64, x65, x66, x67, x68, x69, x70, x71, x72, x73, x74, x75, x76, x77, x78, x79], defers := [] } (wa.alloc (.cells (enC e none).toArray 62))) :
    Code.wp Yba.prog (headC (dropC 2 bX)) (only K) { tmps := #[x0, x1, x2, x3, x4, x5, x6, .pointer (some ⟨b7, 0, none⟩), .pointer (some ⟨b8, 0, none⟩), x9, x10, x11, x12, x13, x14, x15, x16, x17, x18, x19, x20, x21, x22, x23, x24, x25, x26, x27, x28, x29, x30, x31, x32, x33, x34, x35, x36, x37, x38, x39, x40, x41, x42, x43, x44, x45, x46, x47, x48, x49, x50, x51, x52, x53, x54, x55, x56, x57, x58, x59, x60, x61, x62, x63, x64, x65, x66, x67, x68, x69, x70, x71, x72, x73, x74, x75, x76, x77, x78, x79], defers := [] } wa := by
  have c0 : wa.cell? ⟨b7, 0, none⟩ = some (.int .u8 e.id) := by rw [cell_of_row wa b7 0 _ 31 (0, 0) h7]; rfl
  have c1 : wa.cell? ⟨b7, 1, none⟩ = some (.string e.host) := by rw [cell_of_row wa b7 1 _ 31 (0, 0) h7]; rfl
  have c2 : wa.cell? ⟨b7, 2, none⟩ = some (.int .u16 e.port) := by rw [cell_of_row wa b7 2 _ 31 (0, 0) h7]; rfl
  have c3 : wa.cell? ⟨b7, 3, none⟩ = some (.bool e.held) := by rw [cell_of_row wa b7 3 _ 31 (0, 0) h7]; rfl
  have c4 : wa.cell? ⟨b7, 4, none⟩ = some (.int .u8 e.own) := by rw [cell_of_row wa b7 4 _ 31 (0, 0) h7]; rfl
  simp only [bX, Yba.f4, Option.getD, dropC, headC, tailC, blkC, lupC, thnC, elsC]
  refine wp_region_lit ?_
  refine pl 50 rfl rfl (ex_field (x := .tmp 7) (i := 1) (t := 31) (by kernel_rfl) (by kernel_rfl) (fa31_1 b7 _)) ?_
  simp only [Act.put, List.setIfInBounds_toArray, List.set_cons_zero, List.set_cons_succ]
  refine pl 51 rfl rfl (ex_load (x := .tmp 50) (t := 9) (by kernel_rfl) (by kernel_rfl) (ld9 c1)) ?_
  simp only [Act.put, List.setIfInBounds_toArray, List.set_cons_zero, List.set_cons_succ]
  refine pl 52 rfl rfl (ex_load (x := .tmp 8) (t := 33) (by kernel_rfl) (by kernel_rfl) (ld33 h8)) ?_
  simp only [Act.put, List.setIfInBounds_toArray, List.set_cons_zero, List.set_cons_succ]
  refine pl 53 rfl rfl (ex_field (x := .tmp 7) (i := 3) (t := 31) (by kernel_rfl) (by kernel_rfl) (fa31_3 b7 _)) ?_
  simp only [Act.put, List.setIfInBounds_toArray, List.set_cons_zero, List.set_cons_succ]
  refine pl 54 rfl rfl (ex_load (x := .tmp 53) (t := 4) (by kernel_rfl) (by kernel_rfl) (ld4 c3)) ?_
  simp only [Act.put, List.setIfInBounds_toArray, List.set_cons_zero, List.set_cons_succ]
  refine pl 55 rfl rfl (ex_build3 (x := .tmp 51) (y := .tmp 52) (z := .tmp 54) (t := 62) (by kernel_rfl) (by kernel_rfl) (by kernel_rfl) (by kernel_rfl) (bl62 e _)) ?_
  simp only [Act.put, List.setIfInBounds_toArray, List.set_cons_zero, List.set_cons_succ]
  refine pl 9 rfl rfl (ex_alloc (t := 62) (by kernel_rfl) (al62 _)) ?_
  simp only [Act.put, List.setIfInBounds_toArray, List.set_cons_zero, List.set_cons_succ]
  refine pls (x := .tmp 9) (y := .tmp 55) (t := 62) rfl rfl (by kernel_rfl) (by kernel_rfl) (by kernel_rfl) (st62 e none _) ?_
  exact wpList_nil (hK _ _ _ _ _ _ )

set_option maxRecDepth 100000 in
set_option maxHeartbeats 1000000 in
theorem b4r13 (e : Ent) (b7 : Nat) (wa : World) (h7 : wa.heap[b7]? = some (.cells (enR e) 31 (0, 0))) {x0 x1 x2 x3 x4 x5 x6 x8 x9 x10 x11 x12 x13 x14 x15 x16 x17 x18 x19 x20 x21 x22 x23 x24 x25 x26 x27 x28 x29 x30 x31 x32 x33 x34 x35 x36 x37 x38 x39 x40 x41 x42 x43 x44 x45 x46 x47 x48 x49 x50 x51 x52 x53 x54 x55 x56 x57 x58 x59 x60 x61 x62 x63 x64 x65 x66 x67 x68 x69 x70 x71 x72 x73 x74 x75 x76 x77 x78 x79 : Value} (K : Act → World → Prop)
    (hK : ∀ (y56 : Value), K { tmps := #[x0, x1, x2, x3, x4, x5, x6, .pointer (some ⟨b7, 0, none⟩), x8, x9, x10, x11, x12, x13, x14, x15, x16, x17, x18, x19, x20, x21, x22, x23, x24, x25, x26, x27, x28, x29, x30, x31, x32, x33, x34, x35, x36, x37, x38, x39, x40, x41, x42, x43, x44, x45, x46, x47, x48, x49, x50, x51, x52, x53, x54, x55, y56, .bool e.held, x58, x59, x60, x61, x62, x63, x64, x65, x66, x67, x68, x69, x70, x71, x72, x73, x74, x75, x76, x77, x78, x79], defers := [] } (wa)) :
    Code.wp Yba.prog (headC (headC (dropC 3 bX))) (only K) { tmps := #[x0, x1, x2, x3, x4, x5, x6, .pointer (some ⟨b7, 0, none⟩), x8, x9, x10, x11, x12, x13, x14, x15, x16, x17, x18, x19, x20, x21, x22, x23, x24, x25, x26, x27, x28, x29, x30, x31, x32, x33, x34, x35, x36, x37, x38, x39, x40, x41, x42, x43, x44, x45, x46, x47, x48, x49, x50, x51, x52, x53, x54, x55, x56, x57, x58, x59, x60, x61, x62, x63, x64, x65, x66, x67, x68, x69, x70, x71, x72, x73, x74, x75, x76, x77, x78, x79], defers := [] } wa := by
  have c0 : wa.cell? ⟨b7, 0, none⟩ = some (.int .u8 e.id) := by rw [cell_of_row wa b7 0 _ 31 (0, 0) h7]; rfl
  have c1 : wa.cell? ⟨b7, 1, none⟩ = some (.string e.host) := by rw [cell_of_row wa b7 1 _ 31 (0, 0) h7]; rfl
  have c2 : wa.cell? ⟨b7, 2, none⟩ = some (.int .u16 e.port) := by rw [cell_of_row wa b7 2 _ 31 (0, 0) h7]; rfl
  have c3 : wa.cell? ⟨b7, 3, none⟩ = some (.bool e.held) := by rw [cell_of_row wa b7 3 _ 31 (0, 0) h7]; rfl
  have c4 : wa.cell? ⟨b7, 4, none⟩ = some (.int .u8 e.own) := by rw [cell_of_row wa b7 4 _ 31 (0, 0) h7]; rfl
  simp only [bX, Yba.f4, Option.getD, dropC, headC, tailC, blkC, lupC, thnC, elsC]
  refine wp_region_lit ?_
  refine pl 56 rfl rfl (ex_field (x := .tmp 7) (i := 3) (t := 31) (by kernel_rfl) (by kernel_rfl) (fa31_3 b7 _)) ?_
  simp only [Act.put, List.setIfInBounds_toArray, List.set_cons_zero, List.set_cons_succ]
  refine pl 57 rfl rfl (ex_load (x := .tmp 56) (t := 4) (by kernel_rfl) (by kernel_rfl) (ld4 c3)) ?_
  simp only [Act.put, List.setIfInBounds_toArray, List.set_cons_zero, List.set_cons_succ]
  exact wpList_nil (hK _ )

set_option maxRecDepth 100000 in
set_option maxHeartbeats 1000000 in
theorem b4r14 (e : Ent) (b8 b9 : Nat) (wa : World) (h8 : wa.heap[b8]? = some (.cells (adC e).toArray 33 (0, 0))) (h9 : wa.heap[b9]? = some (.cells (enC e none).toArray 62 (0, 0))) {x0 x1 x2 x3 x4 x5 x6 x7 x10 x11 x12 x13 x14 x15 x16 x17 x18 x19 x20 x21 x22 x23 x24 x25 x26 x27 x28 x29 x30 x31 x32 x33 x34 x35 x36 x37 x38 x39 x40 x41 x42 x43 x44 x45 x46 x47 x48 x49 x50 x51 x52 x53 x54 x55 x56 x57 x58 x59 x60 x61 x62 x63 x64 x65 x66 x67 x68 x69 x70 x71 x72 x73 x74 x75 x76 x77 x78 x79 : Value} (K : Act → World → Prop)
    (hK : ∀ (y58 y59 y60 y61 : Value), K { tmps := #[x0, x1, x2, x3, x4, x5, x6, x7, .pointer (some ⟨b8, 0, none⟩), .pointer (some ⟨b9, 0, none⟩), x10, x11, x12, x13, x14, x15, x16, x17, x18, x19, x20, x21, x22, x23, x24, x25, x26, x27, x28, x29, x30, x31, x32, x33, x34, x35, x36, x37, x38, x39, x40, x41, x42, x43, x44, x45, x46, x47, x48, x49, x50, x51, x52, x53, x54, x55, x56, x57, y58, y59, y60, y61, x62, x63, x64, x65, x66, x67, x68, x69, x70, x71, x72, x73, x74, x75, x76, x77, x78, x79], defers := [] } ((wa.alloc (.cells (heC e) 67)).setCell ⟨b9, 24, none⟩ (.pointer (some ⟨wa.heap.size, 0, none⟩)))) :
    Code.wp Yba.prog (thnC (tailC (headC (dropC 3 bX)))) (only K) { tmps := #[x0, x1, x2, x3, x4, x5, x6, x7, .pointer (some ⟨b8, 0, none⟩), .pointer (some ⟨b9, 0, none⟩), x10, x11, x12, x13, x14, x15, x16, x17, x18, x19, x20, x21, x22, x23, x24, x25, x26, x27, x28, x29, x30, x31, x32, x33, x34, x35, x36, x37, x38, x39, x40, x41, x42, x43, x44, x45, x46, x47, x48, x49, x50, x51, x52, x53, x54, x55, x56, x57, x58, x59, x60, x61, x62, x63, x64, x65, x66, x67, x68, x69, x70, x71, x72, x73, x74, x75, x76, x77, x78, x79], defers := [] } wa := by
  have l9 : b9 < wa.heap.size := (Array.getElem?_eq_some_iff.1 h9).1
  have h9' : (wa.alloc (.cells (heC e) 67)).heap[b9]? = some (.cells (enC e none).toArray 62 (0, 0)) := (Below.heap_alloc _ _ _ l9).trans h9
  have c24 : (wa.alloc (.cells (heC e) 67)).cell? ⟨b9, 24, none⟩ = some (.pointer none) := by rw [cell_of_row _ b9 24 _ 62 (0, 0) h9']; rfl
  have f24 : (wa.alloc (.cells (heC e) 67)).frozen? ⟨b9, 24, none⟩ = false := by unfold World.frozen?; rw [show (World.heap _)[(⟨b9, 24, none⟩ : Addr).block]? = _ from h9']; simp
  simp only [bX, Yba.f4, Option.getD, dropC, headC, tailC, blkC, lupC, thnC, elsC]
  refine wp_region_lit ?_
  refine pl 58 rfl rfl (ex_load (x := .tmp 8) (t := 33) (by kernel_rfl) (by kernel_rfl) (ld33 h8)) ?_
  simp only [Act.put, List.setIfInBounds_toArray, List.set_cons_zero, List.set_cons_succ]
  refine pl 59 rfl rfl (ex_build1 (x := .tmp 58) (t := 67) (by kernel_rfl) (by kernel_rfl) (bl67 e _)) ?_
  simp only [Act.put, List.setIfInBounds_toArray, List.set_cons_zero, List.set_cons_succ]
  refine pl 60 rfl rfl (ex_box (x := .tmp 59) (t := 67) (by kernel_rfl) (by kernel_rfl) (bx67 e _)) ?_
  simp only [Act.put, List.setIfInBounds_toArray, List.set_cons_zero, List.set_cons_succ]
  refine pl 61 rfl rfl (ex_field (x := .tmp 9) (i := 3) (t := 62) (by kernel_rfl) (by kernel_rfl) (fa62_3 b9 _)) ?_
  simp only [Act.put, List.setIfInBounds_toArray, List.set_cons_zero, List.set_cons_succ]
  refine pls (x := .tmp 61) (y := .tmp 60) (t := 60) rfl rfl (by kernel_rfl) (by kernel_rfl) (by kernel_rfl) (st60 (p := some ⟨wa.heap.size, 0, none⟩) c24 f24) ?_
  exact wpList_nil (hK _ _ _ _ )

set_option maxRecDepth 100000 in
set_option maxHeartbeats 1000000 in
theorem b4r15 (e : Ent) (b7 Bs s N : Nat) (wa : World) (h7 : wa.heap[b7]? = some (.cells (enR e) 31 (0, 0))) (hown : e.own ≤ 255) (ho : e.own % 3 = s) (hs : s < 3) (hss : wa.cell? ⟨Bs, s, none⟩ = some (.pointer (some ⟨N, 0, none⟩))) {x0 x1 x2 x3 x5 x6 x8 x9 x10 x11 x12 x13 x14 x15 x16 x17 x18 x19 x20 x21 x22 x23 x24 x25 x26 x27 x28 x29 x30 x31 x32 x33 x34 x35 x36 x37 x38 x39 x40 x41 x42 x43 x44 x45 x46 x47 x48 x49 x50 x51 x52 x53 x54 x55 x56 x57 x58 x59 x60 x61 x62 x63 x64 x65 x66 x67 x68 x69 x70 x71 x72 x73 x74 x75 x76 x77 x78 x79 : Value} (K : Act → World → Prop)
    (hK : ∀ (y62 y63 y64 y65 y66 y67 : Value), K { tmps := #[x0, x1, x2, x3, .pointer (some ⟨Bs, 0, none⟩), x5, x6, .pointer (some ⟨b7, 0, none⟩), x8, x9, .pointer (some ⟨N, 0, none⟩), x11, x12, x13, x14, x15, x16, x17, x18, x19, x20, x21, x22, x23, x24, x25, x26, x27, x28, x29, x30, x31, x32, x33, x34, x35, x36, x37, x38, x39, x40, x41, x42, x43, x44, x45, x46, x47, x48, x49, x50, x51, x52, x53, x54, x55, x56, x57, x58, x59, x60, x61, y62, y63, y64, y65, y66, y67, x68, x69, x70, x71, x72, x73, x74, x75, x76, x77, x78, x79], defers := [] } (wa)) :
    Code.wp Yba.prog (headC (dropC 4 bX)) (only K) { tmps := #[x0, x1, x2, x3, .pointer (some ⟨Bs, 0, none⟩), x5, x6, .pointer (some ⟨b7, 0, none⟩), x8, x9, x10, x11, x12, x13, x14, x15, x16, x17, x18, x19, x20, x21, x22, x23, x24, x25, x26, x27, x28, x29, x30, x31, x32, x33, x34, x35, x36, x37, x38, x39, x40, x41, x42, x43, x44, x45, x46, x47, x48, x49, x50, x51, x52, x53, x54, x55, x56, x57, x58, x59, x60, x61, x62, x63, x64, x65, x66, x67, x68, x69, x70, x71, x72, x73, x74, x75, x76, x77, x78, x79], defers := [] } wa := by
  subst ho
  have c0 : wa.cell? ⟨b7, 0, none⟩ = some (.int .u8 e.id) := by rw [cell_of_row wa b7 0 _ 31 (0, 0) h7]; rfl
  have c1 : wa.cell? ⟨b7, 1, none⟩ = some (.string e.host) := by rw [cell_of_row wa b7 1 _ 31 (0, 0) h7]; rfl
  have c2 : wa.cell? ⟨b7, 2, none⟩ = some (.int .u16 e.port) := by rw [cell_of_row wa b7 2 _ 31 (0, 0) h7]; rfl
  have c3 : wa.cell? ⟨b7, 3, none⟩ = some (.bool e.held) := by rw [cell_of_row wa b7 3 _ 31 (0, 0) h7]; rfl
  have c4 : wa.cell? ⟨b7, 4, none⟩ = some (.int .u8 e.own) := by rw [cell_of_row wa b7 4 _ 31 (0, 0) h7]; rfl
  have l7 : b7 < wa.heap.size := (Array.getElem?_eq_some_iff.1 h7).1
  have hsA : 0 ≤ (e.own : Int) % 3 := by omega
  have hsB : (e.own : Int) % 3 < 3 := by omega
  have hss' : wa.cell? ⟨Bs, ((e.own : Int) % 3).toNat, none⟩ = some (.pointer (some ⟨N, 0, none⟩)) := by rw [show ((e.own : Int) % 3).toNat = e.own % 3 from by omega]; exact hss
  have lB : Bs < wa.heap.size := World.block_lt_of_cell? wa _ hss
  clear h7
  have HK := hid hK
  clear hK
  simp only [bX, Yba.f4, Option.getD, dropC, headC, tailC, blkC, lupC]
  go_wp2_with fail
  exact HK.out _ _ _ _ _ _ 
end Go.Proofs.Ybulkblzu

import Derived.Test.YbulkblsgFmtAm
import Derived.Test.YbulkblsgFmtOn
import Derived.Test.YbulkblsgFmtTa
import Derived.Test.YbulkblsgFmtTb
namespace Go.Proofs.YbulkblsgFmt
open Go.RowKit
set_option linter.unusedVariables false
set_option linter.unusedSimpArgs false
section
variable {w : World} {b o n c i : Nat} {v : Value}
theorem ld21 (h : w.cell? ⟨b, o, none⟩ = some v) : (Instr.loadAt 21 (.pointer (some ⟨b, o, none⟩))).run Ybaf.prog w = .ok v w := by go_simp
theorem ld27 (h : w.cell? ⟨b, o, none⟩ = some v) : (Instr.loadAt 27 (.pointer (some ⟨b, o, none⟩))).run Ybaf.prog w = .ok v w := by go_simp
theorem ld35 (h : w.cell? ⟨b, o, none⟩ = some v) : (Instr.loadAt 35 (.pointer (some ⟨b, o, none⟩))).run Ybaf.prog w = .ok v w := by go_simp
theorem ld36 (h : w.cell? ⟨b, o, none⟩ = some v) : (Instr.loadAt 36 (.pointer (some ⟨b, o, none⟩))).run Ybaf.prog w = .ok v w := by go_simp
theorem ld26 (h : w.cell? ⟨b, o, none⟩ = some v) : (Instr.loadAt 26 (.pointer (some ⟨b, o, none⟩))).run Ybaf.prog w = .ok v w := by go_simp
theorem ld25 (h : w.cell? ⟨b, o, none⟩ = some v) : (Instr.loadAt 25 (.pointer (some ⟨b, o, none⟩))).run Ybaf.prog w = .ok v w := by go_simp
theorem ld4 (h : w.cell? ⟨b, o, none⟩ = some v) : (Instr.loadAt 4 (.pointer (some ⟨b, o, none⟩))).run Ybaf.prog w = .ok v w := by go_simp
theorem ld3 (h : w.cell? ⟨b, o, none⟩ = some v) : (Instr.loadAt 3 (.pointer (some ⟨b, o, none⟩))).run Ybaf.prog w = .ok v w := by go_simp
theorem st21 {r : Int} (h : w.cell? ⟨b, o, none⟩ = some v) (hf : w.frozen? ⟨b, o, none⟩ = false) : (Instr.storeAt 21 (.pointer (some ⟨b, o, none⟩)) (.int .i32 r)).run Ybaf.prog w = .ok () (w.setCell ⟨b, o, none⟩ (.int .i32 r)) := by go_simp
theorem st27 {r : Int} (h : w.cell? ⟨b, o, none⟩ = some v) (hf : w.frozen? ⟨b, o, none⟩ = false) : (Instr.storeAt 27 (.pointer (some ⟨b, o, none⟩)) (.int .i64 r)).run Ybaf.prog w = .ok () (w.setCell ⟨b, o, none⟩ (.int .i64 r)) := by go_simp
theorem st35 {r : Int} (h : w.cell? ⟨b, o, none⟩ = some v) (hf : w.frozen? ⟨b, o, none⟩ = false) : (Instr.storeAt 35 (.pointer (some ⟨b, o, none⟩)) (.int .u64 r)).run Ybaf.prog w = .ok () (w.setCell ⟨b, o, none⟩ (.int .u64 r)) := by go_simp
theorem st3 {r : Int} (h : w.cell? ⟨b, o, none⟩ = some v) (hf : w.frozen? ⟨b, o, none⟩ = false) : (Instr.storeAt 3 (.pointer (some ⟨b, o, none⟩)) (.int .i64 r)).run Ybaf.prog w = .ok () (w.setCell ⟨b, o, none⟩ (.int .i64 r)) := by go_simp
theorem st4 {r : Bool} (h : w.cell? ⟨b, o, none⟩ = some v) (hf : w.frozen? ⟨b, o, none⟩ = false) : (Instr.storeAt 4 (.pointer (some ⟨b, o, none⟩)) (.bool r)).run Ybaf.prog w = .ok () (w.setCell ⟨b, o, none⟩ (.bool r)) := by go_simp
theorem fa42_0 : (Instr.fieldAt 42 (.pointer (some ⟨b, o, none⟩)) 0).run Ybaf.prog w = .ok (.pointer (some ⟨b, o + 0, none⟩)) w := by kernel_rfl
theorem fa42_2 : (Instr.fieldAt 42 (.pointer (some ⟨b, o, none⟩)) 2).run Ybaf.prog w = .ok (.pointer (some ⟨b, o + 2, none⟩)) w := by kernel_rfl
theorem fa42_3 : (Instr.fieldAt 42 (.pointer (some ⟨b, o, none⟩)) 3).run Ybaf.prog w = .ok (.pointer (some ⟨b, o + 3, none⟩)) w := by kernel_rfl
theorem fa42_4 : (Instr.fieldAt 42 (.pointer (some ⟨b, o, none⟩)) 4).run Ybaf.prog w = .ok (.pointer (some ⟨b, o + 4, none⟩)) w := by kernel_rfl
theorem fa42_5 : (Instr.fieldAt 42 (.pointer (some ⟨b, o, none⟩)) 5).run Ybaf.prog w = .ok (.pointer (some ⟨b, o + 709, none⟩)) w := by kernel_rfl
theorem fa42_6 : (Instr.fieldAt 42 (.pointer (some ⟨b, o, none⟩)) 6).run Ybaf.prog w = .ok (.pointer (some ⟨b, o + 720, none⟩)) w := by kernel_rfl
theorem fa44_0 : (Instr.fieldAt 44 (.pointer (some ⟨b, o, none⟩)) 0).run Ybaf.prog w = .ok (.pointer (some ⟨b, o + 0, none⟩)) w := by kernel_rfl
theorem fa44_1 : (Instr.fieldAt 44 (.pointer (some ⟨b, o, none⟩)) 1).run Ybaf.prog w = .ok (.pointer (some ⟨b, o + 1, none⟩)) w := by kernel_rfl
theorem fa44_2 : (Instr.fieldAt 44 (.pointer (some ⟨b, o, none⟩)) 2).run Ybaf.prog w = .ok (.pointer (some ⟨b, o + 2, none⟩)) w := by kernel_rfl
theorem fa40_0 : (Instr.fieldAt 40 (.pointer (some ⟨b, o, none⟩)) 0).run Ybaf.prog w = .ok (.pointer (some ⟨b, o + 0, none⟩)) w := by kernel_rfl
theorem fa40_1 : (Instr.fieldAt 40 (.pointer (some ⟨b, o, none⟩)) 1).run Ybaf.prog w = .ok (.pointer (some ⟨b, o + 1, none⟩)) w := by kernel_rfl
theorem fa34_3 : (Instr.fieldAt 34 (.pointer (some ⟨b, o, none⟩)) 3).run Ybaf.prog w = .ok (.pointer (some ⟨b, o + 3, none⟩)) w := by kernel_rfl
theorem ix36_i64 (h : i < n) : (Instr.indexAt 36 (.slice (some ⟨b, 0, none⟩) n c) (.int .i64 ((i : Nat) : Int))).run Ybaf.prog w = .ok (.pointer (some ⟨b, i * 3, none⟩)) w := by
  have h' : (i : Int) < (n : Int) := by omega
  have c3 : Ybaf.prog.cellsOf 44 = 3 := by kernel_rfl
  go_simp
theorem ix37_i64 (h : i < 705) : (Instr.indexAt 37 (.pointer (some ⟨b, o, none⟩)) (.int .i64 ((i : Nat) : Int))).run Ybaf.prog w = .ok (.pointer (some ⟨b, o + i, none⟩)) w := by
  have h' : (i : Int) < 705 := by omega
  have c1 : Ybaf.prog.cellsOf 21 = 1 := by kernel_rfl
  go_simp
theorem ix38_i64 (h : i < 11) : (Instr.indexAt 38 (.pointer (some ⟨b, o, none⟩)) (.int .i64 ((i : Nat) : Int))).run Ybaf.prog w = .ok (.pointer (some ⟨b, o + i, none⟩)) w := by
  have h' : (i : Int) < 11 := by omega
  have c1 : Ybaf.prog.cellsOf 35 = 1 := by kernel_rfl
  go_simp
theorem ix36_i32 (h : i < n) : (Instr.indexAt 36 (.slice (some ⟨b, 0, none⟩) n c) (.int .i32 ((i : Nat) : Int))).run Ybaf.prog w = .ok (.pointer (some ⟨b, i * 3, none⟩)) w := by
  have h' : (i : Int) < (n : Int) := by omega
  have c3 : Ybaf.prog.cellsOf 44 = 3 := by kernel_rfl
  go_simp
theorem ix37_i32 (h : i < 705) : (Instr.indexAt 37 (.pointer (some ⟨b, o, none⟩)) (.int .i32 ((i : Nat) : Int))).run Ybaf.prog w = .ok (.pointer (some ⟨b, o + i, none⟩)) w := by
  have h' : (i : Int) < 705 := by omega
  have c1 : Ybaf.prog.cellsOf 21 = 1 := by kernel_rfl
  go_simp
theorem ix38_i32 (h : i < 11) : (Instr.indexAt 38 (.pointer (some ⟨b, o, none⟩)) (.int .i32 ((i : Nat) : Int))).run Ybaf.prog w = .ok (.pointer (some ⟨b, o + i, none⟩)) w := by
  have h' : (i : Int) < 11 := by omega
  have c1 : Ybaf.prog.cellsOf 35 = 1 := by kernel_rfl
  go_simp
theorem ix22 (h : i < n) : (Instr.indexAt 22 (.slice (some ⟨b, o, none⟩) n c) (.int .i64 ((i : Nat) : Int))).run Ybaf.prog w = .ok (.pointer (some ⟨b, o + i, none⟩)) w := by
  have h' : (i : Int) < (n : Int) := by omega
  have c1 : Ybaf.prog.cellsOf 25 = 1 := by kernel_rfl
  go_simp
theorem ix23 (h : i < n) : (Instr.indexAt 23 (.slice (some ⟨b, o, none⟩) n c) (.int .i64 ((i : Nat) : Int))).run Ybaf.prog w = .ok (.pointer (some ⟨b, o + i, none⟩)) w := by
  have h' : (i : Int) < (n : Int) := by omega
  have c1 : Ybaf.prog.cellsOf 4 = 1 := by kernel_rfl
  go_simp
theorem ix26 (h : i < n) : (Instr.indexAt 26 (.slice (some ⟨b, o, none⟩) n c) (.int .i64 ((i : Nat) : Int))).run Ybaf.prog w = .ok (.pointer (some ⟨b, o + i, none⟩)) w := by
  have h' : (i : Int) < (n : Int) := by omega
  have c1 : Ybaf.prog.cellsOf 3 = 1 := by kernel_rfl
  go_simp
theorem cv321 (h : i < 2147483648) : (convert 3 21 (.int .i64 ((i : Nat) : Int))).run Ybaf.prog w = .ok (.int .i32 ((i : Nat) : Int)) w := by
  go_simp
  try (simp [IntKind.wrap, IntKind.bits, IntKind.signed]; omega)
theorem cv213 (h : i < 2147483648) : (convert 21 3 (.int .i32 ((i : Nat) : Int))).run Ybaf.prog w = .ok (.int .i64 ((i : Nat) : Int)) w := by
  go_simp
  try (simp [IntKind.wrap, IntKind.bits, IntKind.signed]; omega)
theorem cv2535 (h : i < 4294967296) : (convert 25 35 (.int .u32 ((i : Nat) : Int))).run Ybaf.prog w = .ok (.int .u64 ((i : Nat) : Int)) w := by
  go_simp
  try (simp [IntKind.wrap, IntKind.bits, IntKind.signed]; omega)
theorem cv2527 (h : i < 4294967296) : (convert 25 27 (.int .u32 ((i : Nat) : Int))).run Ybaf.prog w = .ok (.int .i64 ((i : Nat) : Int)) w := by
  go_simp
  try (simp [IntKind.wrap, IntKind.bits, IntKind.signed]; omega)
end
theorem cf6 (w : World) (args : Array Value) : (callFunc 6 args).run Ybaf.prog w = .ok (.enter 6 args) w := by kernel_rfl
theorem cf7 (w : World) (args : Array Value) : (callFunc 7 args).run Ybaf.prog w = .ok (.enter 7 args) w := by kernel_rfl
theorem cf8 (w : World) (args : Array Value) : (callFunc 8 args).run Ybaf.prog w = .ok (.enter 8 args) w := by kernel_rfl
theorem cf9 (w : World) (args : Array Value) : (callFunc 9 args).run Ybaf.prog w = .ok (.enter 9 args) w := by kernel_rfl
theorem cf10 (w : World) (args : Array Value) : (callFunc 10 args).run Ybaf.prog w = .ok (.enter 10 args) w := by kernel_rfl
theorem cf11 (w : World) (args : Array Value) : (callFunc 11 args).run Ybaf.prog w = .ok (.enter 11 args) w := by kernel_rfl
theorem cf19 (w : World) (args : Array Value) : (callFunc 19 args).run Ybaf.prog w = .ok (.enter 19 args) w := by kernel_rfl
theorem cf21 (w : World) (args : Array Value) : (callFunc 21 args).run Ybaf.prog w = .ok (.enter 21 args) w := by kernel_rfl
theorem cf22 (w : World) (args : Array Value) : (callFunc 22 args).run Ybaf.prog w = .ok (.enter 22 args) w := by kernel_rfl
theorem cf23 (w : World) (args : Array Value) : (callFunc 23 args).run Ybaf.prog w = .ok (.enter 23 args) w := by kernel_rfl
theorem cf24 (w : World) (args : Array Value) : (callFunc 24 args).run Ybaf.prog w = .ok (.enter 24 args) w := by kernel_rfl
theorem cf25 (w : World) (args : Array Value) : (callFunc 25 args).run Ybaf.prog w = .ok (.enter 25 args) w := by kernel_rfl
theorem cf36 (w : World) (args : Array Value) : (callFunc 36 args).run Ybaf.prog w = .ok (.enter 36 args) w := by kernel_rfl
/-- The records of the connections: deadline, next, prev. -/
def cv (dl nx pv : Nat → Int) (k : Nat) : Value := if k % 3 = 0 then .int .i64 (dl (k / 3)) else if k % 3 = 1 then .int .i32 (nx (k / 3)) else .int .i32 (pv (k / 3))
/-- The set's own cells. -/
def dv (g tk : Int) (C n : Nat) (hd oc : Nat → Int) (bt cn : Value) (k : Nat) : Value :=
  if k = 0 then .int .i64 g else if k = 1 then .int .i64 0 else if k = 2 then .int .u64 tk else if k = 3 then .slice (some ⟨C, 0, none⟩) n n else if k < 709 then .int .i32 (hd (k - 4)) else if k < 720 then .int .u64 (oc (k - 709)) else if k = 720 then bt else cn
def set1 (f : Nat → Int) (i : Nat) (x : Int) : Nat → Int := fun k => if k = i then x else f k
section
variable {dl nx pv : Nat → Int} {g tk : Int} {C n : Nat} {hd oc : Nat → Int} {bt cn : Value}
theorem cv_0 (i : Nat) : cv dl nx pv (i * 3) = .int .i64 (dl i) := by unfold cv; rw [if_pos (by omega)]; congr 2; omega
theorem cv_1 (i : Nat) : cv dl nx pv (i * 3 + 1) = .int .i32 (nx i) := by unfold cv; rw [if_neg (by omega), if_pos (by omega)]; congr 2; omega
theorem cv_2 (i : Nat) : cv dl nx pv (i * 3 + 2) = .int .i32 (pv i) := by unfold cv; rw [if_neg (by omega), if_neg (by omega)]; congr 2; omega
theorem cv_set0 (i : Nat) (x : Int) (k : Nat) : (if k = i * 3 then .int .i64 x else cv dl nx pv k) = cv (set1 dl i x) nx pv k := by
  unfold cv set1
  split
  · rename_i h; rw [if_pos (by omega), if_pos (by omega)]
  · split
    · rw [if_neg (by omega)]
    · rfl
theorem cv_set1 (i : Nat) (x : Int) (k : Nat) : (if k = i * 3 + 1 then .int .i32 x else cv dl nx pv k) = cv dl (set1 nx i x) pv k := by
  unfold cv set1
  split
  · rename_i h; rw [if_neg (by omega), if_pos (by omega), if_pos (by omega)]
  · split
    · rfl
    · split
      · rw [if_neg (by omega)]
      · rfl
theorem cv_set2 (i : Nat) (x : Int) (k : Nat) : (if k = i * 3 + 2 then .int .i32 x else cv dl nx pv k) = cv dl nx (set1 pv i x) k := by
  unfold cv set1
  split
  · rename_i h; rw [if_neg (by omega), if_neg (by omega), if_pos (by omega)]
  · split
    · rfl
    · split
      · rfl
      · rw [if_neg (by omega)]
theorem dv_0 : dv g tk C n hd oc bt cn 0 = .int .i64 g := rfl
theorem dv_2 : dv g tk C n hd oc bt cn 2 = .int .u64 tk := rfl
theorem dv_3 : dv g tk C n hd oc bt cn 3 = .slice (some ⟨C, 0, none⟩) n n := rfl
theorem dv_h (l : Nat) (h : l < 705) : dv g tk C n hd oc bt cn (4 + l) = .int .i32 (hd l) := by
  unfold dv
  rw [if_neg (by omega), if_neg (by omega), if_neg (by omega), if_neg (by omega), if_pos (by omega), show 4 + l - 4 = l by omega]
theorem dv_o (l : Nat) (h : l < 11) : dv g tk C n hd oc bt cn (709 + l) = .int .u64 (oc l) := by
  unfold dv
  rw [if_neg (by omega), if_neg (by omega), if_neg (by omega), if_neg (by omega), if_neg (by omega), if_pos (by omega), show 709 + l - 709 = l by omega]
theorem dv_seth (l : Nat) (h : l < 705) (x : Int) (k : Nat) : (if k = 4 + l then .int .i32 x else dv g tk C n hd oc bt cn k) = dv g tk C n (set1 hd l x) oc bt cn k := by
  unfold dv set1
  split
  · rename_i h; subst h
    rw [if_neg (by omega), if_neg (by omega), if_neg (by omega), if_neg (by omega), if_pos (by omega), if_pos (by omega)]
  · repeat' split
    all_goals first | rfl | omega
theorem dv_seto (l : Nat) (h : l < 11) (x : Int) (k : Nat) : (if k = 709 + l then .int .u64 x else dv g tk C n hd oc bt cn k) = dv g tk C n hd (set1 oc l x) bt cn k := by
  unfold dv set1
  split
  · rename_i h; subst h
    rw [if_neg (by omega), if_neg (by omega), if_neg (by omega), if_neg (by omega), if_neg (by omega), if_pos (by omega), if_pos (by omega)]
  · repeat' split
    all_goals first | rfl | omega
theorem dv_setk (x : Int) (k : Nat) : (if k = 2 then .int .u64 x else dv g tk C n hd oc bt cn k) = dv g x C n hd oc bt cn k := by
  unfold dv
  split
  · rename_i h; subst h; rfl
  · repeat' split
    all_goals first | rfl | omega
end
end Go.Proofs.YbulkblsgFmt

import Derived.Test.YbulkblsgFmtFr
namespace Go.Proofs.YbulkblsgFmt
open Go.RowKit Go.Extern.Stop Go.Stop Go.Extern
set_option linter.unusedVariables false
set_option linter.unusedSimpArgs false
section
variable {x y : Operand} {w : World}
theorem addI {a b r : Int} (h : a + b = r) (h1 : -9000000000 ≤ r) (h2 : r ≤ 9000000000) : (do eqGuard .add 3 x y (.int .i64 a) (.int .i64 b); binOp .add 3 (.int .i64 a) (.int .i64 b) : Sem Value).run Ybaf.prog w = .ok (.int .i64 r) w := by
  subst h
  have e : IntKind.i64.wrap (a + b) = a + b := by simp [IntKind.wrap, IntKind.bits, IntKind.signed]; omega
  have k : (do eqGuard .add 3 x y (.int .i64 a) (.int .i64 b); binOp .add 3 (.int .i64 a) (.int .i64 b) : Sem Value).run Ybaf.prog w = .ok (.int .i64 (IntKind.i64.wrap (a + b))) w := by kernel_rfl
  rw [k, e]
theorem subI {a b r : Int} (h : a - b = r) (h1 : -9000000000 ≤ r) (h2 : r ≤ 9000000000) : (do eqGuard .sub 3 x y (.int .i64 a) (.int .i64 b); binOp .sub 3 (.int .i64 a) (.int .i64 b) : Sem Value).run Ybaf.prog w = .ok (.int .i64 r) w := by
  subst h
  have e : IntKind.i64.wrap (a - b) = a - b := by simp [IntKind.wrap, IntKind.bits, IntKind.signed]; omega
  have k : (do eqGuard .sub 3 x y (.int .i64 a) (.int .i64 b); binOp .sub 3 (.int .i64 a) (.int .i64 b) : Sem Value).run Ybaf.prog w = .ok (.int .i64 (IntKind.i64.wrap (a - b))) w := by kernel_rfl
  rw [k, e]
theorem lssI {a b : Int} {r : Bool} (h : decide (a < b) = r) : (do eqGuard .lss 3 x y (.int .i64 a) (.int .i64 b); binOp .lss 3 (.int .i64 a) (.int .i64 b) : Sem Value).run Ybaf.prog w = .ok (.bool r) w := by
  subst h
  kernel_rfl
theorem gtrI {a b : Int} {r : Bool} (h : decide (b < a) = r) : (do eqGuard .gtr 3 x y (.int .i64 a) (.int .i64 b); binOp .gtr 3 (.int .i64 a) (.int .i64 b) : Sem Value).run Ybaf.prog w = .ok (.bool r) w := by
  subst h
  kernel_rfl
theorem geqI {a b : Int} {r : Bool} (h : decide (b ≤ a) = r) : (do eqGuard .geq 3 x y (.int .i64 a) (.int .i64 b); binOp .geq 3 (.int .i64 a) (.int .i64 b) : Sem Value).run Ybaf.prog w = .ok (.bool r) w := by
  subst h
  kernel_rfl
theorem eqlI {a b : Int} {r : Bool} (h : (a == b) = r) : (do eqGuard .eql 3 x y (.int .i64 a) (.int .i64 b); binOp .eql 3 (.int .i64 a) (.int .i64 b) : Sem Value).run Ybaf.prog w = .ok (.bool r) w := by
  subst h
  go_simp
theorem neqI {a b : Int} {r : Bool} (h : (!(a == b)) = r) : (do eqGuard .neq 3 x y (.int .i64 a) (.int .i64 b); binOp .neq 3 (.int .i64 a) (.int .i64 b) : Sem Value).run Ybaf.prog w = .ok (.bool r) w := by
  subst h
  go_simp
  rfl
theorem eqlU {a b : Int} {r : Bool} (h : (a == b) = r) : (do eqGuard .eql 5 x y (.int .u8 a) (.int .u8 b); binOp .eql 5 (.int .u8 a) (.int .u8 b) : Sem Value).run Ybaf.prog w = .ok (.bool r) w := by
  subst h
  go_simp
theorem addU {a b r : Nat} (h : (a + b) % 256 = r) : (do eqGuard .add 5 x y (.int .u8 (a : Nat)) (.int .u8 (b : Nat)); binOp .add 5 (.int .u8 (a : Nat)) (.int .u8 (b : Nat)) : Sem Value).run Ybaf.prog w = .ok (.int .u8 ((r : Nat) : Int)) w := by
  subst h
  have e : IntKind.u8.wrap ((a : Int) + (b : Int)) = (((a + b) % 256 : Nat) : Int) := by simp [IntKind.wrap, IntKind.bits, IntKind.signed]
  have k : (do eqGuard .add 5 x y (.int .u8 (a : Nat)) (.int .u8 (b : Nat)); binOp .add 5 (.int .u8 (a : Nat)) (.int .u8 (b : Nat)) : Sem Value).run Ybaf.prog w = .ok (.int .u8 (IntKind.u8.wrap ((a : Int) + (b : Int)))) w := by kernel_rfl
  rw [k, e]
theorem mulU {a b r : Nat} (h : (a * b) % 256 = r) : (do eqGuard .mul 5 x y (.int .u8 (a : Nat)) (.int .u8 (b : Nat)); binOp .mul 5 (.int .u8 (a : Nat)) (.int .u8 (b : Nat)) : Sem Value).run Ybaf.prog w = .ok (.int .u8 ((r : Nat) : Int)) w := by
  subst h
  have e : IntKind.u8.wrap ((a : Int) * (b : Int)) = (((a * b) % 256 : Nat) : Int) := by simp [IntKind.wrap, IntKind.bits, IntKind.signed]
  have k : (do eqGuard .mul 5 x y (.int .u8 (a : Nat)) (.int .u8 (b : Nat)); binOp .mul 5 (.int .u8 (a : Nat)) (.int .u8 (b : Nat)) : Sem Value).run Ybaf.prog w = .ok (.int .u8 (IntKind.u8.wrap ((a : Int) * (b : Int)))) w := by kernel_rfl
  rw [k, e]
theorem remU {a b r : Nat} (hb : 0 < b) (h : a % b = r) : (do eqGuard .rem 25 x y (.int .u32 (a : Nat)) (.int .u32 (b : Nat)); binOp .rem 25 (.int .u32 (a : Nat)) (.int .u32 (b : Nat)) : Sem Value).run Ybaf.prog w = .ok (.int .u32 ((r : Nat) : Int)) w := by
  subst h
  have hb' : ¬ (b : Int) = 0 := by omega
  go_simp
  rw [if_neg (by omega), Int.tmod_eq_emod_of_nonneg (by omega)]
theorem shrH {a r : Nat} (h : a / 256 = r) : (do eqGuard .shr 24 x y (.int .u16 (a : Nat)) (.int .u64 8); binOp .shr 24 (.int .u16 (a : Nat)) (.int .u64 8) : Sem Value).run Ybaf.prog w = .ok (.int .u16 ((r : Nat) : Int)) w := by
  subst h
  go_simp
  try rfl
theorem hiA {a : Nat} : (do eqGuard .and 24 x y (.int .u16 (a : Nat)) (.int .u16 65528); binOp .and 24 (.int .u16 (a : Nat)) (.int .u16 65528) : Sem Value).run Ybaf.prog w = .ok (.int .u16 (bits .and .u16 (a : Int) 65528)) w := by kernel_rfl
theorem loA {a : Nat} : (do eqGuard .and 24 x y (.int .u16 (a : Nat)) (.int .u16 1); binOp .and 24 (.int .u16 (a : Nat)) (.int .u16 1) : Sem Value).run Ybaf.prog w = .ok (.int .u16 (bits .and .u16 (a : Int) 1)) w := by kernel_rfl
theorem hiN {a : Nat} : (do eqGuard .neq 24 x y (.int .u16 (bits .and .u16 (a : Int) 65528)) (.int .u16 0); binOp .neq 24 (.int .u16 (bits .and .u16 (a : Int) 65528)) (.int .u16 0) : Sem Value).run Ybaf.prog w = .ok (.bool (hiF a)) w := by
  unfold hiF
  go_simp
  rfl
theorem loN {a : Nat} : (do eqGuard .neq 24 x y (.int .u16 (bits .and .u16 (a : Int) 1)) (.int .u16 0); binOp .neq 24 (.int .u16 (bits .and .u16 (a : Int) 1)) (.int .u16 0) : Sem Value).run Ybaf.prog w = .ok (.bool (loF a)) w := by
  unfold loF
  go_simp
  rfl
theorem nilE {k : Nat} : (do eqGuard .eql 30 (.tmp k) (.const .nilIface) .nilIface .nilIface; binOp .eql 30 .nilIface .nilIface : Sem Value).run Ybaf.prog w = .ok (.bool true) w := by kernel_rfl
theorem newNe {v : Value} : (do eqGuard .neq 30 x y (.iface 108 v) .nilIface; binOp .neq 30 (.iface 108 v) .nilIface : Sem Value).run Ybaf.prog w = .ok (.bool true) w := by kernel_rfl
theorem nilSl : (do eqGuard .eql 53 x y (.slice none 0 0) (.slice none 0 0); binOp .eql 53 (.slice none 0 0) (.slice none 0 0) : Sem Value).run Ybaf.prog w = .ok (.bool true) w := by kernel_rfl
theorem nilSlN : (do eqGuard .neq 53 x y (.slice none 0 0) (.slice none 0 0); binOp .neq 53 (.slice none 0 0) (.slice none 0 0) : Sem Value).run Ybaf.prog w = .ok (.bool false) w := by kernel_rfl
theorem eqlB {a b : Bool} : (do eqGuard .eql 4 x y (.bool a) (.bool b); binOp .eql 4 (.bool a) (.bool b) : Sem Value).run Ybaf.prog w = .ok (.bool (a == b)) w := by
  go_simp
theorem cv35 {j : Nat} (h : j < 256) : (convert 3 5 (.int .i64 (j : Nat))).run Ybaf.prog w = .ok (.int .u8 ((j : Nat) : Int)) w := by
  go_simp
  simp [IntKind.wrap, IntKind.bits, IntKind.signed]
  omega
theorem cv245 {a r : Nat} (h : a % 256 = r) : (convert 24 5 (.int .u16 (a : Nat))).run Ybaf.prog w = .ok (.int .u8 ((r : Nat) : Int)) w := by
  subst h
  go_simp
  try simp [IntKind.wrap, IntKind.bits, IntKind.signed]
theorem cv325 {j : Nat} (h : j < 4294967296) : (convert 3 25 (.int .i64 (j : Nat))).run Ybaf.prog w = .ok (.int .u32 ((j : Nat) : Int)) w := by
  go_simp
  simp [IntKind.wrap, IntKind.bits, IntKind.signed]
  omega
theorem cv253 {j : Nat} (h : j < 4294967296) : (convert 25 3 (.int .u32 (j : Nat))).run Ybaf.prog w = .ok (.int .i64 ((j : Nat) : Int)) w := by
  go_simp
  simp [IntKind.wrap, IntKind.bits, IntKind.signed]
  omega
end
section
variable {w : World} {b o n c i : Nat}
theorem ix53 (h : i < n) : (Instr.indexAt 53 (.slice (some ⟨b, 0, none⟩) n c) (.int .i64 (i : Nat))).run Ybaf.prog w = .ok (.pointer (some ⟨b, i, none⟩)) w := by
  have h' : (i : Int) < (n : Int) := by omega
  go_simp
theorem ix26 (h : i < n) : (Instr.indexAt 26 (.slice (some ⟨b, 0, none⟩) n c) (.int .i64 (i : Nat))).run Ybaf.prog w = .ok (.pointer (some ⟨b, i, none⟩)) w := by
  have h' : (i : Int) < (n : Int) := by omega
  go_simp
theorem ix52 (h : i < n) : (Instr.indexAt 52 (.slice (some ⟨b, o, none⟩) n c) (.int .i64 (i : Nat))).run Ybaf.prog w = .ok (.pointer (some ⟨b, o + i * 4, none⟩)) w := by
  have h' : (i : Int) < (n : Int) := by omega
  have c4 : Ybaf.prog.cellsOf 56 = 4 := by kernel_rfl
  go_simp
theorem fa56_0 : (Instr.fieldAt 56 (.pointer (some ⟨b, o, none⟩)) 0).run Ybaf.prog w = .ok (.pointer (some ⟨b, o, none⟩)) w := by kernel_rfl
theorem fa56_1 : (Instr.fieldAt 56 (.pointer (some ⟨b, o, none⟩)) 1).run Ybaf.prog w = .ok (.pointer (some ⟨b, o + 1, none⟩)) w := by kernel_rfl
theorem fa56_2 : (Instr.fieldAt 56 (.pointer (some ⟨b, o, none⟩)) 2).run Ybaf.prog w = .ok (.pointer (some ⟨b, o + 2, none⟩)) w := by kernel_rfl
theorem fa56_3 : (Instr.fieldAt 56 (.pointer (some ⟨b, o, none⟩)) 3).run Ybaf.prog w = .ok (.pointer (some ⟨b, o + 3, none⟩)) w := by kernel_rfl
theorem ld24 {v : Value} (h : w.cell? ⟨b, o, none⟩ = some v) : (Instr.loadAt 24 (.pointer (some ⟨b, o, none⟩))).run Ybaf.prog w = .ok v w := by go_simp
theorem st5 {v : Value} {r : Int} (h : w.cell? ⟨b, o, none⟩ = some v) (hf : w.frozen? ⟨b, o, none⟩ = false) : (Instr.storeAt 5 (.pointer (some ⟨b, o, none⟩)) (.int .u8 r)).run Ybaf.prog w = .ok () (w.setCell ⟨b, o, none⟩ (.int .u8 r)) := by go_simp
theorem info5' : (Ybaf.prog.info? 5).map (fun i => (i.zero, i.size, i.bytes)) = some (some (.int .u8 0), 1, 1) := by kernel_rfl
theorem info3' : (Ybaf.prog.info? 3).map (fun i => (i.zero, i.size, i.bytes)) = some (some (.int .i64 0), 1, 8) := by kernel_rfl
theorem mk53 (h : n ≤ 100000000) : (Instr.makeSlice 53 (.int .i64 (n : Nat)) (.int .i64 (n : Nat))).run Ybaf.prog w = .ok (.slice (some ⟨w.heap.size, 0, none⟩) n n) (w.alloc (.cells (madeCells #[.int .u8 0] n) 5)) :=
  run_make_row' 53 5 _ 1 Ybaf.underlying53 info5' rfl .i64 .i64 n (by omega) (by omega) w
theorem mk26 (h : n ≤ 100000000) : (Instr.makeSlice 26 (.int .i64 (n : Nat)) (.int .i64 (n : Nat))).run Ybaf.prog w = .ok (.slice (some ⟨w.heap.size, 0, none⟩) n n) (w.alloc (.cells (madeCells #[.int .i64 0] n) 3)) :=
  run_make_row' 26 3 _ 8 Ybaf.underlying26 info3' rfl .i64 .i64 n (by omega) (by omega) w
theorem sl53h {b n c : Nat} {l : Nat} (h : l ≤ c) : (Instr.sliceAt 53 (.slice (some ⟨b, 0, none⟩) n c) none (some (.int .i64 (l : Nat))) none).run Ybaf.prog w = .ok (.slice (some ⟨b, 0, none⟩) l c) w := by
  have h2 : (l : Int) ≤ (c : Int) := by omega
  go_simp
theorem sl53lh {b n c : Nat} {l h : Nat} (h1 : l ≤ h) (h2 : h ≤ c) : (Instr.sliceAt 53 (.slice (some ⟨b, 0, none⟩) n c) (some (.int .i64 (l : Nat))) (some (.int .i64 (h : Nat))) none).run Ybaf.prog w = .ok (.slice (some ⟨b, 0 + sh c l, none⟩) (h - l) (c - l)) w := by
  have h1' : (l : Int) ≤ (h : Int) := by omega
  have h2' : (h : Int) ≤ (c : Int) := by omega
  unfold sh
  by_cases e : c = l
  · subst e
    rw [if_pos rfl]
    go_simp
  · rw [if_neg e]
    go_simp
end
end Go.Proofs.YbulkblsgFmt

import Derived.Test.YbulkblsgFmtFn
namespace Go.Proofs.YbulkblsgFmt
open Go.RowKit
set_option linter.unusedVariables false
set_option linter.unusedSimpArgs false
section
variable {x y : Operand} {w : World}
theorem addI {a b r : Int} (h : a + b = r) (h1 : -9223372036854775808 ≤ r) (h2 : r ≤ 9223372036854775807) : (do eqGuard .add 3 x y (.int .i64 a) (.int .i64 b); binOp .add 3 (.int .i64 a) (.int .i64 b) : Sem Value).run Ybaf.prog w = .ok (.int .i64 r) w := by
  subst h
  have e : IntKind.i64.wrap (a + b) = a + b := by simp [IntKind.wrap, IntKind.bits, IntKind.signed]; omega
  have k : (do eqGuard .add 3 x y (.int .i64 a) (.int .i64 b); binOp .add 3 (.int .i64 a) (.int .i64 b) : Sem Value).run Ybaf.prog w = .ok (.int .i64 (IntKind.i64.wrap (a + b))) w := by kernel_rfl
  rw [k, e]
theorem subI {a b r : Int} (h : a - b = r) (h1 : -9223372036854775808 ≤ r) (h2 : r ≤ 9223372036854775807) : (do eqGuard .sub 3 x y (.int .i64 a) (.int .i64 b); binOp .sub 3 (.int .i64 a) (.int .i64 b) : Sem Value).run Ybaf.prog w = .ok (.int .i64 r) w := by
  subst h
  have e : IntKind.i64.wrap (a - b) = a - b := by simp [IntKind.wrap, IntKind.bits, IntKind.signed]; omega
  have k : (do eqGuard .sub 3 x y (.int .i64 a) (.int .i64 b); binOp .sub 3 (.int .i64 a) (.int .i64 b) : Sem Value).run Ybaf.prog w = .ok (.int .i64 (IntKind.i64.wrap (a - b))) w := by kernel_rfl
  rw [k, e]
theorem mulI {a b r : Int} (h : a * b = r) (h1 : -9223372036854775808 ≤ r) (h2 : r ≤ 9223372036854775807) : (do eqGuard .mul 3 x y (.int .i64 a) (.int .i64 b); binOp .mul 3 (.int .i64 a) (.int .i64 b) : Sem Value).run Ybaf.prog w = .ok (.int .i64 r) w := by
  subst h
  have e : IntKind.i64.wrap (a * b) = a * b := by simp [IntKind.wrap, IntKind.bits, IntKind.signed]; omega
  have k : (do eqGuard .mul 3 x y (.int .i64 a) (.int .i64 b); binOp .mul 3 (.int .i64 a) (.int .i64 b) : Sem Value).run Ybaf.prog w = .ok (.int .i64 (IntKind.i64.wrap (a * b))) w := by kernel_rfl
  rw [k, e]
theorem lssI {a b : Int} {r : Bool} (h : decide (a < b) = r) : (do eqGuard .lss 3 x y (.int .i64 a) (.int .i64 b); binOp .lss 3 (.int .i64 a) (.int .i64 b) : Sem Value).run Ybaf.prog w = .ok (.bool r) w := by
  subst h
  kernel_rfl
theorem leqI {a b : Int} {r : Bool} (h : decide (a ≤ b) = r) : (do eqGuard .leq 3 x y (.int .i64 a) (.int .i64 b); binOp .leq 3 (.int .i64 a) (.int .i64 b) : Sem Value).run Ybaf.prog w = .ok (.bool r) w := by
  subst h
  kernel_rfl
theorem gtrI {a b : Int} {r : Bool} (h : decide (b < a) = r) : (do eqGuard .gtr 3 x y (.int .i64 a) (.int .i64 b); binOp .gtr 3 (.int .i64 a) (.int .i64 b) : Sem Value).run Ybaf.prog w = .ok (.bool r) w := by
  subst h
  kernel_rfl
theorem geqI {a b : Int} {r : Bool} (h : decide (b ≤ a) = r) : (do eqGuard .geq 3 x y (.int .i64 a) (.int .i64 b); binOp .geq 3 (.int .i64 a) (.int .i64 b) : Sem Value).run Ybaf.prog w = .ok (.bool r) w := by
  subst h
  kernel_rfl
theorem eqlI {a b : Int} {r : Bool} (h : (a == b) = r) : (do eqGuard .eql 3 x y (.int .i64 a) (.int .i64 b); binOp .eql 3 (.int .i64 a) (.int .i64 b) : Sem Value).run Ybaf.prog w = .ok (.bool r) w := by
  subst h
  go_simp
theorem neqI {a b : Int} {r : Bool} (h : (!(a == b)) = r) : (do eqGuard .neq 3 x y (.int .i64 a) (.int .i64 b); binOp .neq 3 (.int .i64 a) (.int .i64 b) : Sem Value).run Ybaf.prog w = .ok (.bool r) w := by
  subst h
  go_simp
  rfl
theorem quoI {a b r : Int} (h : a / b = r) (ha : 0 ≤ a) (hb : 0 < b) (hr : a ≤ 9223372036854775807) : (do eqGuard .quo 3 x y (.int .i64 a) (.int .i64 b); binOp .quo 3 (.int .i64 a) (.int .i64 b) : Sem Value).run Ybaf.prog w = .ok (.int .i64 r) w := by
  subst h
  have hb' : ¬ b = 0 := by omega
  have hd : a / b ≤ a := Int.ediv_le_self _ ha
  have hd0 : 0 ≤ a / b := Int.ediv_nonneg ha (by omega)
  have e : IntKind.i64.wrap (a / b) = a / b := by simp [IntKind.wrap, IntKind.bits, IntKind.signed]; omega
  go_simp
  try rw [Int.tdiv_eq_ediv_of_nonneg ha]
  try rw [e]
theorem addD {a b r : Int} (h : a + b = r) (h1 : -9223372036854775808 ≤ r) (h2 : r ≤ 9223372036854775807) : (do eqGuard .add 27 x y (.int .i64 a) (.int .i64 b); binOp .add 27 (.int .i64 a) (.int .i64 b) : Sem Value).run Ybaf.prog w = .ok (.int .i64 r) w := by
  subst h
  have e : IntKind.i64.wrap (a + b) = a + b := by simp [IntKind.wrap, IntKind.bits, IntKind.signed]; omega
  have k : (do eqGuard .add 27 x y (.int .i64 a) (.int .i64 b); binOp .add 27 (.int .i64 a) (.int .i64 b) : Sem Value).run Ybaf.prog w = .ok (.int .i64 (IntKind.i64.wrap (a + b))) w := by kernel_rfl
  rw [k, e]
theorem subD {a b r : Int} (h : a - b = r) (h1 : -9223372036854775808 ≤ r) (h2 : r ≤ 9223372036854775807) : (do eqGuard .sub 27 x y (.int .i64 a) (.int .i64 b); binOp .sub 27 (.int .i64 a) (.int .i64 b) : Sem Value).run Ybaf.prog w = .ok (.int .i64 r) w := by
  subst h
  have e : IntKind.i64.wrap (a - b) = a - b := by simp [IntKind.wrap, IntKind.bits, IntKind.signed]; omega
  have k : (do eqGuard .sub 27 x y (.int .i64 a) (.int .i64 b); binOp .sub 27 (.int .i64 a) (.int .i64 b) : Sem Value).run Ybaf.prog w = .ok (.int .i64 (IntKind.i64.wrap (a - b))) w := by kernel_rfl
  rw [k, e]
theorem mulD {a b r : Int} (h : a * b = r) (h1 : -9223372036854775808 ≤ r) (h2 : r ≤ 9223372036854775807) : (do eqGuard .mul 27 x y (.int .i64 a) (.int .i64 b); binOp .mul 27 (.int .i64 a) (.int .i64 b) : Sem Value).run Ybaf.prog w = .ok (.int .i64 r) w := by
  subst h
  have e : IntKind.i64.wrap (a * b) = a * b := by simp [IntKind.wrap, IntKind.bits, IntKind.signed]; omega
  have k : (do eqGuard .mul 27 x y (.int .i64 a) (.int .i64 b); binOp .mul 27 (.int .i64 a) (.int .i64 b) : Sem Value).run Ybaf.prog w = .ok (.int .i64 (IntKind.i64.wrap (a * b))) w := by kernel_rfl
  rw [k, e]
theorem lssD {a b : Int} {r : Bool} (h : decide (a < b) = r) : (do eqGuard .lss 27 x y (.int .i64 a) (.int .i64 b); binOp .lss 27 (.int .i64 a) (.int .i64 b) : Sem Value).run Ybaf.prog w = .ok (.bool r) w := by
  subst h
  kernel_rfl
theorem leqD {a b : Int} {r : Bool} (h : decide (a ≤ b) = r) : (do eqGuard .leq 27 x y (.int .i64 a) (.int .i64 b); binOp .leq 27 (.int .i64 a) (.int .i64 b) : Sem Value).run Ybaf.prog w = .ok (.bool r) w := by
  subst h
  kernel_rfl
theorem gtrD {a b : Int} {r : Bool} (h : decide (b < a) = r) : (do eqGuard .gtr 27 x y (.int .i64 a) (.int .i64 b); binOp .gtr 27 (.int .i64 a) (.int .i64 b) : Sem Value).run Ybaf.prog w = .ok (.bool r) w := by
  subst h
  kernel_rfl
theorem geqD {a b : Int} {r : Bool} (h : decide (b ≤ a) = r) : (do eqGuard .geq 27 x y (.int .i64 a) (.int .i64 b); binOp .geq 27 (.int .i64 a) (.int .i64 b) : Sem Value).run Ybaf.prog w = .ok (.bool r) w := by
  subst h
  kernel_rfl
theorem eqlD {a b : Int} {r : Bool} (h : (a == b) = r) : (do eqGuard .eql 27 x y (.int .i64 a) (.int .i64 b); binOp .eql 27 (.int .i64 a) (.int .i64 b) : Sem Value).run Ybaf.prog w = .ok (.bool r) w := by
  subst h
  go_simp
theorem neqD {a b : Int} {r : Bool} (h : (!(a == b)) = r) : (do eqGuard .neq 27 x y (.int .i64 a) (.int .i64 b); binOp .neq 27 (.int .i64 a) (.int .i64 b) : Sem Value).run Ybaf.prog w = .ok (.bool r) w := by
  subst h
  go_simp
  rfl
theorem quoD {a b r : Int} (h : a / b = r) (ha : 0 ≤ a) (hb : 0 < b) (hr : a ≤ 9223372036854775807) : (do eqGuard .quo 27 x y (.int .i64 a) (.int .i64 b); binOp .quo 27 (.int .i64 a) (.int .i64 b) : Sem Value).run Ybaf.prog w = .ok (.int .i64 r) w := by
  subst h
  have hb' : ¬ b = 0 := by omega
  have hd : a / b ≤ a := Int.ediv_le_self _ ha
  have hd0 : 0 ≤ a / b := Int.ediv_nonneg ha (by omega)
  have e : IntKind.i64.wrap (a / b) = a / b := by simp [IntKind.wrap, IntKind.bits, IntKind.signed]; omega
  go_simp
  try rw [Int.tdiv_eq_ediv_of_nonneg ha]
  try rw [e]
theorem addW {a b r : Int} (h : a + b = r) (h1 : -2147483648 ≤ r) (h2 : r ≤ 2147483647) : (do eqGuard .add 21 x y (.int .i32 a) (.int .i32 b); binOp .add 21 (.int .i32 a) (.int .i32 b) : Sem Value).run Ybaf.prog w = .ok (.int .i32 r) w := by
  subst h
  have e : IntKind.i32.wrap (a + b) = a + b := by simp [IntKind.wrap, IntKind.bits, IntKind.signed]; omega
  have k : (do eqGuard .add 21 x y (.int .i32 a) (.int .i32 b); binOp .add 21 (.int .i32 a) (.int .i32 b) : Sem Value).run Ybaf.prog w = .ok (.int .i32 (IntKind.i32.wrap (a + b))) w := by kernel_rfl
  rw [k, e]
theorem subW {a b r : Int} (h : a - b = r) (h1 : -2147483648 ≤ r) (h2 : r ≤ 2147483647) : (do eqGuard .sub 21 x y (.int .i32 a) (.int .i32 b); binOp .sub 21 (.int .i32 a) (.int .i32 b) : Sem Value).run Ybaf.prog w = .ok (.int .i32 r) w := by
  subst h
  have e : IntKind.i32.wrap (a - b) = a - b := by simp [IntKind.wrap, IntKind.bits, IntKind.signed]; omega
  have k : (do eqGuard .sub 21 x y (.int .i32 a) (.int .i32 b); binOp .sub 21 (.int .i32 a) (.int .i32 b) : Sem Value).run Ybaf.prog w = .ok (.int .i32 (IntKind.i32.wrap (a - b))) w := by kernel_rfl
  rw [k, e]
theorem mulW {a b r : Int} (h : a * b = r) (h1 : -2147483648 ≤ r) (h2 : r ≤ 2147483647) : (do eqGuard .mul 21 x y (.int .i32 a) (.int .i32 b); binOp .mul 21 (.int .i32 a) (.int .i32 b) : Sem Value).run Ybaf.prog w = .ok (.int .i32 r) w := by
  subst h
  have e : IntKind.i32.wrap (a * b) = a * b := by simp [IntKind.wrap, IntKind.bits, IntKind.signed]; omega
  have k : (do eqGuard .mul 21 x y (.int .i32 a) (.int .i32 b); binOp .mul 21 (.int .i32 a) (.int .i32 b) : Sem Value).run Ybaf.prog w = .ok (.int .i32 (IntKind.i32.wrap (a * b))) w := by kernel_rfl
  rw [k, e]
theorem lssW {a b : Int} {r : Bool} (h : decide (a < b) = r) : (do eqGuard .lss 21 x y (.int .i32 a) (.int .i32 b); binOp .lss 21 (.int .i32 a) (.int .i32 b) : Sem Value).run Ybaf.prog w = .ok (.bool r) w := by
  subst h
  kernel_rfl
theorem leqW {a b : Int} {r : Bool} (h : decide (a ≤ b) = r) : (do eqGuard .leq 21 x y (.int .i32 a) (.int .i32 b); binOp .leq 21 (.int .i32 a) (.int .i32 b) : Sem Value).run Ybaf.prog w = .ok (.bool r) w := by
  subst h
  kernel_rfl
theorem gtrW {a b : Int} {r : Bool} (h : decide (b < a) = r) : (do eqGuard .gtr 21 x y (.int .i32 a) (.int .i32 b); binOp .gtr 21 (.int .i32 a) (.int .i32 b) : Sem Value).run Ybaf.prog w = .ok (.bool r) w := by
  subst h
  kernel_rfl
theorem geqW {a b : Int} {r : Bool} (h : decide (b ≤ a) = r) : (do eqGuard .geq 21 x y (.int .i32 a) (.int .i32 b); binOp .geq 21 (.int .i32 a) (.int .i32 b) : Sem Value).run Ybaf.prog w = .ok (.bool r) w := by
  subst h
  kernel_rfl
theorem eqlW {a b : Int} {r : Bool} (h : (a == b) = r) : (do eqGuard .eql 21 x y (.int .i32 a) (.int .i32 b); binOp .eql 21 (.int .i32 a) (.int .i32 b) : Sem Value).run Ybaf.prog w = .ok (.bool r) w := by
  subst h
  go_simp
theorem neqW {a b : Int} {r : Bool} (h : (!(a == b)) = r) : (do eqGuard .neq 21 x y (.int .i32 a) (.int .i32 b); binOp .neq 21 (.int .i32 a) (.int .i32 b) : Sem Value).run Ybaf.prog w = .ok (.bool r) w := by
  subst h
  go_simp
  rfl
theorem quoW {a b r : Int} (h : a / b = r) (ha : 0 ≤ a) (hb : 0 < b) (hr : a ≤ 2147483647) : (do eqGuard .quo 21 x y (.int .i32 a) (.int .i32 b); binOp .quo 21 (.int .i32 a) (.int .i32 b) : Sem Value).run Ybaf.prog w = .ok (.int .i32 r) w := by
  subst h
  have hb' : ¬ b = 0 := by omega
  have hd : a / b ≤ a := Int.ediv_le_self _ ha
  have hd0 : 0 ≤ a / b := Int.ediv_nonneg ha (by omega)
  have e : IntKind.i32.wrap (a / b) = a / b := by simp [IntKind.wrap, IntKind.bits, IntKind.signed]; omega
  go_simp
  try rw [Int.tdiv_eq_ediv_of_nonneg ha]
  try rw [e]
theorem addV {a b r : Int} (h : a + b = r) (h1 : 0 ≤ r) (h2 : r ≤ 18446744073709551615) : (do eqGuard .add 35 x y (.int .u64 a) (.int .u64 b); binOp .add 35 (.int .u64 a) (.int .u64 b) : Sem Value).run Ybaf.prog w = .ok (.int .u64 r) w := by
  subst h
  have e : IntKind.u64.wrap (a + b) = a + b := by simp [IntKind.wrap, IntKind.bits, IntKind.signed]; omega
  have k : (do eqGuard .add 35 x y (.int .u64 a) (.int .u64 b); binOp .add 35 (.int .u64 a) (.int .u64 b) : Sem Value).run Ybaf.prog w = .ok (.int .u64 (IntKind.u64.wrap (a + b))) w := by kernel_rfl
  rw [k, e]
theorem subV {a b r : Int} (h : a - b = r) (h1 : 0 ≤ r) (h2 : r ≤ 18446744073709551615) : (do eqGuard .sub 35 x y (.int .u64 a) (.int .u64 b); binOp .sub 35 (.int .u64 a) (.int .u64 b) : Sem Value).run Ybaf.prog w = .ok (.int .u64 r) w := by
  subst h
  have e : IntKind.u64.wrap (a - b) = a - b := by simp [IntKind.wrap, IntKind.bits, IntKind.signed]; omega
  have k : (do eqGuard .sub 35 x y (.int .u64 a) (.int .u64 b); binOp .sub 35 (.int .u64 a) (.int .u64 b) : Sem Value).run Ybaf.prog w = .ok (.int .u64 (IntKind.u64.wrap (a - b))) w := by kernel_rfl
  rw [k, e]
theorem mulV {a b r : Int} (h : a * b = r) (h1 : 0 ≤ r) (h2 : r ≤ 18446744073709551615) : (do eqGuard .mul 35 x y (.int .u64 a) (.int .u64 b); binOp .mul 35 (.int .u64 a) (.int .u64 b) : Sem Value).run Ybaf.prog w = .ok (.int .u64 r) w := by
  subst h
  have e : IntKind.u64.wrap (a * b) = a * b := by simp [IntKind.wrap, IntKind.bits, IntKind.signed]; omega
  have k : (do eqGuard .mul 35 x y (.int .u64 a) (.int .u64 b); binOp .mul 35 (.int .u64 a) (.int .u64 b) : Sem Value).run Ybaf.prog w = .ok (.int .u64 (IntKind.u64.wrap (a * b))) w := by kernel_rfl
  rw [k, e]
theorem lssV {a b : Int} {r : Bool} (h : decide (a < b) = r) : (do eqGuard .lss 35 x y (.int .u64 a) (.int .u64 b); binOp .lss 35 (.int .u64 a) (.int .u64 b) : Sem Value).run Ybaf.prog w = .ok (.bool r) w := by
  subst h
  kernel_rfl
theorem leqV {a b : Int} {r : Bool} (h : decide (a ≤ b) = r) : (do eqGuard .leq 35 x y (.int .u64 a) (.int .u64 b); binOp .leq 35 (.int .u64 a) (.int .u64 b) : Sem Value).run Ybaf.prog w = .ok (.bool r) w := by
  subst h
  kernel_rfl
theorem gtrV {a b : Int} {r : Bool} (h : decide (b < a) = r) : (do eqGuard .gtr 35 x y (.int .u64 a) (.int .u64 b); binOp .gtr 35 (.int .u64 a) (.int .u64 b) : Sem Value).run Ybaf.prog w = .ok (.bool r) w := by
  subst h
  kernel_rfl
theorem geqV {a b : Int} {r : Bool} (h : decide (b ≤ a) = r) : (do eqGuard .geq 35 x y (.int .u64 a) (.int .u64 b); binOp .geq 35 (.int .u64 a) (.int .u64 b) : Sem Value).run Ybaf.prog w = .ok (.bool r) w := by
  subst h
  kernel_rfl
theorem eqlV {a b : Int} {r : Bool} (h : (a == b) = r) : (do eqGuard .eql 35 x y (.int .u64 a) (.int .u64 b); binOp .eql 35 (.int .u64 a) (.int .u64 b) : Sem Value).run Ybaf.prog w = .ok (.bool r) w := by
  subst h
  go_simp
theorem neqV {a b : Int} {r : Bool} (h : (!(a == b)) = r) : (do eqGuard .neq 35 x y (.int .u64 a) (.int .u64 b); binOp .neq 35 (.int .u64 a) (.int .u64 b) : Sem Value).run Ybaf.prog w = .ok (.bool r) w := by
  subst h
  go_simp
  rfl
theorem quoV {a b r : Int} (h : a / b = r) (ha : 0 ≤ a) (hb : 0 < b) (hr : a ≤ 18446744073709551615) : (do eqGuard .quo 35 x y (.int .u64 a) (.int .u64 b); binOp .quo 35 (.int .u64 a) (.int .u64 b) : Sem Value).run Ybaf.prog w = .ok (.int .u64 r) w := by
  subst h
  have hb' : ¬ b = 0 := by omega
  have hd : a / b ≤ a := Int.ediv_le_self _ ha
  have hd0 : 0 ≤ a / b := Int.ediv_nonneg ha (by omega)
  have e : IntKind.u64.wrap (a / b) = a / b := by simp [IntKind.wrap, IntKind.bits, IntKind.signed]; omega
  go_simp
  try rw [Int.tdiv_eq_ediv_of_nonneg ha]
  try rw [e]
theorem addN {a b r : Int} (h : a + b = r) (h1 : 0 ≤ r) (h2 : r ≤ 18446744073709551615) : (do eqGuard .add 58 x y (.int .u64 a) (.int .u64 b); binOp .add 58 (.int .u64 a) (.int .u64 b) : Sem Value).run Ybaf.prog w = .ok (.int .u64 r) w := by
  subst h
  have e : IntKind.u64.wrap (a + b) = a + b := by simp [IntKind.wrap, IntKind.bits, IntKind.signed]; omega
  have k : (do eqGuard .add 58 x y (.int .u64 a) (.int .u64 b); binOp .add 58 (.int .u64 a) (.int .u64 b) : Sem Value).run Ybaf.prog w = .ok (.int .u64 (IntKind.u64.wrap (a + b))) w := by kernel_rfl
  rw [k, e]
theorem subN {a b r : Int} (h : a - b = r) (h1 : 0 ≤ r) (h2 : r ≤ 18446744073709551615) : (do eqGuard .sub 58 x y (.int .u64 a) (.int .u64 b); binOp .sub 58 (.int .u64 a) (.int .u64 b) : Sem Value).run Ybaf.prog w = .ok (.int .u64 r) w := by
  subst h
  have e : IntKind.u64.wrap (a - b) = a - b := by simp [IntKind.wrap, IntKind.bits, IntKind.signed]; omega
  have k : (do eqGuard .sub 58 x y (.int .u64 a) (.int .u64 b); binOp .sub 58 (.int .u64 a) (.int .u64 b) : Sem Value).run Ybaf.prog w = .ok (.int .u64 (IntKind.u64.wrap (a - b))) w := by kernel_rfl
  rw [k, e]
theorem mulN {a b r : Int} (h : a * b = r) (h1 : 0 ≤ r) (h2 : r ≤ 18446744073709551615) : (do eqGuard .mul 58 x y (.int .u64 a) (.int .u64 b); binOp .mul 58 (.int .u64 a) (.int .u64 b) : Sem Value).run Ybaf.prog w = .ok (.int .u64 r) w := by
  subst h
  have e : IntKind.u64.wrap (a * b) = a * b := by simp [IntKind.wrap, IntKind.bits, IntKind.signed]; omega
  have k : (do eqGuard .mul 58 x y (.int .u64 a) (.int .u64 b); binOp .mul 58 (.int .u64 a) (.int .u64 b) : Sem Value).run Ybaf.prog w = .ok (.int .u64 (IntKind.u64.wrap (a * b))) w := by kernel_rfl
  rw [k, e]
theorem lssN {a b : Int} {r : Bool} (h : decide (a < b) = r) : (do eqGuard .lss 58 x y (.int .u64 a) (.int .u64 b); binOp .lss 58 (.int .u64 a) (.int .u64 b) : Sem Value).run Ybaf.prog w = .ok (.bool r) w := by
  subst h
  kernel_rfl
theorem leqN {a b : Int} {r : Bool} (h : decide (a ≤ b) = r) : (do eqGuard .leq 58 x y (.int .u64 a) (.int .u64 b); binOp .leq 58 (.int .u64 a) (.int .u64 b) : Sem Value).run Ybaf.prog w = .ok (.bool r) w := by
  subst h
  kernel_rfl
theorem gtrN {a b : Int} {r : Bool} (h : decide (b < a) = r) : (do eqGuard .gtr 58 x y (.int .u64 a) (.int .u64 b); binOp .gtr 58 (.int .u64 a) (.int .u64 b) : Sem Value).run Ybaf.prog w = .ok (.bool r) w := by
  subst h
  kernel_rfl
theorem geqN {a b : Int} {r : Bool} (h : decide (b ≤ a) = r) : (do eqGuard .geq 58 x y (.int .u64 a) (.int .u64 b); binOp .geq 58 (.int .u64 a) (.int .u64 b) : Sem Value).run Ybaf.prog w = .ok (.bool r) w := by
  subst h
  kernel_rfl
theorem eqlN {a b : Int} {r : Bool} (h : (a == b) = r) : (do eqGuard .eql 58 x y (.int .u64 a) (.int .u64 b); binOp .eql 58 (.int .u64 a) (.int .u64 b) : Sem Value).run Ybaf.prog w = .ok (.bool r) w := by
  subst h
  go_simp
theorem neqN {a b : Int} {r : Bool} (h : (!(a == b)) = r) : (do eqGuard .neq 58 x y (.int .u64 a) (.int .u64 b); binOp .neq 58 (.int .u64 a) (.int .u64 b) : Sem Value).run Ybaf.prog w = .ok (.bool r) w := by
  subst h
  go_simp
  rfl
theorem quoN {a b r : Int} (h : a / b = r) (ha : 0 ≤ a) (hb : 0 < b) (hr : a ≤ 18446744073709551615) : (do eqGuard .quo 58 x y (.int .u64 a) (.int .u64 b); binOp .quo 58 (.int .u64 a) (.int .u64 b) : Sem Value).run Ybaf.prog w = .ok (.int .u64 r) w := by
  subst h
  have hb' : ¬ b = 0 := by omega
  have hd : a / b ≤ a := Int.ediv_le_self _ ha
  have hd0 : 0 ≤ a / b := Int.ediv_nonneg ha (by omega)
  have e : IntKind.u64.wrap (a / b) = a / b := by simp [IntKind.wrap, IntKind.bits, IntKind.signed]; omega
  go_simp
  try rw [Int.tdiv_eq_ediv_of_nonneg ha]
  try rw [e]
theorem eqlH {a b : Int} {r : Bool} (h : (a == b) = r) : (do eqGuard .eql 127 x y (.int .i64 a) (.int .i64 b); binOp .eql 127 (.int .i64 a) (.int .i64 b) : Sem Value).run Ybaf.prog w = .ok (.bool r) w := by
  subst h
  go_simp
end
theorem wp_join {P : Program} {c r : Code} {Q : Exit → Act → World → Prop} {a : Act} {w : World} (J : Act → World → Prop) (h1 : c.wp P (Exit.then J Q) a w) (h2 : ∀ a w, J a w → r.wp P Q a w) : (c.seq r).wp P Q a w := by
  refine wp_seq ?_
  intro b k cs
  obtain ⟨e, a', w', q, rr⟩ := h1 b k cs
  refine ⟨e, a', w', ?_, rr⟩
  cases e with
  | normal => exact h2 _ _ q
  | _ => exact q
theorem Fm_of {N : Nat} (T : Array Value) (h : T.size = N) : ({ tmps := T, defers := [] } : Act) = Fm N (fun k => T.getD k undef) := by
  subst h
  simp only [Fm]
  congr 1
  apply Array.ext
  · simp
  · intro i h1 h2
    simp [h1]
abbrev CallR (fn : FuncId) (args : Array Value) (w : World) (R : Value → World → Prop) : Prop := Calls Ybaf.prog fn args w fun e w' => ∃ v, e = .returned v ∧ R v w'
end Go.Proofs.YbulkblsgFmt

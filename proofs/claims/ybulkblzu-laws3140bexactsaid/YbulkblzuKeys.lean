import Derived.Test.YbulkblzuPlain
namespace Go.Proofs.Ybulkblzu
open Go.RowKit Go.Maps Go.WideMaps
set_option linter.unusedVariables false

/-- The node ID whose first byte is n. -/
def kA (n : Nat) : Value := .agg #[.int .u8 n, z8, z8, z8, z8, z8, z8, z8, z8, z8, z8, z8, z8, z8, z8, z8, z8, z8, z8, z8]
def kL (n : Nat) : Lit := .string (UInt8.ofNat n :: List.replicate 19 0)
theorem laidOut : laidOutB Yba.prog = true := by kernel_rfl
theorem row28 : (28 : TypeId) < Yba.prog.types.size := of_decide_eq_true (by kernel_rfl)
theorem wide28 : (match Yba.prog.underlying 28 with | some (.array _ _) | some (.struct _) => true | _ => false) = true := by rw [Yba.underlying28]
theorem deep28 : Yba.prog.keyTypeAt 2 28 = true := by kernel_rfl
set_option maxRecDepth 100000 in
theorem law28 : Keyed Yba.prog 28 := Keyed.of_law (deep_law_laid laidOut (m := 2) (by omega) row28 deep28 wide28)
theorem key0 : keyOf Yba.prog 28 (kA 0) = some (kL 0) := by kernel_rfl
theorem key1 : keyOf Yba.prog 28 (kA 1) = some (kL 1) := by kernel_rfl
theorem key2 : keyOf Yba.prog 28 (kA 2) = some (kL 2) := by kernel_rfl
theorem key3 : keyOf Yba.prog 28 (kA 3) = some (kL 3) := by kernel_rfl
theorem key_all {n : Nat} (h : n < 4) : keyOf Yba.prog 28 (kA n) = some (kL n) := by
  match n, h with
  | 0, _ => exact key0
  | 1, _ => exact key1
  | 2, _ => exact key2
  | 3, _ => exact key3
theorem kL_ok (n : Nat) : WideAt.IsKeyLit (kL n) := trivial
theorem kL_ne {a b : Nat} (ha : a < 4) (hb : b < 4) (h : a ≠ b) : kL a ≠ kL b := by
  intro e
  simp only [kL, Lit.string.injEq, List.cons.injEq, and_true] at e
  have q := congrArg UInt8.toNat e
  simp only [UInt8.toNat_ofNat'] at q
  omega
theorem zero34 (w : World) : (zeroValue 34).run Yba.prog w = .ok (.pointer none) w := by kernel_rfl
theorem info62 : (Yba.prog.info? 62).map (fun i => (i.zero, i.size, i.bytes)) = some (some (.agg #[.string ByteArray.empty, z8, z8, z8, z8, z8, z8, z8, z8, z8, z8, z8, z8, z8, z8, z8, z8, z8, z8, z8, z8, .string ByteArray.empty, .int .u16 0, .bool false, .pointer none]), 25, 80) := by kernel_rfl
theorem info33 : (Yba.prog.info? 33).map (fun i => (i.zero, i.size, i.bytes)) = some (some (.agg #[z8, z8, z8, z8, z8, z8, z8, z8, z8, z8, z8, z8, z8, z8, z8, z8, z8, z8, z8, z8, .string ByteArray.empty, .int .u16 0]), 22, 48) := by kernel_rfl

end Go.Proofs.Ybulkblzu

import Derived.Test.YbulkblzuNav
import Derived.Deep.DeepCutAuto
import Derived.Deep.LoopGhost
import Derived.Deep.CutBlock
namespace Go.Proofs.Ybulkblzu
open Go.RowKit Go.Maps Go.WideMaps
set_option linter.unusedVariables false

/-- The entries as they came in. -/
def Given (E : Nat → Ent) (a0 : Option Addr) (nn : Nat) (w : World) : Prop := ∀ k, k < nn → ∃ b off, a0 = some ⟨b, off, none⟩ ∧ b < w.heap.size ∧ w.cell? ⟨b, off + k * 5, none⟩ = some (.int .u8 (E k).id) ∧ w.cell? ⟨b, off + k * 5 + 1, none⟩ = some (.string (E k).host) ∧ w.cell? ⟨b, off + k * 5 + 2, none⟩ = some (.int .u16 (E k).port) ∧
  w.cell? ⟨b, off + k * 5 + 3, none⟩ = some (.bool (E k).held) ∧ w.cell? ⟨b, off + k * 5 + 4, none⟩ = some (.int .u8 (E k).own) ∧ (E k).own ≤ 255

theorem at2 (x : World) (a b c : Obj) : (((x.alloc a).alloc b).alloc c).heap[x.heap.size + 1 + 1]? = some c := by
  have q := heap_alloc_new ((x.alloc a).alloc b) c
  simpa using q
theorem at0 (x : World) (a b c : Obj) : (((x.alloc a).alloc b).alloc c).heap[x.heap.size]? = some a := by
  have h : Below (x.alloc a).heap.size (x.alloc a) (((x.alloc a).alloc b).alloc c) := al (al (Below.refl _ _) _) _
  rw [h.block x.heap.size (by simp)]
  exact heap_alloc_new x a
def shC (k : Nat) : Array Value := #[.int .u8 k, z8, z8, z8, z8, z8, z8, z8, z8, z8, z8, z8, z8, z8, z8, z8, z8, z8, z8, z8, .slice none 0 0, .slice none 0 0, .int .u64 0, .int .i64 0, .pointer none, .pointer none]
theorem wrap8_0 : IntKind.u8.wrap 0 = 0 := by decide
theorem wrap8_1 : IntKind.u8.wrap 1 = 1 := by decide
theorem wrap8_2 : IntKind.u8.wrap 2 = 2 := by decide
theorem mkMap {P : Program} {t k e : TypeId} (ht : P.underlying t = some (.map k e)) (w : World) : (Instr.makeMap t none).run P w = .ok (.map (some w.heap.size)) (w.alloc (.map #[] 0)) := by
  simp [Instr.makeMap]
end Go.Proofs.Ybulkblzu

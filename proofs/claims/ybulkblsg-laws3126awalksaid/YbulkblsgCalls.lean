import Derived.Test.YbulkblsgRows
import Derived.WalkKit
import Derived.ProofKit
import Derived.Below
import Derived.Deep.QuietTactic
import Derived.BigQuiet
import Derived.WalkLawsBesides
import Derived.WalkSpells
import Derived.Outline
namespace Go.Proofs.Ybulkblsg
open Go.RowKit
set_option linter.unusedVariables false


/-- A block of two cells laid ahead of a call, behind the call. -/
theorem two_behind {w w1 : World} {x y : Value} {t : TypeId} (hb : Below (w.alloc (.cells #[x, y] t)).heap.size (w.alloc (.cells #[x, y] t)) w1) :
    w1.cell? ⟨w.heap.size, 0, none⟩ = some x ∧ w1.cell? ⟨w.heap.size, 1, none⟩ = some y ∧ w1.frozen? ⟨w.heap.size, 0, none⟩ = false ∧ w1.frozen? ⟨w.heap.size, 1, none⟩ = false ∧
      w.heap.size < w1.heap.size ∧ Below w.heap.size w w1 := by
  have hs := hb.size
  have hlt : w.heap.size < (w.alloc (.cells #[x, y] t)).heap.size := by simp
  refine ⟨?_, ?_, ?_, ?_, ?_, ?_⟩
  · rw [hb.cell hlt]; simp
  · rw [hb.cell hlt]; simp
  · rw [hb.frozen hlt]; simp
  · rw [hb.frozen hlt]; simp
  · simp at hs; omega
  · exact ((Below.refl _ _).alloc (Nat.le_refl _) _).trans (hb.mono (by simp))

set_option maxHeartbeats 400000 in
theorem end_any (N : Nat) (a : Option Addr) (n c : Nat) (w : World) (hc : w.cell? ⟨N, 0, none⟩ = some (.slice a n c)) :
    Calls Yba.prog 9 #[.pointer (some ⟨N, 0, none⟩)] w fun e w' => e = .returned (.agg #[.int .i64 n, .int .i64 0]) ∧ Below w.heap.size w w' := by
  have hN : N < w.heap.size := World.block_lt_of_cell? w _ hc
  go_enter Yba.func9, Yba.ntmps9
  go_wp2
  exact bodyPost_ret (v := .agg #[.int .i64 n, .int .i64 0]) (by simp [results, Yba.results9, go_sem]) rfl ⟨rfl, (Below.refl _ _).alloc (Nat.le_refl _) _⟩

set_option maxHeartbeats 400000 in
theorem first_nil (N : Nat) (a : Option Addr) (n c : Nat) (w : World) (hc : w.cell? ⟨N, 0, none⟩ = some (.slice a n c)) (hn : n = 0) :
    Calls Yba.prog 5 #[.pointer (some ⟨N, 0, none⟩)] w fun e w' => e = .returned (.agg #[.int .i64 n, .int .i64 0]) ∧ Below w.heap.size w w' := by
  have hN : N < w.heap.size := World.block_lt_of_cell? w _ hc
  subst hn
  go_enter Yba.func5, Yba.ntmps5
  go_wp2_with (go_at_call 9; refine (end_any N a 0 c _ (by rw [World.cell?_alloc_lt _ _ _ hN]; exact hc)).mono ?_; rintro e w1 ⟨rfl, hb⟩; obtain ⟨q0, q1, f0, f1, hz9, hb1⟩ := two_behind hb; clear hb)
  exact bodyPost_ret (v := .agg #[.int .i64 0, .int .i64 0]) (by simp [results, Yba.results5, go_sem, q0, q1]) rfl ⟨rfl, (hb1.setCell (Nat.le_refl _) _).setCell (Nat.le_refl _) _⟩

set_option maxHeartbeats 400000 in
theorem first_empty (N g n c : Nat) (a1 : Option Addr) (c1 : Nat) (w : World) (hc : w.cell? ⟨N, 0, none⟩ = some (.slice (some ⟨g, 0, none⟩) n c)) (hn : 0 < n)
    (h1 : w.cell? ⟨g, 0, none⟩ = some (.slice a1 0 c1)) :
    Calls Yba.prog 5 #[.pointer (some ⟨N, 0, none⟩)] w fun e w' => e = .returned (.agg #[.int .i64 n, .int .i64 0]) ∧ Below w.heap.size w w' := by
  have hN : N < w.heap.size := World.block_lt_of_cell? w _ hc
  have hg : g < w.heap.size := World.block_lt_of_cell? w _ h1
  have hz : ((n : Int) == 0) = false := by simp; omega
  go_enter Yba.func5, Yba.ntmps5
  go_wp2_with (go_at_call 9; refine (end_any N _ n c _ (by rw [World.cell?_alloc_lt _ _ _ hN]; exact hc)).mono ?_; rintro e w1 ⟨rfl, hb⟩; obtain ⟨q0, q1, f0, f1, hz9, hb1⟩ := two_behind hb; clear hb)
  exact bodyPost_ret (v := .agg #[.int .i64 n, .int .i64 0]) (by simp [results, Yba.results5, go_sem, q0, q1]) rfl ⟨rfl, (hb1.setCell (Nat.le_refl _) _).setCell (Nat.le_refl _) _⟩

set_option maxHeartbeats 400000 in
theorem first_some (N g n c : Nat) (a1 : Option Addr) (n1 c1 : Nat) (w : World) (hc : w.cell? ⟨N, 0, none⟩ = some (.slice (some ⟨g, 0, none⟩) n c)) (hn : 0 < n)
    (h1 : w.cell? ⟨g, 0, none⟩ = some (.slice a1 n1 c1)) (hn1 : 0 < n1) :
    Calls Yba.prog 5 #[.pointer (some ⟨N, 0, none⟩)] w fun e w' => e = .returned (.agg #[.int .i64 0, .int .i64 0]) ∧ Below w.heap.size w w' := by
  have hN : N < w.heap.size := World.block_lt_of_cell? w _ hc
  have hg : g < w.heap.size := World.block_lt_of_cell? w _ h1
  have hz : ((n : Int) == 0) = false := by simp; omega
  have hz1 : ((n1 : Int) == 0) = false := by simp; omega
  go_enter Yba.func5, Yba.ntmps5
  go_wp2_with fail
  exact bodyPost_ret (v := .agg #[.int .i64 0, .int .i64 0]) (by simp [results, Yba.results5, go_sem]) rfl ⟨rfl, (Below.refl _ _).alloc (Nat.le_refl _) _⟩

end Go.Proofs.Ybulkblsg

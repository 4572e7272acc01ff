import Derived.Test.YbulkblsgFirst
namespace Go.Proofs.Ybulkblsg
open Go.RowKit
set_option linter.unusedVariables false

set_option maxHeartbeats 400000 in
theorem at_end (N : Nat) (a : Option Addr) (n c p : Nat) (k : Int) (w : World) (hc : w.cell? ⟨N, 0, none⟩ = some (.slice a n c)) (hp : n ≤ p) (hp' : p ≤ 4611686018427387904) :
    Calls Yba.prog 7 #[.pointer (some ⟨N, 0, none⟩), .agg #[.int .i64 p, .int .i64 k]] w fun e w' => e = .returned (.tuple #[.agg #[.int .i64 0, .int .i64 0, .int .i64 0], .bool false]) ∧ Below w.heap.size w w' := by
  have hN : N < w.heap.size := World.block_lt_of_cell? w _ hc
  have hd : decide ((n : Int) ≤ (p : Int)) = true := by simp; omega
  go_enter Yba.func7, Yba.ntmps7
  go_wp2
  go_quiet (fail)
  go_wp2
  refine bodyPost_ret (v := .tuple #[.agg #[.int .i64 0, .int .i64 0, .int .i64 0], .bool false]) (by simp [results, Yba.results7, go_sem]) rfl ⟨rfl, ?_⟩
  exact (((below_drewN (((Below.refl _ _).alloc (Nat.le_refl _) _).alloc (by simp) _) _).setCell (by simp) _).setCell (by simp) _).setCell (by simp) _

set_option maxHeartbeats 400000 in
theorem at_some (N g n c p h m k : Nat) (S E V : Int) (w : World) (hc : w.cell? ⟨N, 0, none⟩ = some (.slice (some ⟨g, 0, none⟩) n c)) (hp : p < n) (hn : n ≤ 4611686018427387904)
    (hg : w.cell? ⟨g, p, none⟩ = some (.slice (some ⟨h, 0, none⟩) m m)) (hk : k < m) (hm : m ≤ 4611686018427387904)
    (c0 : w.cell? ⟨h, k * 3, none⟩ = some (.int .i64 S)) (c1 : w.cell? ⟨h, k * 3 + 1, none⟩ = some (.int .i64 E)) (c2 : w.cell? ⟨h, k * 3 + 2, none⟩ = some (.int .i64 V)) :
    Calls Yba.prog 7 #[.pointer (some ⟨N, 0, none⟩), .agg #[.int .i64 p, .int .i64 k]] w fun e w' => e = .returned (.tuple #[.agg #[.int .i64 S, .int .i64 E, .int .i64 V], .bool true]) ∧ Below w.heap.size w w' := by
  have hN : N < w.heap.size := World.block_lt_of_cell? w _ hc
  have hG : g < w.heap.size := World.block_lt_of_cell? w _ hg
  have hH : h < w.heap.size := World.block_lt_of_cell? w _ c0
  have hd : decide ((n : Int) ≤ (p : Int)) = false := by simp; omega
  have hd2 : decide ((m : Int) ≤ (k : Int)) = false := by simp; omega
  have i1 : (p : Int) < (n : Int) := by omega
  have i2 : (k : Int) < (m : Int) := by omega
  have i3 : (0 : Int) ≤ (p : Int) := by omega
  have i4 : (0 : Int) ≤ (k : Int) := by omega
  go_enter Yba.func7, Yba.ntmps7
  go_wp2
  go_quiet (fail)
  go_wp2
  go_region
  all_goals go_wp2
  all_goals
    refine bodyPost_ret (v := .tuple #[.agg #[.int .i64 S, .int .i64 E, .int .i64 V], .bool true]) (by simp [results, Yba.results7, go_sem]) rfl ⟨rfl, ?_⟩
    exact (((below_drewN (((Below.refl _ _).alloc (Nat.le_refl _) _).alloc (by simp) _) _).setCell (by simp) _).setCell (by simp) _).setCell (by simp) _

set_option maxHeartbeats 400000 in
theorem next_last (N g n c p m k : Nat) (a1 : Option Addr) (w : World) (hc : w.cell? ⟨N, 0, none⟩ = some (.slice (some ⟨g, 0, none⟩) n c)) (hp : p < n) (hn : n ≤ 4611686018427387904)
    (hg : w.cell? ⟨g, p, none⟩ = some (.slice a1 m m)) (hk : k + 1 = m) (hm : m ≤ 4611686018427387904) :
    Calls Yba.prog 8 #[.pointer (some ⟨N, 0, none⟩), .agg #[.int .i64 p, .int .i64 k]] w fun e w' => e = .returned (.agg #[.int .i64 (p + 1 : Nat), .int .i64 0]) ∧ Below w.heap.size w w' := by
  have hN : N < w.heap.size := World.block_lt_of_cell? w _ hc
  have hG : g < w.heap.size := World.block_lt_of_cell? w _ hg
  have i1 : (p : Int) < (n : Int) := by omega
  have i3 : (0 : Int) ≤ (p : Int) := by omega
  have he : ((k : Int) + 1 == (m : Int)) = true := by simp; omega
  have hk2 : k < 4611686018427387904 := by omega
  clear hk
  go_enter Yba.func8, Yba.ntmps8
  go_wp2
  go_quiet (fail)
  go_wp2
  refine bodyPost_ret (v := .agg #[.int .i64 (p + 1 : Nat), .int .i64 0]) (by simp [results, Yba.results8, go_sem]) rfl ⟨rfl, ?_⟩
  exact ((((below_drewN (((Below.refl _ _).alloc (Nat.le_refl _) _).alloc (by simp) _) _).setCell (by simp) _).setCell (by simp) _).setCell (by simp) _).setCell (by simp) _

set_option maxHeartbeats 400000 in
theorem next_more (N g n c p m k : Nat) (a1 : Option Addr) (w : World) (hc : w.cell? ⟨N, 0, none⟩ = some (.slice (some ⟨g, 0, none⟩) n c)) (hp : p < n) (hn : n ≤ 4611686018427387904)
    (hg : w.cell? ⟨g, p, none⟩ = some (.slice a1 m m)) (hk : k + 1 < m) (hm : m ≤ 4611686018427387904) :
    Calls Yba.prog 8 #[.pointer (some ⟨N, 0, none⟩), .agg #[.int .i64 p, .int .i64 k]] w fun e w' => e = .returned (.agg #[.int .i64 p, .int .i64 (k + 1 : Nat)]) ∧ Below w.heap.size w w' := by
  have hN : N < w.heap.size := World.block_lt_of_cell? w _ hc
  have hG : g < w.heap.size := World.block_lt_of_cell? w _ hg
  have i1 : (p : Int) < (n : Int) := by omega
  have i3 : (0 : Int) ≤ (p : Int) := by omega
  have he : ((k : Int) + 1 == (m : Int)) = false := by simp; omega
  go_enter Yba.func8, Yba.ntmps8
  go_wp2
  go_quiet (fail)
  go_wp2
  refine bodyPost_ret (v := .agg #[.int .i64 p, .int .i64 (k + 1 : Nat)]) (by simp [results, Yba.results8, go_sem]) rfl ⟨rfl, ?_⟩
  exact ((below_drewN (((Below.refl _ _).alloc (Nat.le_refl _) _).alloc (by simp) _) _).setCell (by simp) _).setCell (by simp) _

end Go.Proofs.Ybulkblsg

import Derived.Test.YbulkblsgFmtSn
import Derived.BigRegion
import Derived.RegionTactic
namespace Go.Proofs.YbulkblsgFmt
open Go.RowKit Go.Sort
set_option linter.unusedVariables false
set_option linter.unusedSimpArgs false
set_option maxHeartbeats 4000000 in
set_option maxRecDepth 100000 in
theorem swap_any (D E off N c : Nat) (i j : Nat) (x y : Int) (w : World) (hi : i < N) (hj : j < N) (hN : N < 4611686018427387904)
    (hb : w.cell? ⟨D, 720, none⟩ = some (.slice (some ⟨E, off, none⟩) N c)) (hne : D ≠ E)
    (ci : w.cell? ⟨E, off + i, none⟩ = some (.int .i64 x)) (cj : w.cell? ⟨E, off + j, none⟩ = some (.int .i64 y)) (fi : w.frozen? ⟨E, off + i, none⟩ = false) (fj : w.frozen? ⟨E, off + j, none⟩ = false) :
    Calls Ybaf.prog 104 #[.pointer (some ⟨D, 720, none⟩), .int .i64 ((i : Nat) : Int), .int .i64 ((j : Nat) : Int)] w fun e w' => e = .returned (.tuple #[]) ∧ ∃ q, w' = ((w.setCell ⟨E, off + i, none⟩ (.int .i64 y)).setCell ⟨E, off + j, none⟩ (.int .i64 x)).drewN q := by
  obtain ⟨v', hy'⟩ := cell?_setCell_some (w := w) (p := ⟨E, off + i, none⟩) (x := .int .i64 y) (q := ⟨E, off + j, none⟩) cj
  go_enter Ybaf.func104, Ybaf.ntmps104
  go_wp2
  go_region
  all_goals (try go_wp2)
  all_goals go_end0
  all_goals exact ⟨rfl, 1, rfl⟩
def ltD (dl : Nat → Nat) (x y : Int) : Bool := if dl x.toNat = dl y.toNat then decide (x < y) else decide (dl x.toNat < dl y.toNat)
theorem ltD_true (dl : Nat → Nat) (x y : Int) : ltD dl x y = true ↔ (dl x.toNat < dl y.toNat ∨ (dl x.toNat = dl y.toNat ∧ x < y)) := by
  unfold ltD
  split
  · rw [decide_eq_true_eq]; omega
  · rw [decide_eq_true_eq]; omega
theorem ltD_false (dl : Nat → Nat) (x y : Int) : ltD dl x y = false ↔ ¬ (dl x.toNat < dl y.toNat ∨ (dl x.toNat = dl y.toNat ∧ x < y)) := by
  rw [← ltD_true, Bool.not_eq_true]
theorem ltD_swo (dl : Nat → Nat) : SWO (ltD dl) where
  irrefl := fun x => by rw [ltD_false]; omega
  trans := fun x y z => by rw [ltD_true, ltD_true, ltD_true]; omega
  ntrans := fun x y z => by rw [ltD_false, ltD_false, ltD_false]; omega
theorem len_bd (D E off N c : Nat) (w : World) (hb : w.cell? ⟨D, 720, none⟩ = some (.slice (some ⟨E, off, none⟩) N c)) :
    Calls Ybaf.prog 102 #[.pointer (some ⟨D, 720, none⟩)] w fun e w' => e = .returned (.int .i64 ((N : Nat) : Int)) ∧ w' = w := by
  go_enter Ybaf.func102, Ybaf.ntmps102
  go_wp2
  go_ret
  exact ⟨rfl, rfl⟩
set_option maxHeartbeats 4000000 in
set_option maxRecDepth 100000 in
theorem less_bd (D E C off N c n : Nat) (i j x y dx dy : Nat) (w : World) (hi : i < N) (hj : j < N) (hx : x < n) (hy : y < n) (hN : N < 4611686018427387904) (hn : n < 1000)
    (hb : w.cell? ⟨D, 720, none⟩ = some (.slice (some ⟨E, off, none⟩) N c)) (hb2 : w.cell? ⟨D, 721, none⟩ = some (.slice (some ⟨C, 0, none⟩) n n))
    (ci : w.cell? ⟨E, off + i, none⟩ = some (.int .i64 ((x : Nat) : Int))) (cj : w.cell? ⟨E, off + j, none⟩ = some (.int .i64 ((y : Nat) : Int)))
    (di : w.cell? ⟨C, x * 3, none⟩ = some (.int .i64 ((dx : Nat) : Int))) (dj : w.cell? ⟨C, y * 3, none⟩ = some (.int .i64 ((dy : Nat) : Int))) :
    Calls Ybaf.prog 103 #[.pointer (some ⟨D, 720, none⟩), .int .i64 ((i : Nat) : Int), .int .i64 ((j : Nat) : Int)] w fun e w' => e = .returned (.bool (if dx = dy then decide (x < y) else decide (dx < dy))) ∧ ∃ q, w' = w.drewN q := by
  have c3 : Ybaf.prog.cellsOf 44 = 3 := by kernel_rfl
  by_cases hd : dx = dy
  · subst hd
    rw [if_pos rfl]
    go_enter Ybaf.func103, Ybaf.ntmps103
    go_wp2
    go_quiet (fail)
    go_wp2
    go_quiet (fail)
    go_wp2
    go_ret
    exact ⟨rfl, _, by rw [World.drewN_drewN]⟩
  · rw [if_neg hd]
    have hd' : ((dx : Int) != (dy : Int)) = true := by simp; omega
    go_enter Ybaf.func103, Ybaf.ntmps103
    go_wp2
    go_quiet (fail)
    go_wp2
    go_ret
    exact ⟨rfl, _, rfl⟩
end Go.Proofs.YbulkblsgFmt

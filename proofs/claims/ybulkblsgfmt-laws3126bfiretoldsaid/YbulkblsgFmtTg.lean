import Derived.Test.YbulkblsgFmtTf
import Derived.BigRegion
import Derived.RegionTactic
namespace Go.Proofs.YbulkblsgFmt
open Go.RowKit
set_option linter.unusedVariables false
set_option linter.unusedSimpArgs false
theorem vacate_any (D : Nat) (w : World) : Calls Ybaf.prog 36 #[.pointer (some ⟨D, 0, none⟩), .int .i32 704] w fun e w' => e = .returned (.tuple #[]) ∧ w' = w := by
  go_enter Ybaf.func36, Ybaf.ntmps36
  go_wp2
  go_end0
  exact ⟨rfl, rfl⟩
set_option maxHeartbeats 1000000 in
set_option maxRecDepth 100000 in
theorem detach_any (D : Nat) (h : Int) (w : World) (hh : w.cell? ⟨D, 708, none⟩ = some (.int .i32 h)) (hf : w.frozen? ⟨D, 708, none⟩ = false) :
    Calls Ybaf.prog 22 #[.pointer (some ⟨D, 0, none⟩), .int .i32 704] w fun e w' => e = .returned (.int .i32 h) ∧ w' = w.setCell ⟨D, 708, none⟩ (.int .i32 (-1)) := by
  have hv := vacate_any D
  have c1 : Ybaf.prog.cellsOf 21 = 1 := by kernel_rfl
  go_enter Ybaf.func22, Ybaf.ntmps22
  go_wp2_with (first | (refine (hv _).mono ?_; rintro e w1 ⟨rfl, rfl⟩))
  go_ret
  exact ⟨rfl, rfl⟩
set_option maxHeartbeats 1000000 in
set_option maxRecDepth 100000 in
theorem deadline_any (D C n i : Nat) (x p : Int) (w : World) (hi : i < n) (hn : n < 1000) (hs : w.cell? ⟨D, 3, none⟩ = some (.slice (some ⟨C, 0, none⟩) n n)) (hx : w.cell? ⟨C, i * 3, none⟩ = some (.int .i64 x)) (hp : w.cell? ⟨C, i * 3 + 2, none⟩ = some (.int .i32 p)) :
    Calls Ybaf.prog 10 #[.pointer (some ⟨D, 0, none⟩), .int .i64 ((i : Nat) : Int)] w fun e w' => e = .returned (.tuple #[.int .i64 (if p = -2147483648 then 0 else x), .bool (!(p == -2147483648))]) ∧ w' = w := by
  have c1 : Ybaf.prog.cellsOf 44 = 3 := by kernel_rfl
  by_cases hpd : p = -2147483648
  · subst hpd
    rw [if_pos rfl]
    go_enter Ybaf.func10, Ybaf.ntmps10
    go_wp2
    all_goals first | (exfalso; omega) | (go_ret2; exact ⟨rfl, rfl⟩)
  · have hb : (p == -2147483648) = false := by simpa using hpd
    rw [if_neg hpd, hb]
    go_enter Ybaf.func10, Ybaf.ntmps10
    go_wp2
    all_goals first | (exfalso; omega) | (go_ret2; exact ⟨rfl, rfl⟩)
end Go.Proofs.YbulkblsgFmt

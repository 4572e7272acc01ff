import Derived.Test.YbulkblsgFmtReg
namespace Go.Proofs.YbulkblsgFmt
open Go.RowKit
set_option linter.unusedVariables false
set_option linter.unusedSimpArgs false
def opt (g : Nat) : Array Value := #[.int .i64 1000000000, .int .i64 0, .int .i64 1000000000, .int .i64 ((g : Nat) : Int), .bool false, .bool false]
set_option maxHeartbeats 1000000 in
set_option maxRecDepth 100000 in
theorem valid_any (g : Nat) (hg : 1 ≤ g) (hg2 : g ≤ 1000) (w : World) :
    Calls Ybaf.prog 34 #[.agg (opt g)] w fun e w' => e = .returned .nilIface ∧ w' = w.alloc (.cells (opt g) 34) := by
  unfold opt
  go_enter Ybaf.func34, Ybaf.ntmps34
  go_wp2
  all_goals first | (exfalso; omega) | (go_ret; exact ⟨rfl, rfl⟩)
set_option maxHeartbeats 1000000 in
set_option maxRecDepth 100000 in
theorem check_any (g : Nat) (hg : 1 ≤ g) (hg2 : g ≤ 1000) (w : World) :
    Calls Ybaf.prog 19 #[.agg (opt g)] w fun e w' => e = .returned .nilIface ∧ w' = (w.alloc (.cells (opt g) 34)).alloc (.cells (opt g) 34) := by
  have hv := fun w => valid_any g hg hg2 w
  unfold opt at hv ⊢
  go_enter Ybaf.func19, Ybaf.ntmps19
  go_wp2_with (first | (refine (hv _).mono ?_; rintro e w1 ⟨rfl, rfl⟩))
  all_goals first | (exfalso; omega) | (go_ret; exact ⟨rfl, rfl⟩)
end Go.Proofs.YbulkblsgFmt

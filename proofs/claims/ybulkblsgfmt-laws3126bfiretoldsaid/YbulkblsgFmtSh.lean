import Derived.Test.YbulkblsgFmtSg
namespace Go.Proofs.YbulkblsgFmt
open Go.RowKit Go.Sort
set_option linter.unusedVariables false
set_option linter.unusedSimpArgs false
variable {H : Nat} {rv : Value} {N : Nat} {lt : Int → Int → Bool} {S : Array Int → World → Prop}
set_option maxHeartbeats 4000000 in
set_option maxRecDepth 100000 in
theorem pivot_any (X : Srt H rv N lt S) (a b : Nat) (d : Array Int) (w : World) (hS : S d w) (hab : a + 12 < b) (hb : b ≤ N) :
    Calls Ybaf.prog 48 #[.iface 83 rv, .int .i64 (a : Nat), .int .i64 (b : Nat)] w fun e w' => ∃ (m : Nat) (h : Int), e = .returned (.tuple #[.int .i64 (m : Nat), .int .i64 h]) ∧ a ≤ m ∧ m < b ∧ S d w' := by
  have hsz := X.small
  have hbig := X.big d w hS
  have hS0 := X.alloc d w (.cells #[.int .i64 0] 3) hS
  have hB0 : Bx w.heap.size (w.alloc (.cells #[.int .i64 0] 3)) := ⟨0, by go_simp, by go_simp⟩
  go_enter Ybaf.func48, Ybaf.ntmps48
  go_wp2_with (first
    | (refine (medadj_any X _ (a + (b - a) / 4) _ d _ (by omega) hS0 (by omega) hB0 (by omega) (by omega)).mono ?_; rintro e w1 ⟨m1, rfl, t1, hS1, hB1⟩; clear hS0 hB0)
    | (refine (medadj_any X _ (a + (b - a) / 4 * 2) _ d _ (by omega) hS1 (by omega) hB1 (by omega) (by omega)).mono ?_; rintro e w2 ⟨m2, rfl, t2, hS2, hB2⟩; clear hS1 hB1)
    | (refine (medadj_any X _ (a + (b - a) / 4 * 3) _ d _ (by omega) hS2 (by omega) hB2 (by omega) (by omega)).mono ?_; rintro e w3 ⟨m3, rfl, t3, hS3, hB3⟩; clear hS2 hB2)
    | (refine (median_any X _ m1 m2 m3 _ _ _ d _ rfl rfl rfl hS3 (by omega) hB3 (by omega) (by omega) (by omega)).mono ?_; rintro e w4 ⟨m4, rfl, t4, hS4, k, hk, -⟩; clear hS3 hB3)
    | (refine (median_any X _ (a + (b - a) / 4) (a + (b - a) / 4 * 2) (a + (b - a) / 4 * 3) _ _ _ d _ (by omega) (by omega) (by omega) hS0 (by omega) hB0 (by omega) (by omega) (by omega)).mono ?_; rintro e w4 ⟨m4, rfl, t4, hS4, k, hk, -⟩; clear hS0 hB0))
  all_goals (go_ret2; exact ⟨m4, _, rfl, by omega, by omega, hS4⟩)
end Go.Proofs.YbulkblsgFmt

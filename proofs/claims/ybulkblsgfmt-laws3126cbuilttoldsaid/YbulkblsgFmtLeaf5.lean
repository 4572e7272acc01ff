import Derived.Test.YbulkblsgFmtLeaf4
namespace Go.Proofs.YbulkblsgFmt
open Go.RowKit Go.Extern.Stop Go.Stop Go.Extern
set_option linter.unusedVariables false
set_option linter.unusedSimpArgs false
set_option maxRecDepth 100000 in
set_option maxHeartbeats 1000000 in
theorem addrs_any (X Y : Nat → Nat) (zp zq t : Option Addr) (tn tc : Nat) (len : Int) (b o1 c1 b' o2 c2 : Nat) (w : World) (hX : ∀ k, k < 16 → X k ≤ 255) (hY : ∀ k, k < 16 → Y k ≤ 255)
    (h1 : ∀ k, k < 16 → w.cell? ⟨b, o1 + k, none⟩ = some (.int .u8 ((X k : Nat) : Int))) (h2 : ∀ k, k < 16 → w.cell? ⟨b', o2 + k, none⟩ = some (.int .u8 ((Y k : Nat) : Int))) :
    Calls Ybaf.prog 17 #[.agg (pkt ((be X : Nat) : Int) ((be (fun k => X (k + 8)) : Nat) : Int) zp ((be Y : Nat) : Int) ((be (fun k => Y (k + 8)) : Nat) : Int) zq t tn tc len), .slice (some ⟨b, o1, none⟩) 16 c1, .slice (some ⟨b', o2, none⟩) 16 c2] w fun e w' => e = .returned (.bool true) ∧ Below w.heap.size w w' := by
  have lb : b < w.heap.size := World.block_lt_of_cell? w _ (h1 0 (by omega))
  have lb' : b' < w.heap.size := World.block_lt_of_cell? w _ (h2 0 (by omega))
  go_enter Ybaf.func17, Ybaf.ntmps17
  change Code.wp Ybaf.prog ad17 _ _ _
  rw [ad_eq]
  refine wp_seq (wp_use (a17r0 X Y zp zq t tn tc len w _ ?_))
  obtain ⟨wA, hwA⟩ : ∃ x, w.alloc (.cells (pkt ((be X : Nat) : Int) ((be (fun k => X (k + 8)) : Nat) : Int) zp ((be Y : Nat) : Int) ((be (fun k => Y (k + 8)) : Nat) : Int) zq t tn tc len) 67) = x := ⟨_, rfl⟩
  have bA : Below w.heap.size w wA := by rw [← hwA]; exact al (Below.refl _ _) _
  have rA : wA.heap[w.heap.size]? = some (.cells (pkt ((be X : Nat) : Int) ((be (fun k => X (k + 8)) : Nat) : Int) zp ((be Y : Nat) : Int) ((be (fun k => Y (k + 8)) : Nat) : Int) zq t tn tc len) 67 (0, 0)) := by rw [← hwA]; exact heap_alloc_new _ _
  rw [hwA]
  have sA : w.heap.size < wA.heap.size := (Array.getElem?_eq_some_iff.1 rA).1
  refine wp_seq (wp_use (a17r1 X Y zp zq t tn tc len w.heap.size wA hX rA _ ?_))
  intro y10 y11 y12 N1 wB bB hN1 rN1
  have rB : wB.heap[w.heap.size]? = some (.cells (pkt ((be X : Nat) : Int) ((be (fun k => X (k + 8)) : Nat) : Int) zp ((be Y : Nat) : Int) ((be (fun k => Y (k + 8)) : Nat) : Int) zq t tn tc len) 67 (0, 0)) := by rw [bB.block _ sA]; exact rA
  have sN1 : N1 < wB.heap.size := (Array.getElem?_eq_some_iff.1 rN1).1
  refine wp_seq (wp_use (a17r2 X Y zp zq t tn tc len w.heap.size wB hY rB _ ?_))
  intro y13 y14 y15 N2 wC bC hN2 rN2
  have rN1' : wC.heap[N1]? = some (.cells (row16 X) 96 (0, 0)) := by rw [bC.block _ sN1]; exact rN1
  have bWC : Below w.heap.size w wC := bA.trans ((below_le bB bA.size).trans (below_le bC (by have := bA.size; have := bB.size; omega)))
  refine wp_seq (wp_seq (wp_use (a17r3 wC _ ?_)))
  refine wp_block (wp_loop (fun a wq => ∃ (y16 y17 y18 y19 y20 y21 y22 y23 y24 y25 y26 y27 y28 y29 y30 y31 y32 y33 y34 y35 y36 y37 : Value) (j : Nat), j ≤ 16 ∧ a = { tmps := #[.agg (pkt ((be X : Nat) : Int) ((be (fun k => X (k + 8)) : Nat) : Int) zp ((be Y : Nat) : Int) ((be (fun k => Y (k + 8)) : Nat) : Int) zq t tn tc len), .slice (some ⟨b, o1, none⟩) 16 c1, .slice (some ⟨b', o2, none⟩) 16 c2, .pointer (some ⟨w.heap.size, 0, none⟩), undef, undef, .bool false, .pointer (some ⟨N1, 0, none⟩), .pointer (some ⟨N2, 0, none⟩), .int .i64 ((j : Nat) : Int), y10, y11, y12, y13, y14, y15, y16, y17, y18, y19, y20, y21, y22, y23, y24, y25, y26, y27, y28, y29, y30, y31, y32, y33, y34, y35, y36, y37], defers := [] } ∧ Below w.heap.size w wq ∧ wq.heap[N1]? = some (.cells (row16 X) 96 (0, 0)) ∧ wq.heap[N2]? = some (.cells (row16 Y) 96 (0, 0))) (fun a _ => 16 - (intOf (a.tmps.getD 9 undef)).toNat) ⟨undef, undef, undef, undef, undef, undef, undef, undef, undef, undef, undef, undef, undef, undef, undef, undef, undef, undef, undef, undef, undef, undef, 0, by omega, rfl, bWC, rN1', rN2⟩ ?_)
  rintro a wr ⟨y16, y17, y18, y19, y20, y21, y22, y23, y24, y25, y26, y27, y28, y29, y30, y31, y32, y33, y34, y35, y36, y37, j, hj, rfl, hbr, r1, r2⟩
  refine wp_seq (wp_seq (wp_use (a17r4 j wr _ ?_)))
  intro y16
  refine wp_cond (t := decide ((j : Int) < 16)) (by kernel_rfl) ?_
  by_cases hj16 : j < 16
  · rw [decide_eq_true (show (j : Int) < 16 by omega), if_pos rfl]
    refine wp_skip ?_
    refine wp_seq (wp_block (wp_seq (wp_use (a17r6 (X j) (Y j) N1 N2 b o1 b' o2 c1 c2 j wr hj16 (cell16 r1 hj16) (by rw [hbr.cell (by exact lb)]; exact h1 j hj16) (cell16 r2 hj16) (by rw [hbr.cell (by exact lb')]; exact h2 j hj16) _ ?_))))
    intro z20 z21 z22 z23 z24 z25 z26 z27 z28 z29 z30 z31 z32 z33 z34 z35 z36 nq
    refine wp_cond_false (by kernel_rfl) ?_
    refine wp_skip ?_
    refine wp_use (a17r5 j _ hj16 _ ?_)
    intro z18 z19
    refine ⟨⟨_, _, z18, z19, z20, z21, z22, z23, z24, z25, z26, z27, z28, z29, z30, z31, z32, z33, z34, z35, z36, _, j + 1, hj16, rfl, ⟨hbr.os, hbr.tape, hbr.output, hbr.size, hbr.block⟩, r1, r2⟩, ?_⟩
    show 16 - (intOf (.int .i64 ((j + 1 : Nat) : Int))).toNat < 16 - (intOf (.int .i64 (j : Int))).toNat
    simp only [intOf]
    omega
  · rw [decide_eq_false (show ¬ (j : Int) < 16 by omega), if_neg Bool.false_ne_true]
    refine wp_exit ?_
    simp only [Exit.inBlock, Exit.then, if_true]
    refine wp_seq (wp_use (a17r8 wr _ ?_))
    exact wp_ret (bodyPost_ret_by (results_tmp rfl _ _ _) rfl ⟨rfl, hbr⟩)
end Go.Proofs.YbulkblsgFmt

import Derived.Test.YbulkblzuBld1
import Derived.Test.YbulkblzuReg
namespace Go.Proofs.Ybulkblzu
open Go.RowKit Go.Maps Go.WideMaps
set_option linter.unusedVariables false
set_option linter.unusedSimpArgs false
/-- The body of function 4's second loop. -/
noncomputable def bX : Code := blkC (headC (tailC (tailC (lupC (blkC (tailC (headC (dropC 4 (Yba.f4.body.getD .skip)))))))))
theorem one62 (e : Ent) (p : Option Addr) : ∀ u ∈ enC e p, u.oneCell' = true := by
  intro u hu
  simp only [enC, List.mem_cons, List.not_mem_nil, or_false] at hu
  rcases hu with rfl | rfl | rfl | rfl | rfl | rfl | rfl | rfl | rfl | rfl | rfl | rfl | rfl | rfl | rfl | rfl | rfl | rfl | rfl | rfl | rfl | rfl | rfl | rfl | rfl <;> rfl
theorem bs62 (e : Ent) (p : Option Addr) (w : World) : (Instr.buildSlice 57 1 #[(0, .agg (enC e p).toArray)]).run Yba.prog w = .ok (.slice (some ⟨w.heap.size, 0, none⟩) 1 1) (w.alloc (.cells (enC e p).toArray 62)) := by kernel_rfl
theorem fa59 (b : Nat) (w : World) : (Instr.fieldAt 59 (.pointer (some ⟨b, 0, none⟩)) 2).run Yba.prog w = .ok (.pointer (some ⟨b, 21, none⟩)) w := by kernel_rfl
theorem ld57 {v : Value} {b : Nat} {w : World} (h : w.cell? ⟨b, 21, none⟩ = some v) : (Instr.loadAt 57 (.pointer (some ⟨b, 21, none⟩))).run Yba.prog w = .ok v w := by
  go_simp
theorem st57 {v : Value} {b n c : Nat} {a : Option Addr} {w : World} (h : w.cell? ⟨b, 21, none⟩ = some v) (hf : w.frozen? ⟨b, 21, none⟩ = false) : (Instr.storeAt 57 (.pointer (some ⟨b, 21, none⟩)) (.slice a n c)).run Yba.prog w = .ok () (w.setCell ⟨b, 21, none⟩ (.slice a n c)) := by
  go_simp
theorem ld62 {e : Ent} {p : Option Addr} {A : Nat} {w : World} (hA : w.heap[A]? = some (.cells (enC e p).toArray 62 (0, 0))) : (Instr.loadAt 62 (.pointer (some ⟨A, 0, none⟩))).run Yba.prog w = .ok (.agg (enC e p).toArray) w := by
  simp only [Instr.loadAt, Instr.sureAddr, Sem.run_bind, Sem.run_pure, Result.andThen_ok, run_loadVar_row w A 62 62 _ (0, 0) _ hA Yba.underlying62 rfl (by kernel_rfl)]

set_option maxRecDepth 100000 in
set_option maxHeartbeats 2000000 in
theorem b4r16 (E : Nat → Ent) (B L : Nat) (w wr wc : World) (i s A : Nat) (F : Lit → Option Value) (Sb : Nat → Nat) (v : Nat → Value) (cs : Nat → List Value) (p : Option Addr) (HT : T1 E B L w wr i F Sb v cs) (hs : s < 3) (ho : (E i).own % 3 = s) (hp : p.isSome = (E i).held) (hbx : Below wr.heap.size wr wc) (hi : i < 1024) (hA : wc.heap[A]? = some (.cells (enC (E i) p).toArray 62 (0, 0))) {x0 x1 x2 x3 x4 x5 x6 x7 x8 x11 x12 x13 x14 x15 x16 x17 x18 x19 x20 x21 x22 x23 x24 x25 x26 x27 x28 x29 x30 x31 x32 x33 x34 x35 x36 x37 x38 x39 x40 x41 x42 x43 x44 x45 x46 x47 x48 x49 x50 x51 x52 x53 x54 x55 x56 x57 x58 x59 x60 x61 x62 x63 x64 x65 x66 x67 x68 x69 x70 x71 x72 x73 x74 x75 x76 x77 x78 x79 : Value} (K : Act → World → Prop)
    (hK : ∀ (y68 y69 y70 y71 y72 y73 y74 y75 y76 y77 : Value) (wy : World) (v' : Nat → Value) (cs' : Nat → List Value), T1 E B L w wy (i + 1) F Sb v' cs' → K { tmps := #[x0, x1, x2, x3, x4, x5, x6, x7, x8, .pointer (some ⟨A, 0, none⟩), .pointer (some ⟨Sb s, 0, none⟩), x11, x12, x13, x14, x15, x16, x17, x18, x19, x20, x21, x22, x23, x24, x25, x26, x27, x28, x29, x30, x31, x32, x33, x34, x35, x36, x37, x38, x39, x40, x41, x42, x43, x44, x45, x46, x47, x48, x49, x50, x51, x52, x53, x54, x55, x56, x57, x58, x59, x60, x61, x62, x63, x64, x65, x66, x67, y68, y69, y70, y71, y72, y73, y74, y75, y76, y77, x78, x79], defers := [] } wy) :
    Code.wp Yba.prog (dropC 5 bX) (only K) { tmps := #[x0, x1, x2, x3, x4, x5, x6, x7, x8, .pointer (some ⟨A, 0, none⟩), .pointer (some ⟨Sb s, 0, none⟩), x11, x12, x13, x14, x15, x16, x17, x18, x19, x20, x21, x22, x23, x24, x25, x26, x27, x28, x29, x30, x31, x32, x33, x34, x35, x36, x37, x38, x39, x40, x41, x42, x43, x44, x45, x46, x47, x48, x49, x50, x51, x52, x53, x54, x55, x56, x57, x58, x59, x60, x61, x62, x63, x64, x65, x66, x67, x68, x69, x70, x71, x72, x73, x74, x75, x76, x77, x78, x79], defers := [] } wc := by
  have HTc := HT.below hbx
  have hsh := HTc.sh s hs
  have hsl : Sb s < wc.heap.size := World.block_lt_of_cell? wc _ hsh
  have hrow := HTc.row s hs
  have hLw : L ≤ wc.heap.size := HTc.size
  have hcn : cnt E s i ≤ i := cnt_le s i
  have hBx : Below wr.heap.size wr (wc.drew.alloc (.cells (enC (E i) p).toArray 62)) := al hbx.drew _
  have hbl : (wc.drew.alloc (.cells (enC (E i) p).toArray 62)).heap[wc.heap.size]? = some (.cells (enC (E i) p).toArray 62 (0, 0)) := heap_alloc_new wc.drew _
  have hsh2 : (wc.drew.alloc (.cells (enC (E i) p).toArray 62)).cell? ⟨Sb s, 21, none⟩ = some (v s) := cell_later (x := wc) (al (Below.refl _ _).drew _) hsh
  obtain ⟨i62, hi62, hz62, hs62, hb62⟩ := info_parts info62
  simp only [bX, Yba.f4, Option.getD, dropC, headC, tailC, blkC, lupC]
  refine wp_region_any (by kernel_rfl) ?_
  change wpAny _ _ _ _ _ _ _ (World.drew _)
  refine anyT 68 (i := 0) (v := .pointer (some ⟨Sb s, 0, none⟩)) rfl (by kernel_rfl) (by kernel_rfl) (by kernel_rfl) (fun _ _ _ h => h) (by kernel_rfl) (by kernel_rfl) (fun w => ex_move (x := .tmp 10) (v := .pointer (some ⟨Sb s, 0, none⟩)) (by kernel_rfl) (by kernel_rfl) w) ?_
  simp only [Act.put, List.setIfInBounds_toArray, List.set_cons_zero, List.set_cons_succ]
  refine anyT 69 (i := 1) (v := .pointer (some ⟨Sb s, 0, none⟩)) rfl (by kernel_rfl) (by kernel_rfl) (by kernel_rfl) (fun _ _ _ h => h) (by kernel_rfl) (by kernel_rfl) (fun w => ex_move (x := .tmp 10) (v := .pointer (some ⟨Sb s, 0, none⟩)) (by kernel_rfl) (by kernel_rfl) w) ?_
  simp only [Act.put, List.setIfInBounds_toArray, List.set_cons_zero, List.set_cons_succ]
  refine anyT 70 (i := 2) (v := .pointer (some ⟨Sb s, 0, none⟩)) rfl (by kernel_rfl) (by kernel_rfl) (by kernel_rfl) (fun _ _ _ h => h) (by kernel_rfl) (by kernel_rfl) (fun w => ex_nil (x := .tmp 69) (by kernel_rfl) (by kernel_rfl) w) ?_
  simp only [Act.put, List.setIfInBounds_toArray, List.set_cons_zero, List.set_cons_succ]
  refine anyT 71 (i := 3) (v := .pointer (some ⟨Sb s, 21, none⟩)) rfl (by kernel_rfl) (by kernel_rfl) (by kernel_rfl) (fun _ _ _ h => h) (by kernel_rfl) (by kernel_rfl) (fun w => ex_field (x := .tmp 70) (i := 2) (t := 59) (by kernel_rfl) (by kernel_rfl) (fa59 _ w)) ?_
  simp only [Act.put, List.setIfInBounds_toArray, List.set_cons_zero, List.set_cons_succ]
  refine any2 72 73 (i := 4) (j := 5) (by kernel_rfl) rfl rfl (by kernel_rfl) (by kernel_rfl) (by kernel_rfl) (by kernel_rfl) (ex_load (x := .tmp 71) (t := 57) (by kernel_rfl) (by kernel_rfl) (ld57 hsh)) (ex_load (x := .tmp 9) (t := 62) (by kernel_rfl) (by kernel_rfl) (ld62 hA)) ?_ ?_
  · refine any1 73 (i := 5) (by kernel_rfl) rfl (by kernel_rfl) (by kernel_rfl) (ex_load (x := .tmp 9) (t := 62) (by kernel_rfl) (by kernel_rfl) (ld62 hA)) ?_
    refine any1 74 (i := 6) (by kernel_rfl) rfl (by kernel_rfl) (by kernel_rfl) (ex_buildSlice (x := .tmp 73) (t := 57) (u := .agg (enC (E i) p).toArray) (by kernel_rfl) (by kernel_rfl) (bs62 _ _ _)) ?_
    simp only [Act.put, List.setIfInBounds_toArray, List.set_cons_zero, List.set_cons_succ]
    refine any1law (i := 7) (by kernel_rfl) rfl (fun K2 hK2 => ?_)
    refine step_append_lies _ (by kernel_rfl) (.tmp 72) (.tmp 74) 57 (by kernel_rfl) L 62 i62 _ 25 80 Yba.underlying57 hi62 hz62 hs62 hb62 rfl (by omega) (v s) (cnt E s i) (cs s) (by kernel_rfl) (hrow.drew.alloc _) ⟨wc.heap.size, 0, none⟩ 1 1 (enC (E i) p) (by kernel_rfl) (by kernel_rfl) (World.news_of_block (cs := (enC (E i) p).toArray) (t := 62) (fr := (0, 0)) hbl) (one62 _ _) (by omega) (by unfold maxLen; omega) (by omega) (by simp; omega) (wc.heap.size + 1) (by simp) ?_
    intro g2 cap2 w2 hown2 hgrow2 hat2 hlt2
    obtain ⟨b0, b1⟩ := HT.behind hs hBx hgrow2
    have R := HT.step hs ho hp hBx hgrow2 (Or.elim hat2 Or.inl (fun e => Or.inr (by have := hbx.size; omega))) hown2
    refine hK2 _ _ ?_
    refine anyT 76 (i := 8) (v := .pointer (some ⟨Sb s, 0, none⟩)) rfl (by kernel_rfl) (by kernel_rfl) (by kernel_rfl) (fun _ _ _ h => h) (by kernel_rfl) (by kernel_rfl) (fun w => ex_nil (x := .tmp 68) (by kernel_rfl) (by kernel_rfl) w) ?_
    simp only [Act.put, List.setIfInBounds_toArray, List.set_cons_zero, List.set_cons_succ]
    refine anyT 77 (i := 9) (v := .pointer (some ⟨Sb s, 21, none⟩)) rfl (by kernel_rfl) (by kernel_rfl) (by kernel_rfl) (fun _ _ _ h => h) (by kernel_rfl) (by kernel_rfl) (fun w => ex_field (x := .tmp 76) (i := 2) (t := 59) (by kernel_rfl) (by kernel_rfl) (fa59 _ w)) ?_
    simp only [Act.put, List.setIfInBounds_toArray, List.set_cons_zero, List.set_cons_succ]
    refine any1s (i := 10) (x := .tmp 77) (y := .tmp 75) (t := 57) (p := .pointer (some ⟨Sb s, 21, none⟩)) (q := .slice (some ⟨g2, 0, none⟩) (cnt E s i + 1) cap2) (by kernel_rfl) rfl (by kernel_rfl) (by kernel_rfl) (by kernel_rfl) (by kernel_rfl) (by kernel_rfl) (st57 b0 b1) ?_
    refine wpAny_done (by kernel_rfl) ?_ _
    exact hK _ _ _ _ _ _ _ _ _ _ _ _ _ R
  · refine any2 72 74 (i := 4) (j := 6) (by kernel_rfl) rfl rfl (by kernel_rfl) (by kernel_rfl) (by kernel_rfl) (by kernel_rfl) (ex_load (x := .tmp 71) (t := 57) (by kernel_rfl) (by kernel_rfl) (ld57 hsh)) (ex_buildSlice (x := .tmp 73) (t := 57) (u := .agg (enC (E i) p).toArray) (by kernel_rfl) (by kernel_rfl) (bs62 _ _ _)) ?_ ?_
    · refine any1 74 (i := 6) (by kernel_rfl) rfl (by kernel_rfl) (by kernel_rfl) (ex_buildSlice (x := .tmp 73) (t := 57) (u := .agg (enC (E i) p).toArray) (by kernel_rfl) (by kernel_rfl) (bs62 _ _ _)) ?_
      refine any1law (i := 7) (by kernel_rfl) rfl (fun K2 hK2 => ?_)
      refine step_append_lies _ (by kernel_rfl) (.tmp 72) (.tmp 74) 57 (by kernel_rfl) L 62 i62 _ 25 80 Yba.underlying57 hi62 hz62 hs62 hb62 rfl (by omega) (v s) (cnt E s i) (cs s) (by kernel_rfl) (hrow.drew.alloc _) ⟨wc.heap.size, 0, none⟩ 1 1 (enC (E i) p) (by kernel_rfl) (by kernel_rfl) (World.news_of_block (cs := (enC (E i) p).toArray) (t := 62) (fr := (0, 0)) hbl) (one62 _ _) (by omega) (by unfold maxLen; omega) (by omega) (by simp; omega) (wc.heap.size + 1) (by simp) ?_
      intro g2 cap2 w2 hown2 hgrow2 hat2 hlt2
      obtain ⟨b0, b1⟩ := HT.behind hs hBx hgrow2
      have R := HT.step hs ho hp hBx hgrow2 (Or.elim hat2 Or.inl (fun e => Or.inr (by have := hbx.size; omega))) hown2
      refine hK2 _ _ ?_
      refine anyT 76 (i := 8) (v := .pointer (some ⟨Sb s, 0, none⟩)) rfl (by kernel_rfl) (by kernel_rfl) (by kernel_rfl) (fun _ _ _ h => h) (by kernel_rfl) (by kernel_rfl) (fun w => ex_nil (x := .tmp 68) (by kernel_rfl) (by kernel_rfl) w) ?_
      simp only [Act.put, List.setIfInBounds_toArray, List.set_cons_zero, List.set_cons_succ]
      refine anyT 77 (i := 9) (v := .pointer (some ⟨Sb s, 21, none⟩)) rfl (by kernel_rfl) (by kernel_rfl) (by kernel_rfl) (fun _ _ _ h => h) (by kernel_rfl) (by kernel_rfl) (fun w => ex_field (x := .tmp 76) (i := 2) (t := 59) (by kernel_rfl) (by kernel_rfl) (fa59 _ w)) ?_
      simp only [Act.put, List.setIfInBounds_toArray, List.set_cons_zero, List.set_cons_succ]
      refine any1s (i := 10) (x := .tmp 77) (y := .tmp 75) (t := 57) (p := .pointer (some ⟨Sb s, 21, none⟩)) (q := .slice (some ⟨g2, 0, none⟩) (cnt E s i + 1) cap2) (by kernel_rfl) rfl (by kernel_rfl) (by kernel_rfl) (by kernel_rfl) (by kernel_rfl) (by kernel_rfl) (st57 b0 b1) ?_
      refine wpAny_done (by kernel_rfl) ?_ _
      exact hK _ _ _ _ _ _ _ _ _ _ _ _ _ R
    · refine any1 72 (i := 4) (by kernel_rfl) rfl (by kernel_rfl) (by kernel_rfl) (ex_load (x := .tmp 71) (t := 57) (by kernel_rfl) (by kernel_rfl) (ld57 hsh2)) ?_
      refine any1law (i := 7) (by kernel_rfl) rfl (fun K2 hK2 => ?_)
      refine step_append_lies _ (by kernel_rfl) (.tmp 72) (.tmp 74) 57 (by kernel_rfl) L 62 i62 _ 25 80 Yba.underlying57 hi62 hz62 hs62 hb62 rfl (by omega) (v s) (cnt E s i) (cs s) (by kernel_rfl) (hrow.drew.alloc _) ⟨wc.heap.size, 0, none⟩ 1 1 (enC (E i) p) (by kernel_rfl) (by kernel_rfl) (World.news_of_block (cs := (enC (E i) p).toArray) (t := 62) (fr := (0, 0)) hbl) (one62 _ _) (by omega) (by unfold maxLen; omega) (by omega) (by simp; omega) (wc.heap.size + 1) (by simp) ?_
      intro g2 cap2 w2 hown2 hgrow2 hat2 hlt2
      obtain ⟨b0, b1⟩ := HT.behind hs hBx hgrow2
      have R := HT.step hs ho hp hBx hgrow2 (Or.elim hat2 Or.inl (fun e => Or.inr (by have := hbx.size; omega))) hown2
      refine hK2 _ _ ?_
      refine anyT 76 (i := 8) (v := .pointer (some ⟨Sb s, 0, none⟩)) rfl (by kernel_rfl) (by kernel_rfl) (by kernel_rfl) (fun _ _ _ h => h) (by kernel_rfl) (by kernel_rfl) (fun w => ex_nil (x := .tmp 68) (by kernel_rfl) (by kernel_rfl) w) ?_
      simp only [Act.put, List.setIfInBounds_toArray, List.set_cons_zero, List.set_cons_succ]
      refine anyT 77 (i := 9) (v := .pointer (some ⟨Sb s, 21, none⟩)) rfl (by kernel_rfl) (by kernel_rfl) (by kernel_rfl) (fun _ _ _ h => h) (by kernel_rfl) (by kernel_rfl) (fun w => ex_field (x := .tmp 76) (i := 2) (t := 59) (by kernel_rfl) (by kernel_rfl) (fa59 _ w)) ?_
      simp only [Act.put, List.setIfInBounds_toArray, List.set_cons_zero, List.set_cons_succ]
      refine any1s (i := 10) (x := .tmp 77) (y := .tmp 75) (t := 57) (p := .pointer (some ⟨Sb s, 21, none⟩)) (q := .slice (some ⟨g2, 0, none⟩) (cnt E s i + 1) cap2) (by kernel_rfl) rfl (by kernel_rfl) (by kernel_rfl) (by kernel_rfl) (by kernel_rfl) (by kernel_rfl) (st57 b0 b1) ?_
      refine wpAny_done (by kernel_rfl) ?_ _
      exact hK _ _ _ _ _ _ _ _ _ _ _ _ _ R
end Go.Proofs.Ybulkblzu

import Derived.Test.YbulkblzuBase
namespace Go.Proofs.Ybulkblzu
open Go.RowKit Go.Maps Go.WideMaps
set_option linter.unusedVariables false
set_option maxRecDepth 100000 in
set_option maxHeartbeats 2000000 in
theorem b4loop1 (a0 : Option Addr) (nn c0 : Nat) (w wx : World) (B : Nat) (HB : w.heap.size = B) (F0 : Lit → Option Value) (Sb0 : Nat → Nat) (h0 : T0 B w wx 0 F0 Sb0) {x1 x2 x5 x6 x7 x8 x9 x10 x11 x12 x13 x14 x15 x16 x17 x18 x19 x20 x21 x22 x23 x24 x25 x26 x27 x28 x29 x30 x31 x32 x33 x34 x35 x36 x37 x38 x39 x40 x41 x42 x43 x44 x45 x46 x47 x48 x49 x50 x51 x52 x53 x54 x55 x56 x57 x58 x59 x60 x61 x62 x63 x64 x65 x66 x67 x68 x69 x70 x71 x72 x73 x74 x75 x76 x77 x78 x79 : Value} (K K2 : Act → World → Prop) (Q : Exit → Act → World → Prop) (hK2 : ∀ a w, Code.wp Yba.prog (tailC (headC (dropC 3 (Yba.f4.body.getD .skip)))) (Exit.then K Q) a w → K2 a w)
    (hK : ∀ (y5 y15 y16 y17 y18 y19 y20 y21 y22 y23 y24 y25 y26 y27 y28 y29 y30 y31 y32 y33 y34 y35 : Value) (wy : World) (F : Lit → Option Value) (Sb : Nat → Nat), T0 B w wy 3 F Sb → K { tmps := #[.slice a0 nn c0, x1, x2, .pointer (some ⟨B + 1 + 1, 0, none⟩), .pointer (some ⟨B + 1 + 1 + 1, 0, none⟩), y5, x6, x7, x8, x9, x10, x11, x12, x13, x14, y15, y16, y17, y18, y19, y20, y21, y22, y23, y24, y25, y26, y27, y28, y29, y30, y31, y32, y33, y34, y35, x36, x37, x38, x39, x40, x41, x42, x43, x44, x45, x46, x47, x48, x49, x50, x51, x52, x53, x54, x55, x56, x57, x58, x59, x60, x61, x62, x63, x64, x65, x66, x67, x68, x69, x70, x71, x72, x73, x74, x75, x76, x77, x78, x79], defers := [] } wy) :
    Code.wp Yba.prog (headC (headC (dropC 3 (Yba.f4.body.getD .skip)))) (Exit.then K2 (Exit.then K Q)) { tmps := #[.slice a0 nn c0, x1, x2, .pointer (some ⟨B + 1 + 1, 0, none⟩), .pointer (some ⟨B + 1 + 1 + 1, 0, none⟩), x5, x6, x7, x8, x9, x10, x11, x12, x13, x14, x15, x16, x17, x18, x19, x20, x21, x22, x23, x24, x25, x26, x27, x28, x29, x30, x31, x32, x33, x34, x35, x36, x37, x38, x39, x40, x41, x42, x43, x44, x45, x46, x47, x48, x49, x50, x51, x52, x53, x54, x55, x56, x57, x58, x59, x60, x61, x62, x63, x64, x65, x66, x67, x68, x69, x70, x71, x72, x73, x74, x75, x76, x77, x78, x79], defers := [] } wx := by
  have HK := hid hK
  clear hK
  simp only [Yba.f4, Option.getD, dropC, headC, tailC] at hK2 ⊢
  go_wp2_with fail
  go_loopw [5] (fun s5 wr => ∃ (k : Nat) (F : Lit → Option Value) (Sb : Nat → Nat), k ≤ 3 ∧ s5 = .int .i64 (k : Nat) ∧ T0 B w wr k F Sb) (fun i _ => 3 - (intOf i).toNat)
  case atStart => exact ⟨0, _, _, by omega, rfl, h0⟩
  case round =>
    obtain ⟨k, F, Sb, hk, rfl, hT⟩ := hrel
    have HT := hid hT
    have htbl : wr.cell? ⟨B + 1 + 1, 32, none⟩ = some (.map (some (B + 1))) := hT.tbl
    have l2 : B + 1 + 1 < wr.heap.size := by have := hT.size; omega
    have l3 : B + 1 + 1 + 1 < wr.heap.size := by have := hT.size; omega
    have hsz := hT.size
    clear HB h0
    by_cases hk3 : k < 3
    · obtain ⟨x, hx0, hfx0⟩ := there_at hT.th hk3
      have hx : wr.cell? ⟨B + 1 + 1 + 1, k, none⟩ = some x := hx0
      have hfx : wr.frozen? ⟨B + 1 + 1 + 1, k, none⟩ = false := hfx0
      clear hx0 hfx0 hT
      have hcase : k = 0 ∨ k = 1 ∨ k = 2 := by omega
      rcases hcase with rfl | rfl | rfl
      · have hw8 := wrap8_0
        obtain ⟨x3, hrun, hM3, ht3⟩ := MapFn.store (w := (laid B 0 wr (shC 0)).drew) ((HT.out.laid_mp _).of_block rfl) law28 Yba.underlying46 (by unfold maxLen; omega) (key := kA 0) (val := .pointer (some ⟨wr.heap.size, 0, none⟩)) key0 (kL_ok _)
        have R := hid (HT.out.laid_step (x2 := (laid B 0 wr (shC 0)).drew) (by omega) (shC 0) rfl ⟨rfl, rfl, rfl, rfl⟩ hM3 ht3)
        have hrun' : (Instr.mapUpdate 46 (.map (some (B + 1))) (.agg #[.int .u8 0, z8, z8, z8, z8, z8, z8, z8, z8, z8, z8, z8, z8, z8, z8, z8, z8, z8, z8, z8]) (.pointer (some ⟨wr.heap.size, 0, none⟩))).run Yba.prog ((wr.setCell ⟨B + 1 + 1 + 1, 0, none⟩ (.pointer (some ⟨wr.heap.size, 0, none⟩))).alloc (.cells #[.int .u8 0, z8, z8, z8, z8, z8, z8, z8, z8, z8, z8, z8, z8, z8, z8, z8, z8, z8, z8, z8, .slice none 0 0, .slice none 0 0, .int .u64 0, .int .i64 0, .pointer none, .pointer none] 59)).drew = .ok () x3 := hrun
        clear hM3 ht3 hrun
        go_wp2_with fail
        go_region
        all_goals
          go_wp2_with fail
          go_roundw
          case rel => exact ⟨1, _, _, by omega, by go_num, R.out⟩
          case measure => simp [intOf]
      · have hw8 := wrap8_1
        obtain ⟨x3, hrun, hM3, ht3⟩ := MapFn.store (w := (laid B 1 wr (shC 1)).drew) ((HT.out.laid_mp _).of_block rfl) law28 Yba.underlying46 (by unfold maxLen; omega) (key := kA 1) (val := .pointer (some ⟨wr.heap.size, 0, none⟩)) key1 (kL_ok _)
        have R := hid (HT.out.laid_step (x2 := (laid B 1 wr (shC 1)).drew) (by omega) (shC 1) rfl ⟨rfl, rfl, rfl, rfl⟩ hM3 ht3)
        have hrun' : (Instr.mapUpdate 46 (.map (some (B + 1))) (.agg #[.int .u8 1, z8, z8, z8, z8, z8, z8, z8, z8, z8, z8, z8, z8, z8, z8, z8, z8, z8, z8, z8]) (.pointer (some ⟨wr.heap.size, 0, none⟩))).run Yba.prog ((wr.setCell ⟨B + 1 + 1 + 1, 1, none⟩ (.pointer (some ⟨wr.heap.size, 0, none⟩))).alloc (.cells #[.int .u8 1, z8, z8, z8, z8, z8, z8, z8, z8, z8, z8, z8, z8, z8, z8, z8, z8, z8, z8, z8, .slice none 0 0, .slice none 0 0, .int .u64 0, .int .i64 0, .pointer none, .pointer none] 59)).drew = .ok () x3 := hrun
        clear hM3 ht3 hrun
        go_wp2_with fail
        go_region
        all_goals
          go_wp2_with fail
          go_roundw
          case rel => exact ⟨2, _, _, by omega, by go_num, R.out⟩
          case measure => simp [intOf]
      · have hw8 := wrap8_2
        obtain ⟨x3, hrun, hM3, ht3⟩ := MapFn.store (w := (laid B 2 wr (shC 2)).drew) ((HT.out.laid_mp _).of_block rfl) law28 Yba.underlying46 (by unfold maxLen; omega) (key := kA 2) (val := .pointer (some ⟨wr.heap.size, 0, none⟩)) key2 (kL_ok _)
        have R := hid (HT.out.laid_step (x2 := (laid B 2 wr (shC 2)).drew) (by omega) (shC 2) rfl ⟨rfl, rfl, rfl, rfl⟩ hM3 ht3)
        have hrun' : (Instr.mapUpdate 46 (.map (some (B + 1))) (.agg #[.int .u8 2, z8, z8, z8, z8, z8, z8, z8, z8, z8, z8, z8, z8, z8, z8, z8, z8, z8, z8, z8]) (.pointer (some ⟨wr.heap.size, 0, none⟩))).run Yba.prog ((wr.setCell ⟨B + 1 + 1 + 1, 2, none⟩ (.pointer (some ⟨wr.heap.size, 0, none⟩))).alloc (.cells #[.int .u8 2, z8, z8, z8, z8, z8, z8, z8, z8, z8, z8, z8, z8, z8, z8, z8, z8, z8, z8, z8, .slice none 0 0, .slice none 0 0, .int .u64 0, .int .i64 0, .pointer none, .pointer none] 59)).drew = .ok () x3 := hrun
        clear hM3 ht3 hrun
        go_wp2_with fail
        go_region
        all_goals
          go_wp2_with fail
          go_roundw
          case rel => exact ⟨3, _, _, by omega, by go_num, R.out⟩
          case measure => simp [intOf]
    · obtain rfl : k = 3 := by omega
      go_wp2_with fail
      exact HK.out _ _ _ _ _ _ _ _ _ _ _ _ _ _ _ _ _ _ _ _ _ _ wr F Sb HT.out
end Go.Proofs.Ybulkblzu

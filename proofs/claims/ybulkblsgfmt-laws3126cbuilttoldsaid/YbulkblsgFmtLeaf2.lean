import Derived.Test.YbulkblsgFmtLeaf
namespace Go.Proofs.YbulkblsgFmt
open Go.RowKit Go.Extern.Stop Go.Stop Go.Extern
set_option linter.unusedVariables false
def row8 (X : Nat → Nat) : List Value := [.int .u8 ((X 0 : Nat) : Int), .int .u8 ((X 1 : Nat) : Int), .int .u8 ((X 2 : Nat) : Int), .int .u8 ((X 3 : Nat) : Int), .int .u8 ((X 4 : Nat) : Int), .int .u8 ((X 5 : Nat) : Int), .int .u8 ((X 6 : Nat) : Int), .int .u8 ((X 7 : Nat) : Int)]
set_option maxRecDepth 100000 in
set_option maxHeartbeats 2000000 in
theorem put64_any (b off n c : Nat) (X : Nat → Nat) (w : World) (hn : 8 ≤ n) (hX : ∀ k, k < 8 → X k ≤ 255) (h : ∀ k, k < 8 → (∃ u, w.cell? ⟨b, off + k, none⟩ = some u) ∧ w.frozen? ⟨b, off + k, none⟩ = false) :
    Calls Ybaf.prog 42 #[.slice (some ⟨b, off, none⟩) n c, .int .u64 ((be X : Nat) : Int)] w fun e w' => e = .returned (.tuple #[]) ∧ w' = w.setCells b off (row8 X) := by
  have n7 : (7 : Int) < (n : Int) := by omega
  have n6 : (6 : Int) < (n : Int) := by omega
  have n5 : (5 : Int) < (n : Int) := by omega
  have n4 : (4 : Int) < (n : Int) := by omega
  have n3 : (3 : Int) < (n : Int) := by omega
  have n2 : (2 : Int) < (n : Int) := by omega
  have n1 : (1 : Int) < (n : Int) := by omega
  have n0 : (0 : Int) < (n : Int) := by omega
  obtain ⟨⟨u0, h0⟩, g0⟩ := h 0 (by omega)
  rw [Nat.add_zero] at h0 g0
  obtain ⟨⟨u1, h1⟩, g1⟩ := h 1 (by omega)
  obtain ⟨⟨u2, h2⟩, g2⟩ := h 2 (by omega)
  obtain ⟨⟨u3, h3⟩, g3⟩ := h 3 (by omega)
  obtain ⟨⟨u4, h4⟩, g4⟩ := h 4 (by omega)
  obtain ⟨⟨u5, h5⟩, g5⟩ := h 5 (by omega)
  obtain ⟨⟨u6, h6⟩, g6⟩ := h 6 (by omega)
  obtain ⟨⟨u7, h7⟩, g7⟩ := h 7 (by omega)
  clear h
  have e0 := hX 0 (by omega)
  have e1 := hX 1 (by omega)
  have e2 := hX 2 (by omega)
  have e3 := hX 3 (by omega)
  have e4 := hX 4 (by omega)
  have e5 := hX 5 (by omega)
  have e6 := hX 6 (by omega)
  have e7 := hX 7 (by omega)
  obtain ⟨V, hVe⟩ : ∃ V, be X = V := ⟨_, rfl⟩
  rw [hVe]
  have hV : V < 18446744073709551616 := by rw [← hVe]; unfold be; omega
  have v0 : (V : Int) / 72057594037927936 = ((X 0 : Nat) : Int) := by rw [← hVe]; unfold be; omega
  have v1 : (V : Int) / 281474976710656 % 256 = ((X 1 : Nat) : Int) := by rw [← hVe]; unfold be; omega
  have v2 : (V : Int) / 1099511627776 % 256 = ((X 2 : Nat) : Int) := by rw [← hVe]; unfold be; omega
  have v3 : (V : Int) / 4294967296 % 256 = ((X 3 : Nat) : Int) := by rw [← hVe]; unfold be; omega
  have v4 : (V : Int) / 16777216 % 256 = ((X 4 : Nat) : Int) := by rw [← hVe]; unfold be; omega
  have v5 : (V : Int) / 65536 % 256 = ((X 5 : Nat) : Int) := by rw [← hVe]; unfold be; omega
  have v6 : (V : Int) / 256 % 256 = ((X 6 : Nat) : Int) := by rw [← hVe]; unfold be; omega
  have v7 : (V : Int) % 256 = ((X 7 : Nat) : Int) := by rw [← hVe]; unfold be; omega
  have hx : ∀ x : World, x = (((((((w.setCell ⟨b, off, none⟩ (.int .u8 ((V : Int) / 72057594037927936))).setCell ⟨b, off + 1, none⟩ (.int .u8 ((V : Int) / 281474976710656 % 256))).setCell ⟨b, off + 2, none⟩ (.int .u8 ((V : Int) / 1099511627776 % 256))).setCell ⟨b, off + 3, none⟩ (.int .u8 ((V : Int) / 4294967296 % 256))).setCell ⟨b, off + 4, none⟩ (.int .u8 ((V : Int) / 16777216 % 256))).setCell ⟨b, off + 5, none⟩ (.int .u8 ((V : Int) / 65536 % 256))).setCell ⟨b, off + 6, none⟩ (.int .u8 ((V : Int) / 256 % 256))).setCell ⟨b, off + 7, none⟩ (.int .u8 ((V : Int) % 256)) → x = w.setCells b off (row8 X) := by
    rintro x rfl
    rw [v0, v1, v2, v3, v4, v5, v6, v7]
    rfl
  have Hx := hid hx
  clear hx v0 v1 v2 v3 v4 v5 v6 v7 e0 e1 e2 e3 e4 e5 e6 e7 hVe hX
  go_enter Ybaf.func42, Ybaf.ntmps42
  go_wp2_with fail
  refine ⟨rfl, _, by kernel_rfl, rfl, Hx.out _ rfl⟩

/-- A packet: the two addresses, the TCP bytes, the length. -/
def pkt (h1 l1 : Int) (p : Option Addr) (h2 l2 : Int) (q t : Option Addr) (tn tc : Nat) (len : Int) : Array Value := #[.int .u64 h1, .int .u64 l1, .pointer p, .int .u64 h2, .int .u64 l2, .pointer q, .slice t tn tc, .int .i64 len]
/-- The packet of nothing. -/
abbrev zpk : Array Value := pkt 0 0 none 0 0 none none 0 0 0
theorem bx67 (h1 l1 : Int) (p : Option Addr) (h2 l2 : Int) (q t : Option Addr) (tn tc : Nat) (len : Int) (w : World) : (Instr.box 67 (.agg (pkt h1 l1 p h2 l2 q t tn tc len))).run Ybaf.prog w = .ok (.pointer (some ⟨w.heap.size, 0, none⟩)) (w.alloc (.cells (pkt h1 l1 p h2 l2 q t tn tc len) 67)) := by kernel_rfl
theorem fa67_0 (b : Nat) (w : World) : (Instr.fieldAt 67 (.pointer (some ⟨b, 0, none⟩)) 0).run Ybaf.prog w = .ok (.pointer (some ⟨b, 0, none⟩)) w := by kernel_rfl
theorem fa67_1 (b : Nat) (w : World) : (Instr.fieldAt 67 (.pointer (some ⟨b, 0, none⟩)) 1).run Ybaf.prog w = .ok (.pointer (some ⟨b, 3, none⟩)) w := by kernel_rfl
theorem fa67_2 (b : Nat) (w : World) : (Instr.fieldAt 67 (.pointer (some ⟨b, 0, none⟩)) 2).run Ybaf.prog w = .ok (.pointer (some ⟨b, 6, none⟩)) w := by kernel_rfl
theorem fa67_3 (b : Nat) (w : World) : (Instr.fieldAt 67 (.pointer (some ⟨b, 0, none⟩)) 3).run Ybaf.prog w = .ok (.pointer (some ⟨b, 7, none⟩)) w := by kernel_rfl
theorem ld65m {x y z : Value} {b o : Nat} {w : World} (h0 : w.cell? ⟨b, o, none⟩ = some x) (h1 : w.cell? ⟨b, o + 1, none⟩ = some y) (h2 : w.cell? ⟨b, o + 2, none⟩ = some z) : (Instr.loadAt 65 (.pointer (some ⟨b, o, none⟩))).run Ybaf.prog w = .ok (.agg #[x, y, z]) w :=
  run_loadAt_mid w b o 65 [x, y, z] _ (fun j v hv => by
    match j with
    | 0 => exact h0.trans hv
    | 1 => exact h1.trans hv
    | 2 => exact h2.trans hv
    | j + 3 => simp at hv) Ybaf.underlying65 rfl (by kernel_rfl)
section
variable {v : Value} {b o : Nat} {w : World}
theorem ld53 (h : w.cell? ⟨b, o, none⟩ = some v) : (Instr.loadAt 53 (.pointer (some ⟨b, o, none⟩))).run Ybaf.prog w = .ok v w := by go_simp
theorem ld3 (h : w.cell? ⟨b, o, none⟩ = some v) : (Instr.loadAt 3 (.pointer (some ⟨b, o, none⟩))).run Ybaf.prog w = .ok v w := by go_simp
theorem ld5 (h : w.cell? ⟨b, o, none⟩ = some v) : (Instr.loadAt 5 (.pointer (some ⟨b, o, none⟩))).run Ybaf.prog w = .ok v w := by go_simp
theorem ld35 (h : w.cell? ⟨b, o, none⟩ = some v) : (Instr.loadAt 35 (.pointer (some ⟨b, o, none⟩))).run Ybaf.prog w = .ok v w := by go_simp
end
set_option maxRecDepth 100000 in
set_option maxHeartbeats 2000000 in
theorem zero_any (w : World) : Calls Ybaf.prog 15 #[.agg zpk] w fun e w' => e = .returned (.bool true) ∧ Below w.heap.size w w' := by
  have hr : (w.alloc (.cells zpk 67)).heap[w.heap.size]? = some (.cells zpk 67 (0, 0)) := heap_alloc_new _ _
  have c0 : (w.alloc (.cells zpk 67)).cell? ⟨w.heap.size, 0, none⟩ = some (.int .u64 0) := by rw [cell_of_row _ _ 0 _ 67 (0, 0) hr]; rfl
  have c1 : (w.alloc (.cells zpk 67)).cell? ⟨w.heap.size, 1, none⟩ = some (.int .u64 0) := by rw [cell_of_row _ _ 1 _ 67 (0, 0) hr]; rfl
  have c2 : (w.alloc (.cells zpk 67)).cell? ⟨w.heap.size, 2, none⟩ = some (.pointer none) := by rw [cell_of_row _ _ 2 _ 67 (0, 0) hr]; rfl
  have c3 : (w.alloc (.cells zpk 67)).cell? ⟨w.heap.size, 3, none⟩ = some (.int .u64 0) := by rw [cell_of_row _ _ 3 _ 67 (0, 0) hr]; rfl
  have c4 : (w.alloc (.cells zpk 67)).cell? ⟨w.heap.size, 4, none⟩ = some (.int .u64 0) := by rw [cell_of_row _ _ 4 _ 67 (0, 0) hr]; rfl
  have c5 : (w.alloc (.cells zpk 67)).cell? ⟨w.heap.size, 5, none⟩ = some (.pointer none) := by rw [cell_of_row _ _ 5 _ 67 (0, 0) hr]; rfl
  have c6 : (w.alloc (.cells zpk 67)).cell? ⟨w.heap.size, 6, none⟩ = some (.slice none 0 0) := by rw [cell_of_row _ _ 6 _ 67 (0, 0) hr]; rfl
  have c7 : (w.alloc (.cells zpk 67)).cell? ⟨w.heap.size, 7, none⟩ = some (.int .i64 0) := by rw [cell_of_row _ _ 7 _ 67 (0, 0) hr]; rfl
  go_enter Ybaf.func15, Ybaf.ntmps15
  refine wp_seq (wp_region_lit ?_)
  refine pl 1 rfl rfl (ex_box (x := .tmp 0) (t := 67) (by kernel_rfl) (by kernel_rfl) (bx67 0 0 none 0 0 none none 0 0 0 _)) ?_
  simp only [Act.put, List.setIfInBounds_toArray, List.set_cons_zero, List.set_cons_succ]
  refine plk 2 (.bool false) rfl rfl (by kernel_rfl) ?_
  simp only [Act.put, List.setIfInBounds_toArray, List.set_cons_zero, List.set_cons_succ]
  refine wpList_nil ?_
  refine wp_seq (wp_region_lit ?_)
  refine plg 3 (by kernel_rfl) (by kernel_rfl) (ex_field (x := .tmp 1) (i := 0) (t := 67) (by kernel_rfl) (by kernel_rfl) (fa67_0 w.heap.size _)) ?_
  simp only [Act.put, List.setIfInBounds_toArray, List.set_cons_zero, List.set_cons_succ]
  refine plg 4 (by kernel_rfl) (by kernel_rfl) (ex_load (x := .tmp 3) (t := 65) (by kernel_rfl) (by kernel_rfl) (ld65m c0 c1 c2)) ?_
  simp only [Act.put, List.setIfInBounds_toArray, List.set_cons_zero, List.set_cons_succ]
  refine plgk 5 (.agg #[.int .u64 0, .int .u64 0, .pointer none]) (by kernel_rfl) (by kernel_rfl) (by kernel_rfl) ?_
  simp only [Act.put, List.setIfInBounds_toArray, List.set_cons_zero, List.set_cons_succ]
  refine plgk 6 (.bool true) (by kernel_rfl) (by kernel_rfl) (by kernel_rfl) ?_
  simp only [Act.put, List.setIfInBounds_toArray, List.set_cons_zero, List.set_cons_succ]
  refine plgk 7 (.bool true) (by kernel_rfl) (by kernel_rfl) (by kernel_rfl) ?_
  simp only [Act.put, List.setIfInBounds_toArray, List.set_cons_zero, List.set_cons_succ]
  refine plg 8 (by kernel_rfl) (by kernel_rfl) (ex_field (x := .tmp 1) (i := 1) (t := 67) (by kernel_rfl) (by kernel_rfl) (fa67_1 w.heap.size _)) ?_
  simp only [Act.put, List.setIfInBounds_toArray, List.set_cons_zero, List.set_cons_succ]
  refine plg 9 (by kernel_rfl) (by kernel_rfl) (ex_load (x := .tmp 8) (t := 65) (by kernel_rfl) (by kernel_rfl) (ld65m c3 c4 c5)) ?_
  simp only [Act.put, List.setIfInBounds_toArray, List.set_cons_zero, List.set_cons_succ]
  refine plgk 10 (.agg #[.int .u64 0, .int .u64 0, .pointer none]) (by kernel_rfl) (by kernel_rfl) (by kernel_rfl) ?_
  simp only [Act.put, List.setIfInBounds_toArray, List.set_cons_zero, List.set_cons_succ]
  refine plgk 11 (.bool true) (by kernel_rfl) (by kernel_rfl) (by kernel_rfl) ?_
  simp only [Act.put, List.setIfInBounds_toArray, List.set_cons_zero, List.set_cons_succ]
  refine plgk 12 (.bool true) (by kernel_rfl) (by kernel_rfl) (by kernel_rfl) ?_
  simp only [Act.put, List.setIfInBounds_toArray, List.set_cons_zero, List.set_cons_succ]
  refine plgk 13 (.bool true) (by kernel_rfl) (by kernel_rfl) (by kernel_rfl) ?_
  simp only [Act.put, List.setIfInBounds_toArray, List.set_cons_zero, List.set_cons_succ]
  refine plg 14 (by kernel_rfl) (by kernel_rfl) (ex_field (x := .tmp 1) (i := 2) (t := 67) (by kernel_rfl) (by kernel_rfl) (fa67_2 w.heap.size _)) ?_
  simp only [Act.put, List.setIfInBounds_toArray, List.set_cons_zero, List.set_cons_succ]
  refine plg 15 (by kernel_rfl) (by kernel_rfl) (ex_load (x := .tmp 14) (t := 53) (by kernel_rfl) (by kernel_rfl) (ld53 c6)) ?_
  simp only [Act.put, List.setIfInBounds_toArray, List.set_cons_zero, List.set_cons_succ]
  refine plgk 16 (.bool true) (by kernel_rfl) (by kernel_rfl) (by kernel_rfl) ?_
  simp only [Act.put, List.setIfInBounds_toArray, List.set_cons_zero, List.set_cons_succ]
  refine plgk 17 (.bool true) (by kernel_rfl) (by kernel_rfl) (by kernel_rfl) ?_
  simp only [Act.put, List.setIfInBounds_toArray, List.set_cons_zero, List.set_cons_succ]
  refine plgk 18 (.bool true) (by kernel_rfl) (by kernel_rfl) (by kernel_rfl) ?_
  simp only [Act.put, List.setIfInBounds_toArray, List.set_cons_zero, List.set_cons_succ]
  refine plg 19 (by kernel_rfl) (by kernel_rfl) (ex_field (x := .tmp 1) (i := 3) (t := 67) (by kernel_rfl) (by kernel_rfl) (fa67_3 w.heap.size _)) ?_
  simp only [Act.put, List.setIfInBounds_toArray, List.set_cons_zero, List.set_cons_succ]
  refine plg 20 (by kernel_rfl) (by kernel_rfl) (ex_load (x := .tmp 19) (t := 3) (by kernel_rfl) (by kernel_rfl) (ld3 c7)) ?_
  simp only [Act.put, List.setIfInBounds_toArray, List.set_cons_zero, List.set_cons_succ]
  refine plgk 21 (.bool true) (by kernel_rfl) (by kernel_rfl) (by kernel_rfl) ?_
  simp only [Act.put, List.setIfInBounds_toArray, List.set_cons_zero, List.set_cons_succ]
  refine plgk 22 (.bool true) (by kernel_rfl) (by kernel_rfl) (by kernel_rfl) ?_
  simp only [Act.put, List.setIfInBounds_toArray, List.set_cons_zero, List.set_cons_succ]
  refine plgk 2 (.bool true) (by kernel_rfl) (by kernel_rfl) (by kernel_rfl) ?_
  simp only [Act.put, List.setIfInBounds_toArray, List.set_cons_zero, List.set_cons_succ]
  refine wpList_nil ?_
  refine wp_ret (bodyPost_ret_by (results_tmp rfl _ _ _) rfl ⟨rfl, al (Below.refl _ _) _⟩)
end Go.Proofs.YbulkblsgFmt

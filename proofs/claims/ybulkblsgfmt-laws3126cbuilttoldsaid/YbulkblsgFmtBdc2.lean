import Derived.Test.YbulkblsgFmtBdc1
namespace Go.Proofs.YbulkblsgFmt
open Go.RowKit Go.Extern.Stop Go.Stop Go.Extern
set_option linter.unusedVariables false
set_option linter.unusedSimpArgs false
/-- How far a reslicing moves the address: not at all where nothing is left. -/
def sh (c lo : Nat) : Nat := if c = lo then 0 else lo
theorem sl53lo {b off n c lo : Nat} (h : lo ≤ n) (hc : n ≤ c) (w : World) : (Instr.sliceAt 53 (.slice (some ⟨b, off, none⟩) n c) (some (.int .i64 (lo : Nat))) none none).run Ybaf.prog w = .ok (.slice (some ⟨b, off + sh c lo, none⟩) (n - lo) (c - lo)) w := by
  have h1 : (lo : Int) ≤ (n : Int) := by omega
  have h2 : (n : Int) ≤ (c : Int) := by omega
  unfold sh
  by_cases e : c = lo
  · subst e
    rw [if_pos rfl]
    go_simp
  · rw [if_neg e]
    go_simp
theorem sl53a {b off n c : Nat} (hc : 40 ≤ c) (w : World) : (Instr.sliceAt 53 (.slice (some ⟨b, off, none⟩) n c) (some (.int .i64 8)) (some (.int .i64 24)) none).run Ybaf.prog w = .ok (.slice (some ⟨b, off + 8, none⟩) 16 (c - 8)) w := by
  have h2 : (24 : Int) ≤ (c : Int) := by omega
  go_simp
  omega
theorem sl53b {b off n c : Nat} (hc : 40 ≤ c) (w : World) : (Instr.sliceAt 53 (.slice (some ⟨b, off, none⟩) n c) (some (.int .i64 24)) (some (.int .i64 40)) none).run Ybaf.prog w = .ok (.slice (some ⟨b, off + 24, none⟩) 16 (c - 24)) w := by
  have h2 : (40 : Int) ≤ (c : Int) := by omega
  go_simp
  omega
theorem ex_slice {P : Program} {o : Oper} {a : Act} {x l : Operand} {t : TypeId} {u lo v : Value} {w : World} (ho : o.op = .slice t x (some l) none none) (hx : a.eval x = u) (hl : a.eval l = lo) (hrun : (Instr.sliceAt t u (some lo) none none).run P w = .ok v w) : (execOp a.eval o).run P w = .ok (.value v) w := by
  simp [execOp, ho, hx, hl, hrun]
theorem ex_slice2 {P : Program} {o : Oper} {a : Act} {x l h : Operand} {t : TypeId} {u lo hi v : Value} {w : World} (ho : o.op = .slice t x (some l) (some h) none) (hx : a.eval x = u) (hl : a.eval l = lo) (hh : a.eval h = hi) (hrun : (Instr.sliceAt t u (some lo) (some hi) none).run P w = .ok v w) : (execOp a.eval o).run P w = .ok (.value v) w := by
  simp [execOp, ho, hx, hl, hh, hrun]
theorem ld89 (w : World) : (Instr.loadAt 89 (.pointer (some ⟨1, 0, none⟩))).run Ybaf.prog w = .ok (.agg #[]) w := by kernel_rfl
theorem cutR {F : Interp} {s : ByteArray} {w : World} (hF : F.answers w.tape) : Calls Ybaf.prog 27 #[.string s] w fun e w' => ∃ v, e = .returned v ∧ (newE w.heap.size w' v ∧ Below w.heap.size w w') :=
  (errCut_row F s w hF).mono fun _ _ ⟨b, cs, t, h1, h2, h4, h3⟩ => ⟨_, h1, ⟨b, cs, t, rfl, h2, h4⟩, h3⟩
theorem newR {s : ByteArray} {w : World} : Calls Ybaf.prog 28 #[.string s] w fun e w' => ∃ v, e = .returned v ∧ (newE w.heap.size w' v ∧ Below w.heap.size w w') :=
  (errNew_any s w).mono fun _ _ ⟨h1, h2⟩ => ⟨_, h1, ⟨_, #[.string s], 110, rfl, Nat.le_refl _, by rw [h2]; exact heap_alloc_new _ _⟩, by rw [h2]; exact al (Below.refl _ _) _⟩
theorem u16R {b off n c x0 x1 : Nat} {w : World} (hn : 2 ≤ n) (h0 : w.cell? ⟨b, off, none⟩ = some (.int .u8 x0)) (h1 : w.cell? ⟨b, off + 1, none⟩ = some (.int .u8 x1)) (g0 : x0 ≤ 255) (g1 : x1 ≤ 255) :
    Calls Ybaf.prog 30 #[.agg #[], .slice (some ⟨b, off, none⟩) n c] w fun e w' => ∃ v, e = .returned v ∧ (v = .int .u16 ((x0 * 256 + x1 : Nat) : Int) ∧ Below w.heap.size w w') :=
  (u16_any b off n c x0 x1 w hn h0 h1 g0 g1).mono fun _ _ ⟨h1, h2⟩ => ⟨_, h1, rfl, h2⟩
theorem adR {X : Nat → Nat} {zp : Option Addr} {b off c : Nat} {w : World} (hX : ∀ k, k < 16 → X k ≤ 255) (hg : w.cell? ⟨3, 0, none⟩ = some (.pointer zp)) (hr : w.rangeAt b off (row16 X).toList) :
    Calls Ybaf.prog 29 #[.slice (some ⟨b, off, none⟩) 16 c] w fun e w' => ∃ v, e = .returned v ∧ (v = .tuple #[.agg (adr X (.pointer zp)), .bool true] ∧ Below w.heap.size w w') :=
  (addrSlice_any X zp b off c w hX hg hr).mono fun _ _ ⟨h1, h2⟩ => ⟨_, h1, rfl, h2⟩
theorem st65m {w : World} {b o : Nat} {cs : Array Value} {X : Nat → Nat} {zp : Option Addr} (h : w.heap[b]? = some (.cells cs 67 (0, 0))) (ho : o + 3 ≤ cs.size) : (Instr.storeAt 65 (.pointer (some ⟨b, o, none⟩)) (.agg (adr X (.pointer zp)))).run Ybaf.prog w = .ok () (w.setCells b o (adr X (.pointer zp)).toList) :=
  run_storeAt_mid w b o 65 _ (fun j hj => by
    have hj3 : j < 3 := hj
    refine ⟨?_, ?_⟩
    · rw [cell_of_row w b (o + j) _ 67 (0, 0) h, Array.getElem?_eq_getElem (by omega)]; rfl
    · unfold World.frozen?; rw [show (World.heap _)[(⟨b, o + j, none⟩ : Addr).block]? = _ from h]; simp) (by kernel_rfl) (by kernel_rfl)
theorem st53m {w : World} {b o n c : Nat} {a : Option Addr} {v : Value} (h : w.cell? ⟨b, o, none⟩ = some v) (hf : w.frozen? ⟨b, o, none⟩ = false) : (Instr.storeAt 53 (.pointer (some ⟨b, o, none⟩)) (.slice a n c)).run Ybaf.prog w = .ok () (w.setCell ⟨b, o, none⟩ (.slice a n c)) := by go_simp
theorem st3m {w : World} {b o : Nat} {r : Int} {v : Value} (h : w.cell? ⟨b, o, none⟩ = some v) (hf : w.frozen? ⟨b, o, none⟩ = false) : (Instr.storeAt 3 (.pointer (some ⟨b, o, none⟩)) (.int .i64 r)).run Ybaf.prog w = .ok () (w.setCell ⟨b, o, none⟩ (.int .i64 r)) := by go_simp
theorem frz {w : World} {b o : Nat} {cs : Array Value} (h : w.heap[b]? = some (.cells cs 67 (0, 0))) : w.frozen? ⟨b, o, none⟩ = false := by
  unfold World.frozen?; rw [show (World.heap _)[(⟨b, o, none⟩ : Addr).block]? = _ from h]; simp
theorem ld30 {v : Value} {b o : Nat} {w : World} (h : w.cell? ⟨b, o, none⟩ = some v) : (Instr.loadAt 30 (.pointer (some ⟨b, o, none⟩))).run Ybaf.prog w = .ok v w := by go_simp
theorem cv243 (n : Nat) (hn : n ≤ 65535) (w : World) : (convert 24 3 (.int .u16 (n : Nat))).run Ybaf.prog w = .ok (.int .i64 (n : Nat)) w := by
  go_simp
  simp [IntKind.wrap, IntKind.bits, IntKind.signed]
  omega

set_option maxRecDepth 100000 in
set_option maxHeartbeats 1000000 in
theorem d2 (F : Interp) (B N : Nat) (w wa : World) (old : Array Value) (hb : Below B w wa) (hB : B ≤ N) (hN : wa.heap[N]? = some (.cells old 67 (0, 0))) (hold : old.size = 8) (hF : F.answers wa.tape) {x0 x1 x3 x4 x5 x6 x7 x8 x9 x10 x11 x12 x13 x14 x15 x16 x17 x18 x19 x20 x21 x22 x23 x24 x25 x26 x27 x28 x29 x30 x31 x32 x33 x34 x35 x36 x37 x38 x39 x40 x41 x42 x43 x44 x45 x46 x47 x48 x49 x50 x51 x52 x53 x54 x55 x56 x57 x58 x59 x60 x61 x62 x63 x64 x65 x66 x67 x68 x69 x70 x71 x72 x73 x74 x75 x76 x77 x78 x79 x80 x81 x82 x83 x84 x85 x86 x87 x88 x89 x90 x91 x92 x93 x94 x95 x96 x97 x98 x99 x100 x101 x102 x103 x104 x105 x106 x107 x108 x109 x110 x111 x112 x113 x114 x115 x116 x117 x118 x119 x120 x121 x122 x123 x124 x125 x126 x127 x128 x129 x130 x131 x132 x133 x134 x135 x136 x137 x138 x139 x140 x141 x142 x143 x144 x145 x146 x147 : Value} (K : Act → World → Prop)
    (hK : ∀ (y15 y16 : Value) (er : Value) (wy : World), wy.heap[N]? = some (.cells (zpk) 67 (0, 0)) → Below B w wy → newE wa.heap.size wy er → K { tmps := #[x0, x1, .pointer (some ⟨N, 0, none⟩), .bool false, er, x5, x6, x7, x8, x9, x10, x11, x12, x13, x14, y15, y16, x17, x18, x19, x20, x21, x22, x23, x24, x25, x26, x27, x28, x29, x30, x31, x32, x33, x34, x35, x36, x37, x38, x39, x40, x41, x42, x43, x44, x45, x46, x47, x48, x49, x50, x51, x52, x53, x54, x55, x56, x57, x58, x59, x60, x61, x62, x63, x64, x65, x66, x67, x68, x69, x70, x71, x72, x73, x74, x75, x76, x77, x78, x79, x80, x81, x82, x83, x84, x85, x86, x87, x88, x89, x90, x91, x92, x93, x94, x95, x96, x97, x98, x99, x100, x101, x102, x103, x104, x105, x106, x107, x108, x109, x110, x111, x112, x113, x114, x115, x116, x117, x118, x119, x120, x121, x122, x123, x124, x125, x126, x127, x128, x129, x130, x131, x132, x133, x134, x135, x136, x137, x138, x139, x140, x141, x142, x143, x144, x145, x146, x147], defers := [] } (wy)) :
    Code.wp Ybaf.prog (headC (thnC (tailC (headC (dropC 1 d14))))) (only K) { tmps := #[x0, x1, .pointer (some ⟨N, 0, none⟩), x3, x4, x5, x6, x7, x8, x9, x10, x11, x12, x13, x14, x15, x16, x17, x18, x19, x20, x21, x22, x23, x24, x25, x26, x27, x28, x29, x30, x31, x32, x33, x34, x35, x36, x37, x38, x39, x40, x41, x42, x43, x44, x45, x46, x47, x48, x49, x50, x51, x52, x53, x54, x55, x56, x57, x58, x59, x60, x61, x62, x63, x64, x65, x66, x67, x68, x69, x70, x71, x72, x73, x74, x75, x76, x77, x78, x79, x80, x81, x82, x83, x84, x85, x86, x87, x88, x89, x90, x91, x92, x93, x94, x95, x96, x97, x98, x99, x100, x101, x102, x103, x104, x105, x106, x107, x108, x109, x110, x111, x112, x113, x114, x115, x116, x117, x118, x119, x120, x121, x122, x123, x124, x125, x126, x127, x128, x129, x130, x131, x132, x133, x134, x135, x136, x137, x138, x139, x140, x141, x142, x143, x144, x145, x146, x147], defers := [] } wa := by
  have lN : N < wa.heap.size := (Array.getElem?_eq_some_iff.1 hN).1
  simp only [d14, dL, dX, dS, dT, Ybaf.f14, Option.getD, dropC, headC, tailC, blkC, lupC, thnC, elsC]
  refine wp_region_lit ?_
  refine plk 15 (.agg zpk) rfl rfl (by kernel_rfl) ?_
  simp only [Act.put, List.setIfInBounds_toArray, List.set_cons_zero, List.set_cons_succ]
  refine plc 16 (f := 27) (args := #[.string ⟨#[73, 80, 118, 54]⟩]) rfl rfl (by kernel_rfl) (cutR (by exact hF)) ?_
  rintro er x ⟨he, bx⟩
  simp only [Act.put, List.setIfInBounds_toArray, List.set_cons_zero, List.set_cons_succ]
  have rx : x.heap[N]? = some (.cells old 67 (0, 0)) := by rw [bx.block _ lN]; exact hN
  refine pls (x := .tmp 2) (y := .tmp 15) (t := 67) rfl rfl (by kernel_rfl) (by kernel_rfl) (by kernel_rfl) (st67 (h1 := 0) (l1 := 0) (p := none) (h2 := 0) (l2 := 0) (q := none) (t := none) (tn := 0) (tc := 0) (len := 0) rx hold) ?_
  refine plk 3 (.bool false) rfl rfl (by kernel_rfl) ?_
  simp only [Act.put, List.setIfInBounds_toArray, List.set_cons_zero, List.set_cons_succ]
  refine plk 4 (er) rfl rfl (by kernel_rfl) ?_
  simp only [Act.put, List.setIfInBounds_toArray, List.set_cons_zero, List.set_cons_succ]
  exact wpList_nil (hK _ _  er _ (row_stored rx (by rw [hold]; rfl)) (below_setRow (hb.trans (below_le bx (by omega))) hB _) (newE_set he lN))

set_option maxRecDepth 100000 in
set_option maxHeartbeats 1000000 in
theorem d4 (B N : Nat) (w wa : World) (old : Array Value) (hb : Below B w wa) (hB : B ≤ N) (hN : wa.heap[N]? = some (.cells old 67 (0, 0))) (hold : old.size = 8) {x0 x1 x3 x4 x5 x6 x7 x8 x9 x10 x11 x12 x13 x14 x15 x16 x17 x18 x19 x20 x21 x22 x23 x24 x25 x26 x27 x28 x29 x30 x31 x32 x33 x34 x35 x36 x37 x38 x39 x40 x41 x42 x43 x44 x45 x46 x47 x48 x49 x50 x51 x52 x53 x54 x55 x56 x57 x58 x59 x60 x61 x62 x63 x64 x65 x66 x67 x68 x69 x70 x71 x72 x73 x74 x75 x76 x77 x78 x79 x80 x81 x82 x83 x84 x85 x86 x87 x88 x89 x90 x91 x92 x93 x94 x95 x96 x97 x98 x99 x100 x101 x102 x103 x104 x105 x106 x107 x108 x109 x110 x111 x112 x113 x114 x115 x116 x117 x118 x119 x120 x121 x122 x123 x124 x125 x126 x127 x128 x129 x130 x131 x132 x133 x134 x135 x136 x137 x138 x139 x140 x141 x142 x143 x144 x145 x146 x147 : Value} (K : Act → World → Prop)
    (hK : ∀ (y22 y23 : Value) (er : Value) (wy : World), wy.heap[N]? = some (.cells (zpk) 67 (0, 0)) → Below B w wy → newE wa.heap.size wy er → K { tmps := #[x0, x1, .pointer (some ⟨N, 0, none⟩), .bool false, er, x5, x6, x7, x8, x9, x10, x11, x12, x13, x14, x15, x16, x17, x18, x19, x20, x21, y22, y23, x24, x25, x26, x27, x28, x29, x30, x31, x32, x33, x34, x35, x36, x37, x38, x39, x40, x41, x42, x43, x44, x45, x46, x47, x48, x49, x50, x51, x52, x53, x54, x55, x56, x57, x58, x59, x60, x61, x62, x63, x64, x65, x66, x67, x68, x69, x70, x71, x72, x73, x74, x75, x76, x77, x78, x79, x80, x81, x82, x83, x84, x85, x86, x87, x88, x89, x90, x91, x92, x93, x94, x95, x96, x97, x98, x99, x100, x101, x102, x103, x104, x105, x106, x107, x108, x109, x110, x111, x112, x113, x114, x115, x116, x117, x118, x119, x120, x121, x122, x123, x124, x125, x126, x127, x128, x129, x130, x131, x132, x133, x134, x135, x136, x137, x138, x139, x140, x141, x142, x143, x144, x145, x146, x147], defers := [] } (wy)) :
    Code.wp Ybaf.prog (headC (thnC (tailC (headC (dropC 2 d14))))) (only K) { tmps := #[x0, x1, .pointer (some ⟨N, 0, none⟩), x3, x4, x5, x6, x7, x8, x9, x10, x11, x12, x13, x14, x15, x16, x17, x18, x19, x20, x21, x22, x23, x24, x25, x26, x27, x28, x29, x30, x31, x32, x33, x34, x35, x36, x37, x38, x39, x40, x41, x42, x43, x44, x45, x46, x47, x48, x49, x50, x51, x52, x53, x54, x55, x56, x57, x58, x59, x60, x61, x62, x63, x64, x65, x66, x67, x68, x69, x70, x71, x72, x73, x74, x75, x76, x77, x78, x79, x80, x81, x82, x83, x84, x85, x86, x87, x88, x89, x90, x91, x92, x93, x94, x95, x96, x97, x98, x99, x100, x101, x102, x103, x104, x105, x106, x107, x108, x109, x110, x111, x112, x113, x114, x115, x116, x117, x118, x119, x120, x121, x122, x123, x124, x125, x126, x127, x128, x129, x130, x131, x132, x133, x134, x135, x136, x137, x138, x139, x140, x141, x142, x143, x144, x145, x146, x147], defers := [] } wa := by
  have lN : N < wa.heap.size := (Array.getElem?_eq_some_iff.1 hN).1
  simp only [d14, dL, dX, dS, dT, Ybaf.f14, Option.getD, dropC, headC, tailC, blkC, lupC, thnC, elsC]
  refine wp_region_lit ?_
  refine plk 22 (.agg zpk) rfl rfl (by kernel_rfl) ?_
  simp only [Act.put, List.setIfInBounds_toArray, List.set_cons_zero, List.set_cons_succ]
  refine plc 23 (f := 28) (args := #[.string ⟨#[73, 80, 118, 54, 32, 112, 97, 99, 107, 101, 116, 32, 111, 102, 32, 97, 110, 111, 116, 104, 101, 114, 32, 73, 80, 32, 118, 101, 114, 115, 105, 111, 110]⟩]) rfl rfl (by kernel_rfl) (newR) ?_
  rintro er x ⟨he, bx⟩
  simp only [Act.put, List.setIfInBounds_toArray, List.set_cons_zero, List.set_cons_succ]
  have rx : x.heap[N]? = some (.cells old 67 (0, 0)) := by rw [bx.block _ lN]; exact hN
  refine pls (x := .tmp 2) (y := .tmp 22) (t := 67) rfl rfl (by kernel_rfl) (by kernel_rfl) (by kernel_rfl) (st67 (h1 := 0) (l1 := 0) (p := none) (h2 := 0) (l2 := 0) (q := none) (t := none) (tn := 0) (tc := 0) (len := 0) rx hold) ?_
  refine plk 3 (.bool false) rfl rfl (by kernel_rfl) ?_
  simp only [Act.put, List.setIfInBounds_toArray, List.set_cons_zero, List.set_cons_succ]
  refine plk 4 (er) rfl rfl (by kernel_rfl) ?_
  simp only [Act.put, List.setIfInBounds_toArray, List.set_cons_zero, List.set_cons_succ]
  exact wpList_nil (hK _ _  er _ (row_stored rx (by rw [hold]; rfl)) (below_setRow (hb.trans (below_le bx (by omega))) hB _) (newE_set he lN))

set_option maxRecDepth 100000 in
set_option maxHeartbeats 1000000 in
theorem d29 (B N : Nat) (w wa : World) (old : Array Value) (hb : Below B w wa) (hB : B ≤ N) (hN : wa.heap[N]? = some (.cells old 67 (0, 0))) (hold : old.size = 8) {x0 x1 x3 x4 x5 x6 x7 x8 x9 x10 x11 x12 x13 x14 x15 x16 x17 x18 x19 x20 x21 x22 x23 x24 x25 x26 x27 x28 x29 x30 x31 x32 x33 x34 x35 x36 x37 x38 x39 x40 x41 x42 x43 x44 x45 x46 x47 x48 x49 x50 x51 x52 x53 x54 x55 x56 x57 x58 x59 x60 x61 x62 x63 x64 x65 x66 x67 x68 x69 x70 x71 x72 x73 x74 x75 x76 x77 x78 x79 x80 x81 x82 x83 x84 x85 x86 x87 x88 x89 x90 x91 x92 x93 x94 x95 x96 x97 x98 x99 x100 x101 x102 x103 x104 x105 x106 x107 x108 x109 x110 x111 x112 x113 x114 x115 x116 x117 x118 x119 x120 x121 x122 x123 x124 x125 x126 x127 x128 x129 x130 x131 x132 x133 x134 x135 x136 x137 x138 x139 x140 x141 x142 x143 x144 x145 x146 x147 : Value} (K : Act → World → Prop)
    (hK : ∀ (y104 : Value) (wy : World), wy.heap[N]? = some (.cells zpk 67 (0, 0)) → Below B w wy → K { tmps := #[x0, x1, .pointer (some ⟨N, 0, none⟩), .bool false, .nilIface, x5, x6, x7, x8, x9, x10, x11, x12, x13, x14, x15, x16, x17, x18, x19, x20, x21, x22, x23, x24, x25, x26, x27, x28, x29, x30, x31, x32, x33, x34, x35, x36, x37, x38, x39, x40, x41, x42, x43, x44, x45, x46, x47, x48, x49, x50, x51, x52, x53, x54, x55, x56, x57, x58, x59, x60, x61, x62, x63, x64, x65, x66, x67, x68, x69, x70, x71, x72, x73, x74, x75, x76, x77, x78, x79, x80, x81, x82, x83, x84, x85, x86, x87, x88, x89, x90, x91, x92, x93, x94, x95, x96, x97, x98, x99, x100, x101, x102, x103, y104, x105, x106, x107, x108, x109, x110, x111, x112, x113, x114, x115, x116, x117, x118, x119, x120, x121, x122, x123, x124, x125, x126, x127, x128, x129, x130, x131, x132, x133, x134, x135, x136, x137, x138, x139, x140, x141, x142, x143, x144, x145, x146, x147], defers := [] } (wy)) :
    Code.wp Ybaf.prog (headC (thnC (tailC (headC (dropC 2 (thnC (tailC (elsC (tailC (elsC (tailC dS))))))))))) (only K) { tmps := #[x0, x1, .pointer (some ⟨N, 0, none⟩), x3, x4, x5, x6, x7, x8, x9, x10, x11, x12, x13, x14, x15, x16, x17, x18, x19, x20, x21, x22, x23, x24, x25, x26, x27, x28, x29, x30, x31, x32, x33, x34, x35, x36, x37, x38, x39, x40, x41, x42, x43, x44, x45, x46, x47, x48, x49, x50, x51, x52, x53, x54, x55, x56, x57, x58, x59, x60, x61, x62, x63, x64, x65, x66, x67, x68, x69, x70, x71, x72, x73, x74, x75, x76, x77, x78, x79, x80, x81, x82, x83, x84, x85, x86, x87, x88, x89, x90, x91, x92, x93, x94, x95, x96, x97, x98, x99, x100, x101, x102, x103, x104, x105, x106, x107, x108, x109, x110, x111, x112, x113, x114, x115, x116, x117, x118, x119, x120, x121, x122, x123, x124, x125, x126, x127, x128, x129, x130, x131, x132, x133, x134, x135, x136, x137, x138, x139, x140, x141, x142, x143, x144, x145, x146, x147], defers := [] } wa := by
  simp only [d14, dL, dX, dS, dT, Ybaf.f14, Option.getD, dropC, headC, tailC, blkC, lupC, thnC, elsC]
  refine wp_region_lit ?_
  refine plk 104 (.agg zpk) rfl rfl (by kernel_rfl) ?_
  simp only [Act.put, List.setIfInBounds_toArray, List.set_cons_zero, List.set_cons_succ]
  refine pls (x := .tmp 2) (y := .tmp 104) (t := 67) rfl rfl (by kernel_rfl) (by kernel_rfl) (by kernel_rfl) (st67 (h1 := 0) (l1 := 0) (p := none) (h2 := 0) (l2 := 0) (q := none) (t := none) (tn := 0) (tc := 0) (len := 0) hN hold) ?_
  refine plk 3 (.bool false) rfl rfl (by kernel_rfl) ?_
  simp only [Act.put, List.setIfInBounds_toArray, List.set_cons_zero, List.set_cons_succ]
  refine plk 4 (.nilIface) rfl rfl (by kernel_rfl) ?_
  simp only [Act.put, List.setIfInBounds_toArray, List.set_cons_zero, List.set_cons_succ]
  exact wpList_nil (hK _  _ (row_stored hN (by rw [hold]; rfl)) (below_setRow hb hB _))

set_option maxRecDepth 100000 in
set_option maxHeartbeats 1000000 in
theorem d13 (B N : Nat) (w wa : World) (old : Array Value) (hb : Below B w wa) (hB : B ≤ N) (hN : wa.heap[N]? = some (.cells old 67 (0, 0))) (hold : old.size = 8) {x0 x1 x3 x4 x5 x6 x7 x8 x9 x10 x11 x12 x13 x14 x15 x16 x17 x18 x19 x20 x21 x22 x23 x24 x25 x26 x27 x28 x29 x30 x31 x32 x33 x34 x35 x36 x37 x38 x39 x40 x41 x42 x43 x44 x45 x46 x47 x48 x49 x50 x51 x52 x53 x54 x55 x56 x57 x58 x59 x60 x61 x62 x63 x64 x65 x66 x67 x68 x69 x70 x71 x72 x73 x74 x75 x76 x77 x78 x79 x80 x81 x82 x83 x84 x85 x86 x87 x88 x89 x90 x91 x92 x93 x94 x95 x96 x97 x98 x99 x100 x101 x102 x103 x104 x105 x106 x107 x108 x109 x110 x111 x112 x113 x114 x115 x116 x117 x118 x119 x120 x121 x122 x123 x124 x125 x126 x127 x128 x129 x130 x131 x132 x133 x134 x135 x136 x137 x138 x139 x140 x141 x142 x143 x144 x145 x146 x147 : Value} (K : Act → World → Prop)
    (hK : ∀ (y49 : Value) (wy : World), wy.heap[N]? = some (.cells zpk 67 (0, 0)) → Below B w wy → K { tmps := #[x0, x1, .pointer (some ⟨N, 0, none⟩), .bool false, .nilIface, x5, x6, x7, x8, x9, x10, x11, x12, x13, x14, x15, x16, x17, x18, x19, x20, x21, x22, x23, x24, x25, x26, x27, x28, x29, x30, x31, x32, x33, x34, x35, x36, x37, x38, x39, x40, x41, x42, x43, x44, x45, x46, x47, x48, y49, x50, x51, x52, x53, x54, x55, x56, x57, x58, x59, x60, x61, x62, x63, x64, x65, x66, x67, x68, x69, x70, x71, x72, x73, x74, x75, x76, x77, x78, x79, x80, x81, x82, x83, x84, x85, x86, x87, x88, x89, x90, x91, x92, x93, x94, x95, x96, x97, x98, x99, x100, x101, x102, x103, x104, x105, x106, x107, x108, x109, x110, x111, x112, x113, x114, x115, x116, x117, x118, x119, x120, x121, x122, x123, x124, x125, x126, x127, x128, x129, x130, x131, x132, x133, x134, x135, x136, x137, x138, x139, x140, x141, x142, x143, x144, x145, x146, x147], defers := [] } (wy)) :
    Code.wp Ybaf.prog (headC (elsC (tailC (elsC (tailC (elsC (tailC dS))))))) (only K) { tmps := #[x0, x1, .pointer (some ⟨N, 0, none⟩), x3, x4, x5, x6, x7, x8, x9, x10, x11, x12, x13, x14, x15, x16, x17, x18, x19, x20, x21, x22, x23, x24, x25, x26, x27, x28, x29, x30, x31, x32, x33, x34, x35, x36, x37, x38, x39, x40, x41, x42, x43, x44, x45, x46, x47, x48, x49, x50, x51, x52, x53, x54, x55, x56, x57, x58, x59, x60, x61, x62, x63, x64, x65, x66, x67, x68, x69, x70, x71, x72, x73, x74, x75, x76, x77, x78, x79, x80, x81, x82, x83, x84, x85, x86, x87, x88, x89, x90, x91, x92, x93, x94, x95, x96, x97, x98, x99, x100, x101, x102, x103, x104, x105, x106, x107, x108, x109, x110, x111, x112, x113, x114, x115, x116, x117, x118, x119, x120, x121, x122, x123, x124, x125, x126, x127, x128, x129, x130, x131, x132, x133, x134, x135, x136, x137, x138, x139, x140, x141, x142, x143, x144, x145, x146, x147], defers := [] } wa := by
  simp only [d14, dL, dX, dS, dT, Ybaf.f14, Option.getD, dropC, headC, tailC, blkC, lupC, thnC, elsC]
  refine wp_region_lit ?_
  refine plk 49 (.agg zpk) rfl rfl (by kernel_rfl) ?_
  simp only [Act.put, List.setIfInBounds_toArray, List.set_cons_zero, List.set_cons_succ]
  refine pls (x := .tmp 2) (y := .tmp 49) (t := 67) rfl rfl (by kernel_rfl) (by kernel_rfl) (by kernel_rfl) (st67 (h1 := 0) (l1 := 0) (p := none) (h2 := 0) (l2 := 0) (q := none) (t := none) (tn := 0) (tc := 0) (len := 0) hN hold) ?_
  refine plk 3 (.bool false) rfl rfl (by kernel_rfl) ?_
  simp only [Act.put, List.setIfInBounds_toArray, List.set_cons_zero, List.set_cons_succ]
  refine plk 4 (.nilIface) rfl rfl (by kernel_rfl) ?_
  simp only [Act.put, List.setIfInBounds_toArray, List.set_cons_zero, List.set_cons_succ]
  exact wpList_nil (hK _  _ (row_stored hN (by rw [hold]; rfl)) (below_setRow hb hB _))

set_option maxRecDepth 100000 in
set_option maxHeartbeats 1000000 in
theorem d6 (X Y : Nat → Nat) (zp : Option Addr) (b off n c N5 B : Nat) (w wa : World) (hb : Below B w wa) (hB : B ≤ N5) (hX : ∀ k, k < 16 → X k ≤ 255) (hc : 40 ≤ c) (hg : wa.cell? ⟨3, 0, none⟩ = some (.pointer zp)) (hr : wa.rangeAt b (off + 8) (row16 X).toList) (h5 : wa.heap[N5]? = some (.cells (zpk) 67 (0, 0))) {x1 x2 x3 x4 x6 x7 x8 x9 x10 x11 x12 x13 x14 x15 x16 x17 x18 x19 x20 x21 x22 x23 x24 x25 x26 x27 x28 x29 x30 x31 x32 x33 x34 x35 x36 x37 x38 x39 x40 x41 x42 x43 x44 x45 x46 x47 x48 x49 x50 x51 x52 x53 x54 x55 x56 x57 x58 x59 x60 x61 x62 x63 x64 x65 x66 x67 x68 x69 x70 x71 x72 x73 x74 x75 x76 x77 x78 x79 x80 x81 x82 x83 x84 x85 x86 x87 x88 x89 x90 x91 x92 x93 x94 x95 x96 x97 x98 x99 x100 x101 x102 x103 x104 x105 x106 x107 x108 x109 x110 x111 x112 x113 x114 x115 x116 x117 x118 x119 x120 x121 x122 x123 x124 x125 x126 x127 x128 x129 x130 x131 x132 x133 x134 x135 x136 x137 x138 x139 x140 x141 x142 x143 x144 x145 x146 x147 : Value} (K : Act → World → Prop)
    (hK : ∀ (y25 y26 y27 y24 y28 y29 y30 : Value) (wy : World), wy.heap[N5]? = some (.cells (pkt ((be X : Nat) : Int) ((be (fun k => X (k + 8)) : Nat) : Int) zp 0 0 none none 0 0 0) 67 (0, 0)) → Below B w wy → (∀ k, k < wa.heap.size → k ≠ N5 → wy.heap[k]? = wa.heap[k]?) → K { tmps := #[.slice (some ⟨b, off, none⟩) n c, x1, x2, x3, x4, .pointer (some ⟨N5, 0, none⟩), x6, x7, x8, x9, x10, x11, x12, x13, x14, x15, x16, x17, x18, x19, x20, x21, x22, x23, y24, y25, y26, y27, y28, y29, y30, x31, x32, x33, x34, x35, x36, x37, x38, x39, x40, x41, x42, x43, x44, x45, x46, x47, x48, x49, x50, x51, x52, x53, x54, x55, x56, x57, x58, x59, x60, x61, x62, x63, x64, x65, x66, x67, x68, x69, x70, x71, x72, x73, x74, x75, x76, x77, x78, x79, x80, x81, x82, x83, x84, x85, x86, x87, x88, x89, x90, x91, x92, x93, x94, x95, x96, x97, x98, x99, x100, x101, x102, x103, x104, x105, x106, x107, x108, x109, x110, x111, x112, x113, x114, x115, x116, x117, x118, x119, x120, x121, x122, x123, x124, x125, x126, x127, x128, x129, x130, x131, x132, x133, x134, x135, x136, x137, x138, x139, x140, x141, x142, x143, x144, x145, x146, x147], defers := [] } (wy)) :
    Code.wp Ybaf.prog (headC (dropC 4 d14)) (only K) { tmps := #[.slice (some ⟨b, off, none⟩) n c, x1, x2, x3, x4, .pointer (some ⟨N5, 0, none⟩), x6, x7, x8, x9, x10, x11, x12, x13, x14, x15, x16, x17, x18, x19, x20, x21, x22, x23, x24, x25, x26, x27, x28, x29, x30, x31, x32, x33, x34, x35, x36, x37, x38, x39, x40, x41, x42, x43, x44, x45, x46, x47, x48, x49, x50, x51, x52, x53, x54, x55, x56, x57, x58, x59, x60, x61, x62, x63, x64, x65, x66, x67, x68, x69, x70, x71, x72, x73, x74, x75, x76, x77, x78, x79, x80, x81, x82, x83, x84, x85, x86, x87, x88, x89, x90, x91, x92, x93, x94, x95, x96, x97, x98, x99, x100, x101, x102, x103, x104, x105, x106, x107, x108, x109, x110, x111, x112, x113, x114, x115, x116, x117, x118, x119, x120, x121, x122, x123, x124, x125, x126, x127, x128, x129, x130, x131, x132, x133, x134, x135, x136, x137, x138, x139, x140, x141, x142, x143, x144, x145, x146, x147], defers := [] } wa := by
  have l5 : N5 < wa.heap.size := (Array.getElem?_eq_some_iff.1 h5).1
  simp only [d14, dL, dX, dS, dT, Ybaf.f14, Option.getD, dropC, headC, tailC, blkC, lupC, thnC, elsC]
  refine wp_region_lit ?_
  refine plk 25 (.slice (some ⟨b, off, none⟩) n c) rfl rfl (by kernel_rfl) ?_
  simp only [Act.put, List.setIfInBounds_toArray, List.set_cons_zero, List.set_cons_succ]
  refine pl 26 rfl rfl (ex_slice2 (x := .tmp 25) (l := .const (.int .i64 8)) (h := .const (.int .i64 24)) (t := 53) (by kernel_rfl) (by kernel_rfl) (by kernel_rfl) (by kernel_rfl) (sl53a (b := b) (off := off) (n := n) hc _)) ?_
  simp only [Act.put, List.setIfInBounds_toArray, List.set_cons_zero, List.set_cons_succ]
  refine plc 27 (f := 29) (args := #[.slice (some ⟨b, off + 8, none⟩) 16 (c - 8)]) rfl rfl (by kernel_rfl) (adR (X := X) hX hg hr) ?_
  rintro v x ⟨rfl, bx⟩
  simp only [Act.put, List.setIfInBounds_toArray, List.set_cons_zero, List.set_cons_succ]
  refine plk 24 (.tuple #[.agg (adr X (.pointer zp)), .bool true]) rfl rfl (by kernel_rfl) ?_
  simp only [Act.put, List.setIfInBounds_toArray, List.set_cons_zero, List.set_cons_succ]
  refine plk 28 (.agg (adr X (.pointer zp))) rfl rfl (by kernel_rfl) ?_
  simp only [Act.put, List.setIfInBounds_toArray, List.set_cons_zero, List.set_cons_succ]
  refine plk 29 (.bool true) rfl rfl (by kernel_rfl) ?_
  simp only [Act.put, List.setIfInBounds_toArray, List.set_cons_zero, List.set_cons_succ]
  refine pl 30 rfl rfl (ex_field (x := .tmp 5) (i := 0) (t := 67) (by kernel_rfl) (by kernel_rfl) (fa67_0 N5 _)) ?_
  simp only [Act.put, List.setIfInBounds_toArray, List.set_cons_zero, List.set_cons_succ]
  have rx : x.heap[N5]? = some (.cells (zpk) 67 (0, 0)) := by rw [bx.block _ l5]; exact h5
  refine pls (x := .tmp 30) (y := .tmp 28) (t := 65) rfl rfl (by kernel_rfl) (by kernel_rfl) (by kernel_rfl) (st65m (X := X) (zp := zp) rx (by show 0 + 3 ≤ 8; omega)) ?_
  exact wpList_nil (hK _ _ _ _ _ _ _  _ ((row_sets _ _ _ _ rx).trans (by rw [show setL (zpk) 0 (adr X (.pointer zp)).toList = pkt ((be X : Nat) : Int) ((be (fun k => X (k + 8)) : Nat) : Int) zp 0 0 none none 0 0 0 from by kernel_rfl])) (below_setCells hB _ _ _ (hb.trans (below_le bx (by omega)))) (fun k hk hne => (other_sets hne _ _ _).trans (bx.block k hk)))

set_option maxRecDepth 100000 in
set_option maxHeartbeats 1000000 in
theorem d7 (X Y : Nat → Nat) (zp : Option Addr) (b off n c N5 B : Nat) (w wa : World) (hb : Below B w wa) (hB : B ≤ N5) (hX : ∀ k, k < 16 → Y k ≤ 255) (hc : 40 ≤ c) (hg : wa.cell? ⟨3, 0, none⟩ = some (.pointer zp)) (hr : wa.rangeAt b (off + 24) (row16 Y).toList) (h5 : wa.heap[N5]? = some (.cells (pkt ((be X : Nat) : Int) ((be (fun k => X (k + 8)) : Nat) : Int) zp 0 0 none none 0 0 0) 67 (0, 0))) {x1 x2 x3 x4 x6 x7 x8 x9 x10 x11 x12 x13 x14 x15 x16 x17 x18 x19 x20 x21 x22 x23 x24 x25 x26 x27 x28 x29 x30 x31 x32 x33 x34 x35 x36 x37 x38 x39 x40 x41 x42 x43 x44 x45 x46 x47 x48 x49 x50 x51 x52 x53 x54 x55 x56 x57 x58 x59 x60 x61 x62 x63 x64 x65 x66 x67 x68 x69 x70 x71 x72 x73 x74 x75 x76 x77 x78 x79 x80 x81 x82 x83 x84 x85 x86 x87 x88 x89 x90 x91 x92 x93 x94 x95 x96 x97 x98 x99 x100 x101 x102 x103 x104 x105 x106 x107 x108 x109 x110 x111 x112 x113 x114 x115 x116 x117 x118 x119 x120 x121 x122 x123 x124 x125 x126 x127 x128 x129 x130 x131 x132 x133 x134 x135 x136 x137 x138 x139 x140 x141 x142 x143 x144 x145 x146 x147 : Value} (K : Act → World → Prop)
    (hK : ∀ (y32 y33 y34 y31 y35 y36 y37 : Value) (wy : World), wy.heap[N5]? = some (.cells (pkt ((be X : Nat) : Int) ((be (fun k => X (k + 8)) : Nat) : Int) zp ((be Y : Nat) : Int) ((be (fun k => Y (k + 8)) : Nat) : Int) zp none 0 0 0) 67 (0, 0)) → Below B w wy → (∀ k, k < wa.heap.size → k ≠ N5 → wy.heap[k]? = wa.heap[k]?) → K { tmps := #[.slice (some ⟨b, off, none⟩) n c, x1, x2, x3, x4, .pointer (some ⟨N5, 0, none⟩), x6, x7, x8, x9, x10, x11, x12, x13, x14, x15, x16, x17, x18, x19, x20, x21, x22, x23, x24, x25, x26, x27, x28, x29, x30, y31, y32, y33, y34, y35, y36, y37, x38, x39, x40, x41, x42, x43, x44, x45, x46, x47, x48, x49, x50, x51, x52, x53, x54, x55, x56, x57, x58, x59, x60, x61, x62, x63, x64, x65, x66, x67, x68, x69, x70, x71, x72, x73, x74, x75, x76, x77, x78, x79, x80, x81, x82, x83, x84, x85, x86, x87, x88, x89, x90, x91, x92, x93, x94, x95, x96, x97, x98, x99, x100, x101, x102, x103, x104, x105, x106, x107, x108, x109, x110, x111, x112, x113, x114, x115, x116, x117, x118, x119, x120, x121, x122, x123, x124, x125, x126, x127, x128, x129, x130, x131, x132, x133, x134, x135, x136, x137, x138, x139, x140, x141, x142, x143, x144, x145, x146, x147], defers := [] } (wy)) :
    Code.wp Ybaf.prog (headC (dropC 5 d14)) (only K) { tmps := #[.slice (some ⟨b, off, none⟩) n c, x1, x2, x3, x4, .pointer (some ⟨N5, 0, none⟩), x6, x7, x8, x9, x10, x11, x12, x13, x14, x15, x16, x17, x18, x19, x20, x21, x22, x23, x24, x25, x26, x27, x28, x29, x30, x31, x32, x33, x34, x35, x36, x37, x38, x39, x40, x41, x42, x43, x44, x45, x46, x47, x48, x49, x50, x51, x52, x53, x54, x55, x56, x57, x58, x59, x60, x61, x62, x63, x64, x65, x66, x67, x68, x69, x70, x71, x72, x73, x74, x75, x76, x77, x78, x79, x80, x81, x82, x83, x84, x85, x86, x87, x88, x89, x90, x91, x92, x93, x94, x95, x96, x97, x98, x99, x100, x101, x102, x103, x104, x105, x106, x107, x108, x109, x110, x111, x112, x113, x114, x115, x116, x117, x118, x119, x120, x121, x122, x123, x124, x125, x126, x127, x128, x129, x130, x131, x132, x133, x134, x135, x136, x137, x138, x139, x140, x141, x142, x143, x144, x145, x146, x147], defers := [] } wa := by
  have l5 : N5 < wa.heap.size := (Array.getElem?_eq_some_iff.1 h5).1
  simp only [d14, dL, dX, dS, dT, Ybaf.f14, Option.getD, dropC, headC, tailC, blkC, lupC, thnC, elsC]
  refine wp_region_lit ?_
  refine plk 32 (.slice (some ⟨b, off, none⟩) n c) rfl rfl (by kernel_rfl) ?_
  simp only [Act.put, List.setIfInBounds_toArray, List.set_cons_zero, List.set_cons_succ]
  refine pl 33 rfl rfl (ex_slice2 (x := .tmp 32) (l := .const (.int .i64 24)) (h := .const (.int .i64 40)) (t := 53) (by kernel_rfl) (by kernel_rfl) (by kernel_rfl) (by kernel_rfl) (sl53b (b := b) (off := off) (n := n) hc _)) ?_
  simp only [Act.put, List.setIfInBounds_toArray, List.set_cons_zero, List.set_cons_succ]
  refine plc 34 (f := 29) (args := #[.slice (some ⟨b, off + 24, none⟩) 16 (c - 24)]) rfl rfl (by kernel_rfl) (adR (X := Y) hX hg hr) ?_
  rintro v x ⟨rfl, bx⟩
  simp only [Act.put, List.setIfInBounds_toArray, List.set_cons_zero, List.set_cons_succ]
  refine plk 31 (.tuple #[.agg (adr Y (.pointer zp)), .bool true]) rfl rfl (by kernel_rfl) ?_
  simp only [Act.put, List.setIfInBounds_toArray, List.set_cons_zero, List.set_cons_succ]
  refine plk 35 (.agg (adr Y (.pointer zp))) rfl rfl (by kernel_rfl) ?_
  simp only [Act.put, List.setIfInBounds_toArray, List.set_cons_zero, List.set_cons_succ]
  refine plk 36 (.bool true) rfl rfl (by kernel_rfl) ?_
  simp only [Act.put, List.setIfInBounds_toArray, List.set_cons_zero, List.set_cons_succ]
  refine pl 37 rfl rfl (ex_field (x := .tmp 5) (i := 1) (t := 67) (by kernel_rfl) (by kernel_rfl) (fa67_1 N5 _)) ?_
  simp only [Act.put, List.setIfInBounds_toArray, List.set_cons_zero, List.set_cons_succ]
  have rx : x.heap[N5]? = some (.cells (pkt ((be X : Nat) : Int) ((be (fun k => X (k + 8)) : Nat) : Int) zp 0 0 none none 0 0 0) 67 (0, 0)) := by rw [bx.block _ l5]; exact h5
  refine pls (x := .tmp 37) (y := .tmp 35) (t := 65) rfl rfl (by kernel_rfl) (by kernel_rfl) (by kernel_rfl) (st65m (X := Y) (zp := zp) rx (by show 3 + 3 ≤ 8; omega)) ?_
  exact wpList_nil (hK _ _ _ _ _ _ _  _ ((row_sets _ _ _ _ rx).trans (by rw [show setL (pkt ((be X : Nat) : Int) ((be (fun k => X (k + 8)) : Nat) : Int) zp 0 0 none none 0 0 0) 3 (adr Y (.pointer zp)).toList = pkt ((be X : Nat) : Int) ((be (fun k => X (k + 8)) : Nat) : Int) zp ((be Y : Nat) : Int) ((be (fun k => Y (k + 8)) : Nat) : Int) zp none 0 0 0 from by kernel_rfl])) (below_setCells hB _ _ _ (hb.trans (below_le bx (by omega)))) (fun k hk hne => (other_sets hne _ _ _).trans (bx.block k hk)))

set_option maxRecDepth 100000 in
set_option maxHeartbeats 1000000 in
theorem d8 (b off n c v4 v5 v6 : Nat) (wa : World) (hn : 40 ≤ n) (hc : n ≤ c) (q4 : wa.cell? ⟨b, off + 4, none⟩ = some (.int .u8 (v4 : Nat))) (q5 : wa.cell? ⟨b, off + 4 + 1, none⟩ = some (.int .u8 (v5 : Nat))) (q6 : wa.cell? ⟨b, off + 6, none⟩ = some (.int .u8 (v6 : Nat))) (g4 : v4 ≤ 255) (g5 : v5 ≤ 255) {x1 x2 x3 x4 x5 x6 x7 x8 x9 x10 x11 x12 x13 x14 x15 x16 x17 x18 x19 x20 x21 x22 x23 x24 x25 x26 x27 x28 x29 x30 x31 x32 x33 x34 x35 x36 x37 x38 x39 x40 x41 x42 x43 x44 x45 x46 x47 x48 x49 x50 x51 x52 x53 x54 x55 x56 x57 x58 x59 x60 x61 x62 x63 x64 x65 x66 x67 x68 x69 x70 x71 x72 x73 x74 x75 x76 x77 x78 x79 x80 x81 x82 x83 x84 x85 x86 x87 x88 x89 x90 x91 x92 x93 x94 x95 x96 x97 x98 x99 x100 x101 x102 x103 x104 x105 x106 x107 x108 x109 x110 x111 x112 x113 x114 x115 x116 x117 x118 x119 x120 x121 x122 x123 x124 x125 x126 x127 x128 x129 x130 x131 x132 x133 x134 x135 x136 x137 x138 x139 x140 x141 x142 x143 x144 x145 x146 x147 : Value} (K : Act → World → Prop)
    (hK : ∀ (y38 y39 y40 y41 y42 y43 y44 y45 : Value) (wy : World), Below wa.heap.size wa wy → K { tmps := #[.slice (some ⟨b, off, none⟩) n c, x1, x2, x3, x4, x5, .int .u8 ((v6 : Nat) : Int), .int .i64 ((v4 * 256 + v5 : Nat) : Int), x8, x9, x10, x11, x12, x13, x14, x15, x16, x17, x18, x19, x20, x21, x22, x23, x24, x25, x26, x27, x28, x29, x30, x31, x32, x33, x34, x35, x36, x37, y38, y39, y40, y41, y42, y43, y44, y45, x46, x47, x48, x49, x50, x51, x52, x53, x54, x55, x56, x57, x58, x59, x60, x61, x62, x63, x64, x65, x66, x67, x68, x69, x70, x71, x72, x73, x74, x75, x76, x77, x78, x79, x80, x81, x82, x83, x84, x85, x86, x87, x88, x89, x90, x91, x92, x93, x94, x95, x96, x97, x98, x99, x100, x101, x102, x103, x104, x105, x106, x107, x108, x109, x110, x111, x112, x113, x114, x115, x116, x117, x118, x119, x120, x121, x122, x123, x124, x125, x126, x127, x128, x129, x130, x131, x132, x133, x134, x135, x136, x137, x138, x139, x140, x141, x142, x143, x144, x145, x146, x147], defers := [] } (wy)) :
    Code.wp Ybaf.prog (headC (dropC 6 d14)) (only K) { tmps := #[.slice (some ⟨b, off, none⟩) n c, x1, x2, x3, x4, x5, x6, x7, x8, x9, x10, x11, x12, x13, x14, x15, x16, x17, x18, x19, x20, x21, x22, x23, x24, x25, x26, x27, x28, x29, x30, x31, x32, x33, x34, x35, x36, x37, x38, x39, x40, x41, x42, x43, x44, x45, x46, x47, x48, x49, x50, x51, x52, x53, x54, x55, x56, x57, x58, x59, x60, x61, x62, x63, x64, x65, x66, x67, x68, x69, x70, x71, x72, x73, x74, x75, x76, x77, x78, x79, x80, x81, x82, x83, x84, x85, x86, x87, x88, x89, x90, x91, x92, x93, x94, x95, x96, x97, x98, x99, x100, x101, x102, x103, x104, x105, x106, x107, x108, x109, x110, x111, x112, x113, x114, x115, x116, x117, x118, x119, x120, x121, x122, x123, x124, x125, x126, x127, x128, x129, x130, x131, x132, x133, x134, x135, x136, x137, x138, x139, x140, x141, x142, x143, x144, x145, x146, x147], defers := [] } wa := by
  have hi6 : (6 : Int) < (n : Int) := by omega
  have lb : b < wa.heap.size := World.block_lt_of_cell? wa _ q4
  have hpay : v4 * 256 + v5 ≤ 65535 := by omega
  have hsl := fun w => sl53lo (b := b) (off := off) (n := n) (c := c) (lo := 4) (by omega) hc w
  rw [show sh c 4 = 4 from if_neg (by omega)] at hsl
  have hix : ∀ w, (Instr.indexAt 53 (.slice (some ⟨b, off, none⟩) n c) (.int .i64 6)).run Ybaf.prog w = .ok (.pointer (some ⟨b, off + 6, none⟩)) w := fun w => by go_simp
  simp only [d14, dL, dX, dS, dT, Ybaf.f14, Option.getD, dropC, headC, tailC, blkC, lupC, thnC, elsC]
  refine wp_region_any (by kernel_rfl) ?_
  change wpAny _ _ _ _ _ _ _ (World.drew _)
  refine anyT 38 (i := 0) (v := .slice (some ⟨b, off, none⟩) n c) rfl (by kernel_rfl) (by kernel_rfl) (by kernel_rfl) (fun _ _ _ h => h) (by kernel_rfl) (by kernel_rfl) (fun w => by kernel_rfl) ?_
  simp only [Act.put, List.setIfInBounds_toArray, List.set_cons_zero, List.set_cons_succ]
  refine anyT 39 (i := 1) (v := .pointer (some ⟨b, off + 6, none⟩)) rfl (by kernel_rfl) (by kernel_rfl) (by kernel_rfl) (fun _ _ _ h => h) (by kernel_rfl) (by kernel_rfl) (fun w => ex_index (x := .tmp 38) (y := .const (.int .i64 6)) (t := 53) (by kernel_rfl) (by kernel_rfl) (by kernel_rfl) (hix w)) ?_
  simp only [Act.put, List.setIfInBounds_toArray, List.set_cons_zero, List.set_cons_succ]
  refine anyT 41 (i := 3) (v := .agg #[]) rfl (by kernel_rfl) (by kernel_rfl) (by kernel_rfl) (fun _ _ _ h => h) (by kernel_rfl) (by kernel_rfl) (fun w => ex_load (x := .global 1) (t := 89) (by kernel_rfl) (by kernel_rfl) (ld89 w)) ?_
  simp only [Act.put, List.setIfInBounds_toArray, List.set_cons_zero, List.set_cons_succ]
  refine anyT 42 (i := 4) (v := .slice (some ⟨b, off, none⟩) n c) rfl (by kernel_rfl) (by kernel_rfl) (by kernel_rfl) (fun _ _ _ h => h) (by kernel_rfl) (by kernel_rfl) (fun w => by kernel_rfl) ?_
  simp only [Act.put, List.setIfInBounds_toArray, List.set_cons_zero, List.set_cons_succ]
  refine anyT 43 (i := 5) (v := .slice (some ⟨b, off + 4, none⟩) (n - 4) (c - 4)) rfl (by kernel_rfl) (by kernel_rfl) (by kernel_rfl) (fun _ _ _ h => h) (by kernel_rfl) (by kernel_rfl) (fun w => ex_slice (x := .tmp 42) (l := .const (.int .i64 4)) (t := 53) (by kernel_rfl) (by kernel_rfl) (by kernel_rfl) (hsl w)) ?_
  simp only [Act.put, List.setIfInBounds_toArray, List.set_cons_zero, List.set_cons_succ]
  refine any2c' 40 44 (i := 2) (j := 6) (f := 30) (args := #[.agg #[], .slice (some ⟨b, off + 4, none⟩) (n - 4) (c - 4)]) (by kernel_rfl) rfl rfl (by kernel_rfl) (by kernel_rfl) (by kernel_rfl) (by kernel_rfl) (by kernel_rfl) (u16R (w := wa.drew) (by omega) q4 q5 g4 g5) (ex_load (x := .tmp 39) (t := 5) (by kernel_rfl) (by kernel_rfl) (ld5 (w := wa.drew) q6)) ?_ ?_
  · skip
    simp only [Act.put, List.setIfInBounds_toArray, List.set_cons_zero, List.set_cons_succ]
    refine any1c 44 (i := 6) (f := 30) (args := #[.agg #[], .slice (some ⟨b, off + 4, none⟩) (n - 4) (c - 4)]) (by kernel_rfl) rfl (by kernel_rfl) (by kernel_rfl) (by kernel_rfl) (u16R (w := wa.drew) (by omega) q4 q5 g4 g5) ?_
    rintro v x ⟨rfl, bx⟩
    simp only [Act.put, List.setIfInBounds_toArray, List.set_cons_zero, List.set_cons_succ]
    refine anyT 45 (i := 7) (v := .int .i64 ((v4 * 256 + v5 : Nat) : Int)) rfl (by kernel_rfl) (by kernel_rfl) (by kernel_rfl) (fun _ _ _ h => h) (by kernel_rfl) (by kernel_rfl) (fun w => ex_conv (x := .tmp 44) (s := 24) (t := 3) (by kernel_rfl) (by kernel_rfl) (cv243 _ (by omega) w)) ?_
    simp only [Act.put, List.setIfInBounds_toArray, List.set_cons_zero, List.set_cons_succ]
    refine anyT 6 (i := 8) (v := .int .u8 ((v6 : Nat) : Int)) rfl (by kernel_rfl) (by kernel_rfl) (by kernel_rfl) (fun _ _ _ h => h) (by kernel_rfl) (by kernel_rfl) (fun w => by kernel_rfl) ?_
    simp only [Act.put, List.setIfInBounds_toArray, List.set_cons_zero, List.set_cons_succ]
    refine anyT 7 (i := 9) (v := .int .i64 ((v4 * 256 + v5 : Nat) : Int)) rfl (by kernel_rfl) (by kernel_rfl) (by kernel_rfl) (fun _ _ _ h => h) (by kernel_rfl) (by kernel_rfl) (fun w => by kernel_rfl) ?_
    simp only [Act.put, List.setIfInBounds_toArray, List.set_cons_zero, List.set_cons_succ]
    exact wpAny_done (by kernel_rfl) (hK _ _ _ _ _ _ _ _  x ⟨bx.os, bx.tape, bx.output, bx.size, bx.block⟩) _
  · rintro v x ⟨rfl, bx⟩
    simp only [Act.put, List.setIfInBounds_toArray, List.set_cons_zero, List.set_cons_succ]
    refine anyT 45 (i := 7) (v := .int .i64 ((v4 * 256 + v5 : Nat) : Int)) rfl (by kernel_rfl) (by kernel_rfl) (by kernel_rfl) (fun _ _ _ h => h) (by kernel_rfl) (by kernel_rfl) (fun w => ex_conv (x := .tmp 44) (s := 24) (t := 3) (by kernel_rfl) (by kernel_rfl) (cv243 _ (by omega) w)) ?_
    simp only [Act.put, List.setIfInBounds_toArray, List.set_cons_zero, List.set_cons_succ]
    refine any1 40 (i := 2) (by kernel_rfl) rfl (by kernel_rfl) (by kernel_rfl) (ex_load (x := .tmp 39) (t := 5) (by kernel_rfl) (by kernel_rfl) (ld5 (w := x) (by rw [bx.cell (by exact lb)]; exact q6))) ?_
    simp only [Act.put, List.setIfInBounds_toArray, List.set_cons_zero, List.set_cons_succ]
    refine anyT 6 (i := 8) (v := .int .u8 ((v6 : Nat) : Int)) rfl (by kernel_rfl) (by kernel_rfl) (by kernel_rfl) (fun _ _ _ h => h) (by kernel_rfl) (by kernel_rfl) (fun w => by kernel_rfl) ?_
    simp only [Act.put, List.setIfInBounds_toArray, List.set_cons_zero, List.set_cons_succ]
    refine anyT 7 (i := 9) (v := .int .i64 ((v4 * 256 + v5 : Nat) : Int)) rfl (by kernel_rfl) (by kernel_rfl) (by kernel_rfl) (fun _ _ _ h => h) (by kernel_rfl) (by kernel_rfl) (fun w => by kernel_rfl) ?_
    simp only [Act.put, List.setIfInBounds_toArray, List.set_cons_zero, List.set_cons_succ]
    exact wpAny_done (by kernel_rfl) (hK _ _ _ _ _ _ _ _  x ⟨bx.os, bx.tape, bx.output, bx.size, bx.block⟩) _
end Go.Proofs.YbulkblsgFmt

import Derived.Test.YbulkblsgFmtBdc2
namespace Go.Proofs.YbulkblsgFmt
open Go.RowKit Go.Extern.Stop Go.Stop Go.Extern
set_option linter.unusedVariables false
set_option linter.unusedSimpArgs false

set_option maxRecDepth 100000 in
set_option maxHeartbeats 1000000 in
theorem d18 (F : Interp) (h1 l1 : Int) (p : Option Addr) (h2 l2 : Int) (q t : Option Addr) (tn tc : Nat) (len : Int) (B N N5 : Nat) (w wa : World) (old : Array Value) (hb : Below B w wa) (hB : B ≤ N) (hN : wa.heap[N]? = some (.cells old 67 (0, 0))) (hold : old.size = 8) (h5 : wa.heap[N5]? = some (.cells (pkt h1 l1 p h2 l2 q t tn tc len) 67 (0, 0))) (hF : F.answers wa.tape) {x0 x1 x3 x4 x6 x7 x8 x9 x10 x11 x12 x13 x14 x15 x16 x17 x18 x19 x20 x21 x22 x23 x24 x25 x26 x27 x28 x29 x30 x31 x32 x33 x34 x35 x36 x37 x38 x39 x40 x41 x42 x43 x44 x45 x46 x47 x48 x49 x50 x51 x52 x53 x54 x55 x56 x57 x58 x59 x60 x61 x62 x63 x64 x65 x66 x67 x68 x69 x70 x71 x72 x73 x74 x75 x76 x77 x78 x79 x80 x81 x82 x83 x84 x85 x86 x87 x88 x89 x90 x91 x92 x93 x94 x95 x96 x97 x98 x99 x100 x101 x102 x103 x104 x105 x106 x107 x108 x109 x110 x111 x112 x113 x114 x115 x116 x117 x118 x119 x120 x121 x122 x123 x124 x125 x126 x127 x128 x129 x130 x131 x132 x133 x134 x135 x136 x137 x138 x139 x140 x141 x142 x143 x144 x145 x146 x147 : Value} (K : Act → World → Prop)
    (hK : ∀ (y59 y60 : Value) (er : Value) (wy : World), wy.heap[N]? = some (.cells (pkt h1 l1 p h2 l2 q t tn tc len) 67 (0, 0)) → Below B w wy → newE wa.heap.size wy er → K { tmps := #[x0, x1, .pointer (some ⟨N, 0, none⟩), .bool false, er, .pointer (some ⟨N5, 0, none⟩), x6, x7, x8, x9, x10, x11, x12, x13, x14, x15, x16, x17, x18, x19, x20, x21, x22, x23, x24, x25, x26, x27, x28, x29, x30, x31, x32, x33, x34, x35, x36, x37, x38, x39, x40, x41, x42, x43, x44, x45, x46, x47, x48, x49, x50, x51, x52, x53, x54, x55, x56, x57, x58, y59, y60, x61, x62, x63, x64, x65, x66, x67, x68, x69, x70, x71, x72, x73, x74, x75, x76, x77, x78, x79, x80, x81, x82, x83, x84, x85, x86, x87, x88, x89, x90, x91, x92, x93, x94, x95, x96, x97, x98, x99, x100, x101, x102, x103, x104, x105, x106, x107, x108, x109, x110, x111, x112, x113, x114, x115, x116, x117, x118, x119, x120, x121, x122, x123, x124, x125, x126, x127, x128, x129, x130, x131, x132, x133, x134, x135, x136, x137, x138, x139, x140, x141, x142, x143, x144, x145, x146, x147], defers := [] } (wy)) :
    Code.wp Ybaf.prog (headC (thnC (tailC (headC (thnC (tailC dS)))))) (only K) { tmps := #[x0, x1, .pointer (some ⟨N, 0, none⟩), x3, x4, .pointer (some ⟨N5, 0, none⟩), x6, x7, x8, x9, x10, x11, x12, x13, x14, x15, x16, x17, x18, x19, x20, x21, x22, x23, x24, x25, x26, x27, x28, x29, x30, x31, x32, x33, x34, x35, x36, x37, x38, x39, x40, x41, x42, x43, x44, x45, x46, x47, x48, x49, x50, x51, x52, x53, x54, x55, x56, x57, x58, x59, x60, x61, x62, x63, x64, x65, x66, x67, x68, x69, x70, x71, x72, x73, x74, x75, x76, x77, x78, x79, x80, x81, x82, x83, x84, x85, x86, x87, x88, x89, x90, x91, x92, x93, x94, x95, x96, x97, x98, x99, x100, x101, x102, x103, x104, x105, x106, x107, x108, x109, x110, x111, x112, x113, x114, x115, x116, x117, x118, x119, x120, x121, x122, x123, x124, x125, x126, x127, x128, x129, x130, x131, x132, x133, x134, x135, x136, x137, x138, x139, x140, x141, x142, x143, x144, x145, x146, x147], defers := [] } wa := by
  have lN : N < wa.heap.size := (Array.getElem?_eq_some_iff.1 hN).1
  have l5 : N5 < wa.heap.size := (Array.getElem?_eq_some_iff.1 h5).1
  simp only [d14, dL, dX, dS, dT, Ybaf.f14, Option.getD, dropC, headC, tailC, blkC, lupC, thnC, elsC]
  refine wp_region_any (by kernel_rfl) ?_
  change wpAny _ _ _ _ _ _ _ (World.drew _)
  refine any2c' 59 60 (i := 0) (j := 1) (f := 27) (args := #[.string ⟨#[73, 80, 118, 54, 32, 101, 120, 116, 101, 110, 115, 105, 111, 110]⟩]) (by kernel_rfl) rfl rfl (by kernel_rfl) (by kernel_rfl) (by kernel_rfl) (by kernel_rfl) (by kernel_rfl) (cutR (w := wa.drew) (by exact hF)) (ex_load (x := .tmp 5) (t := 67) (by kernel_rfl) (by kernel_rfl) (ld67 (w := wa.drew) h5)) ?_ ?_
  · skip
    simp only [Act.put, List.setIfInBounds_toArray, List.set_cons_zero, List.set_cons_succ]
    refine any1c 60 (i := 1) (f := 27) (args := #[.string ⟨#[73, 80, 118, 54, 32, 101, 120, 116, 101, 110, 115, 105, 111, 110]⟩]) (by kernel_rfl) rfl (by kernel_rfl) (by kernel_rfl) (by kernel_rfl) (cutR (w := wa.drew) (by exact hF)) ?_
    rintro er x ⟨he, bx⟩
    simp only [Act.put, List.setIfInBounds_toArray, List.set_cons_zero, List.set_cons_succ]
    have rx : x.heap[N]? = some (.cells old 67 (0, 0)) := by rw [bx.block _ lN]; exact hN
    refine any1s (i := 2) (x := .tmp 2) (y := .tmp 59) (t := 67) (by kernel_rfl) rfl (by kernel_rfl) (by kernel_rfl) (by kernel_rfl) (by kernel_rfl) (by kernel_rfl) (st67 (h1 := h1) (l1 := l1) (p := p) (h2 := h2) (l2 := l2) (q := q) (t := t) (tn := tn) (tc := tc) (len := len) rx hold) ?_
    refine any1k 3 (.bool false) (i := 3) (by kernel_rfl) rfl (by kernel_rfl) (by kernel_rfl) (by kernel_rfl) ?_
    simp only [Act.put, List.setIfInBounds_toArray, List.set_cons_zero, List.set_cons_succ]
    refine any1k 4 (er) (i := 4) (by kernel_rfl) rfl (by kernel_rfl) (by kernel_rfl) (by kernel_rfl) ?_
    simp only [Act.put, List.setIfInBounds_toArray, List.set_cons_zero, List.set_cons_succ]
    exact wpAny_done (by kernel_rfl) (hK _ _  er _ (row_stored rx (by rw [hold]; rfl)) (below_setRow (hb.trans (below_le (⟨bx.os, bx.tape, bx.output, bx.size, bx.block⟩ : Below wa.heap.size wa x) (by omega))) hB _) (newE_set he lN)) _
  · rintro er x ⟨he, bx⟩
    simp only [Act.put, List.setIfInBounds_toArray, List.set_cons_zero, List.set_cons_succ]
    have rx : x.heap[N]? = some (.cells old 67 (0, 0)) := by rw [bx.block _ lN]; exact hN
    refine any1 59 (i := 0) (by kernel_rfl) rfl (by kernel_rfl) (by kernel_rfl) (ex_load (x := .tmp 5) (t := 67) (by kernel_rfl) (by kernel_rfl) (ld67 (w := x) (by rw [bx.block _ l5]; exact h5))) ?_
    simp only [Act.put, List.setIfInBounds_toArray, List.set_cons_zero, List.set_cons_succ]
    refine any1s (i := 2) (x := .tmp 2) (y := .tmp 59) (t := 67) (by kernel_rfl) rfl (by kernel_rfl) (by kernel_rfl) (by kernel_rfl) (by kernel_rfl) (by kernel_rfl) (st67 (h1 := h1) (l1 := l1) (p := p) (h2 := h2) (l2 := l2) (q := q) (t := t) (tn := tn) (tc := tc) (len := len) rx hold) ?_
    refine any1k 3 (.bool false) (i := 3) (by kernel_rfl) rfl (by kernel_rfl) (by kernel_rfl) (by kernel_rfl) ?_
    simp only [Act.put, List.setIfInBounds_toArray, List.set_cons_zero, List.set_cons_succ]
    refine any1k 4 (er) (i := 4) (by kernel_rfl) rfl (by kernel_rfl) (by kernel_rfl) (by kernel_rfl) ?_
    simp only [Act.put, List.setIfInBounds_toArray, List.set_cons_zero, List.set_cons_succ]
    exact wpAny_done (by kernel_rfl) (hK _ _  er _ (row_stored rx (by rw [hold]; rfl)) (below_setRow (hb.trans (below_le (⟨bx.os, bx.tape, bx.output, bx.size, bx.block⟩ : Below wa.heap.size wa x) (by omega))) hB _) (newE_set he lN)) _

set_option maxRecDepth 100000 in
set_option maxHeartbeats 1000000 in
theorem d22 (F : Interp) (h1 l1 : Int) (p : Option Addr) (h2 l2 : Int) (q t : Option Addr) (tn tc : Nat) (len : Int) (B N N5 : Nat) (w wa : World) (old : Array Value) (hb : Below B w wa) (hB : B ≤ N) (hN : wa.heap[N]? = some (.cells old 67 (0, 0))) (hold : old.size = 8) (h5 : wa.heap[N5]? = some (.cells (pkt h1 l1 p h2 l2 q t tn tc len) 67 (0, 0))) (hF : F.answers wa.tape) {x0 x1 x3 x4 x6 x7 x8 x9 x10 x11 x12 x13 x14 x15 x16 x17 x18 x19 x20 x21 x22 x23 x24 x25 x26 x27 x28 x29 x30 x31 x32 x33 x34 x35 x36 x37 x38 x39 x40 x41 x42 x43 x44 x45 x46 x47 x48 x49 x50 x51 x52 x53 x54 x55 x56 x57 x58 x59 x60 x61 x62 x63 x64 x65 x66 x67 x68 x69 x70 x71 x72 x73 x74 x75 x76 x77 x78 x79 x80 x81 x82 x83 x84 x85 x86 x87 x88 x89 x90 x91 x92 x93 x94 x95 x96 x97 x98 x99 x100 x101 x102 x103 x104 x105 x106 x107 x108 x109 x110 x111 x112 x113 x114 x115 x116 x117 x118 x119 x120 x121 x122 x123 x124 x125 x126 x127 x128 x129 x130 x131 x132 x133 x134 x135 x136 x137 x138 x139 x140 x141 x142 x143 x144 x145 x146 x147 : Value} (K : Act → World → Prop)
    (hK : ∀ (y76 y77 : Value) (er : Value) (wy : World), wy.heap[N]? = some (.cells (pkt h1 l1 p h2 l2 q t tn tc len) 67 (0, 0)) → Below B w wy → newE wa.heap.size wy er → K { tmps := #[x0, x1, .pointer (some ⟨N, 0, none⟩), .bool false, er, .pointer (some ⟨N5, 0, none⟩), x6, x7, x8, x9, x10, x11, x12, x13, x14, x15, x16, x17, x18, x19, x20, x21, x22, x23, x24, x25, x26, x27, x28, x29, x30, x31, x32, x33, x34, x35, x36, x37, x38, x39, x40, x41, x42, x43, x44, x45, x46, x47, x48, x49, x50, x51, x52, x53, x54, x55, x56, x57, x58, x59, x60, x61, x62, x63, x64, x65, x66, x67, x68, x69, x70, x71, x72, x73, x74, x75, y76, y77, x78, x79, x80, x81, x82, x83, x84, x85, x86, x87, x88, x89, x90, x91, x92, x93, x94, x95, x96, x97, x98, x99, x100, x101, x102, x103, x104, x105, x106, x107, x108, x109, x110, x111, x112, x113, x114, x115, x116, x117, x118, x119, x120, x121, x122, x123, x124, x125, x126, x127, x128, x129, x130, x131, x132, x133, x134, x135, x136, x137, x138, x139, x140, x141, x142, x143, x144, x145, x146, x147], defers := [] } (wy)) :
    Code.wp Ybaf.prog (headC (thnC (tailC (headC (thnC (tailC (elsC (tailC dS)))))))) (only K) { tmps := #[x0, x1, .pointer (some ⟨N, 0, none⟩), x3, x4, .pointer (some ⟨N5, 0, none⟩), x6, x7, x8, x9, x10, x11, x12, x13, x14, x15, x16, x17, x18, x19, x20, x21, x22, x23, x24, x25, x26, x27, x28, x29, x30, x31, x32, x33, x34, x35, x36, x37, x38, x39, x40, x41, x42, x43, x44, x45, x46, x47, x48, x49, x50, x51, x52, x53, x54, x55, x56, x57, x58, x59, x60, x61, x62, x63, x64, x65, x66, x67, x68, x69, x70, x71, x72, x73, x74, x75, x76, x77, x78, x79, x80, x81, x82, x83, x84, x85, x86, x87, x88, x89, x90, x91, x92, x93, x94, x95, x96, x97, x98, x99, x100, x101, x102, x103, x104, x105, x106, x107, x108, x109, x110, x111, x112, x113, x114, x115, x116, x117, x118, x119, x120, x121, x122, x123, x124, x125, x126, x127, x128, x129, x130, x131, x132, x133, x134, x135, x136, x137, x138, x139, x140, x141, x142, x143, x144, x145, x146, x147], defers := [] } wa := by
  have lN : N < wa.heap.size := (Array.getElem?_eq_some_iff.1 hN).1
  have l5 : N5 < wa.heap.size := (Array.getElem?_eq_some_iff.1 h5).1
  simp only [d14, dL, dX, dS, dT, Ybaf.f14, Option.getD, dropC, headC, tailC, blkC, lupC, thnC, elsC]
  refine wp_region_any (by kernel_rfl) ?_
  change wpAny _ _ _ _ _ _ _ (World.drew _)
  refine any2c' 76 77 (i := 0) (j := 1) (f := 27) (args := #[.string ⟨#[73, 80, 118, 54, 32, 101, 120, 116, 101, 110, 115, 105, 111, 110]⟩]) (by kernel_rfl) rfl rfl (by kernel_rfl) (by kernel_rfl) (by kernel_rfl) (by kernel_rfl) (by kernel_rfl) (cutR (w := wa.drew) (by exact hF)) (ex_load (x := .tmp 5) (t := 67) (by kernel_rfl) (by kernel_rfl) (ld67 (w := wa.drew) h5)) ?_ ?_
  · skip
    simp only [Act.put, List.setIfInBounds_toArray, List.set_cons_zero, List.set_cons_succ]
    refine any1c 77 (i := 1) (f := 27) (args := #[.string ⟨#[73, 80, 118, 54, 32, 101, 120, 116, 101, 110, 115, 105, 111, 110]⟩]) (by kernel_rfl) rfl (by kernel_rfl) (by kernel_rfl) (by kernel_rfl) (cutR (w := wa.drew) (by exact hF)) ?_
    rintro er x ⟨he, bx⟩
    simp only [Act.put, List.setIfInBounds_toArray, List.set_cons_zero, List.set_cons_succ]
    have rx : x.heap[N]? = some (.cells old 67 (0, 0)) := by rw [bx.block _ lN]; exact hN
    refine any1s (i := 2) (x := .tmp 2) (y := .tmp 76) (t := 67) (by kernel_rfl) rfl (by kernel_rfl) (by kernel_rfl) (by kernel_rfl) (by kernel_rfl) (by kernel_rfl) (st67 (h1 := h1) (l1 := l1) (p := p) (h2 := h2) (l2 := l2) (q := q) (t := t) (tn := tn) (tc := tc) (len := len) rx hold) ?_
    refine any1k 3 (.bool false) (i := 3) (by kernel_rfl) rfl (by kernel_rfl) (by kernel_rfl) (by kernel_rfl) ?_
    simp only [Act.put, List.setIfInBounds_toArray, List.set_cons_zero, List.set_cons_succ]
    refine any1k 4 (er) (i := 4) (by kernel_rfl) rfl (by kernel_rfl) (by kernel_rfl) (by kernel_rfl) ?_
    simp only [Act.put, List.setIfInBounds_toArray, List.set_cons_zero, List.set_cons_succ]
    exact wpAny_done (by kernel_rfl) (hK _ _  er _ (row_stored rx (by rw [hold]; rfl)) (below_setRow (hb.trans (below_le (⟨bx.os, bx.tape, bx.output, bx.size, bx.block⟩ : Below wa.heap.size wa x) (by omega))) hB _) (newE_set he lN)) _
  · rintro er x ⟨he, bx⟩
    simp only [Act.put, List.setIfInBounds_toArray, List.set_cons_zero, List.set_cons_succ]
    have rx : x.heap[N]? = some (.cells old 67 (0, 0)) := by rw [bx.block _ lN]; exact hN
    refine any1 76 (i := 0) (by kernel_rfl) rfl (by kernel_rfl) (by kernel_rfl) (ex_load (x := .tmp 5) (t := 67) (by kernel_rfl) (by kernel_rfl) (ld67 (w := x) (by rw [bx.block _ l5]; exact h5))) ?_
    simp only [Act.put, List.setIfInBounds_toArray, List.set_cons_zero, List.set_cons_succ]
    refine any1s (i := 2) (x := .tmp 2) (y := .tmp 76) (t := 67) (by kernel_rfl) rfl (by kernel_rfl) (by kernel_rfl) (by kernel_rfl) (by kernel_rfl) (by kernel_rfl) (st67 (h1 := h1) (l1 := l1) (p := p) (h2 := h2) (l2 := l2) (q := q) (t := t) (tn := tn) (tc := tc) (len := len) rx hold) ?_
    refine any1k 3 (.bool false) (i := 3) (by kernel_rfl) rfl (by kernel_rfl) (by kernel_rfl) (by kernel_rfl) ?_
    simp only [Act.put, List.setIfInBounds_toArray, List.set_cons_zero, List.set_cons_succ]
    refine any1k 4 (er) (i := 4) (by kernel_rfl) rfl (by kernel_rfl) (by kernel_rfl) (by kernel_rfl) ?_
    simp only [Act.put, List.setIfInBounds_toArray, List.set_cons_zero, List.set_cons_succ]
    exact wpAny_done (by kernel_rfl) (hK _ _  er _ (row_stored rx (by rw [hold]; rfl)) (below_setRow (hb.trans (below_le (⟨bx.os, bx.tape, bx.output, bx.size, bx.block⟩ : Below wa.heap.size wa x) (by omega))) hB _) (newE_set he lN)) _

set_option maxRecDepth 100000 in
set_option maxHeartbeats 1000000 in
theorem d26 (F : Interp) (h1 l1 : Int) (p : Option Addr) (h2 l2 : Int) (q t : Option Addr) (tn tc : Nat) (len : Int) (B N N5 : Nat) (w wa : World) (old : Array Value) (hb : Below B w wa) (hB : B ≤ N) (hN : wa.heap[N]? = some (.cells old 67 (0, 0))) (hold : old.size = 8) (h5 : wa.heap[N5]? = some (.cells (pkt h1 l1 p h2 l2 q t tn tc len) 67 (0, 0))) (hF : F.answers wa.tape) {x0 x1 x3 x4 x6 x7 x8 x9 x10 x11 x12 x13 x14 x15 x16 x17 x18 x19 x20 x21 x22 x23 x24 x25 x26 x27 x28 x29 x30 x31 x32 x33 x34 x35 x36 x37 x38 x39 x40 x41 x42 x43 x44 x45 x46 x47 x48 x49 x50 x51 x52 x53 x54 x55 x56 x57 x58 x59 x60 x61 x62 x63 x64 x65 x66 x67 x68 x69 x70 x71 x72 x73 x74 x75 x76 x77 x78 x79 x80 x81 x82 x83 x84 x85 x86 x87 x88 x89 x90 x91 x92 x93 x94 x95 x96 x97 x98 x99 x100 x101 x102 x103 x104 x105 x106 x107 x108 x109 x110 x111 x112 x113 x114 x115 x116 x117 x118 x119 x120 x121 x122 x123 x124 x125 x126 x127 x128 x129 x130 x131 x132 x133 x134 x135 x136 x137 x138 x139 x140 x141 x142 x143 x144 x145 x146 x147 : Value} (K : Act → World → Prop)
    (hK : ∀ (y93 y94 : Value) (er : Value) (wy : World), wy.heap[N]? = some (.cells (pkt h1 l1 p h2 l2 q t tn tc len) 67 (0, 0)) → Below B w wy → newE wa.heap.size wy er → K { tmps := #[x0, x1, .pointer (some ⟨N, 0, none⟩), .bool false, er, .pointer (some ⟨N5, 0, none⟩), x6, x7, x8, x9, x10, x11, x12, x13, x14, x15, x16, x17, x18, x19, x20, x21, x22, x23, x24, x25, x26, x27, x28, x29, x30, x31, x32, x33, x34, x35, x36, x37, x38, x39, x40, x41, x42, x43, x44, x45, x46, x47, x48, x49, x50, x51, x52, x53, x54, x55, x56, x57, x58, x59, x60, x61, x62, x63, x64, x65, x66, x67, x68, x69, x70, x71, x72, x73, x74, x75, x76, x77, x78, x79, x80, x81, x82, x83, x84, x85, x86, x87, x88, x89, x90, x91, x92, y93, y94, x95, x96, x97, x98, x99, x100, x101, x102, x103, x104, x105, x106, x107, x108, x109, x110, x111, x112, x113, x114, x115, x116, x117, x118, x119, x120, x121, x122, x123, x124, x125, x126, x127, x128, x129, x130, x131, x132, x133, x134, x135, x136, x137, x138, x139, x140, x141, x142, x143, x144, x145, x146, x147], defers := [] } (wy)) :
    Code.wp Ybaf.prog (headC (thnC (tailC (headC (thnC (tailC (elsC (tailC (elsC (tailC dS)))))))))) (only K) { tmps := #[x0, x1, .pointer (some ⟨N, 0, none⟩), x3, x4, .pointer (some ⟨N5, 0, none⟩), x6, x7, x8, x9, x10, x11, x12, x13, x14, x15, x16, x17, x18, x19, x20, x21, x22, x23, x24, x25, x26, x27, x28, x29, x30, x31, x32, x33, x34, x35, x36, x37, x38, x39, x40, x41, x42, x43, x44, x45, x46, x47, x48, x49, x50, x51, x52, x53, x54, x55, x56, x57, x58, x59, x60, x61, x62, x63, x64, x65, x66, x67, x68, x69, x70, x71, x72, x73, x74, x75, x76, x77, x78, x79, x80, x81, x82, x83, x84, x85, x86, x87, x88, x89, x90, x91, x92, x93, x94, x95, x96, x97, x98, x99, x100, x101, x102, x103, x104, x105, x106, x107, x108, x109, x110, x111, x112, x113, x114, x115, x116, x117, x118, x119, x120, x121, x122, x123, x124, x125, x126, x127, x128, x129, x130, x131, x132, x133, x134, x135, x136, x137, x138, x139, x140, x141, x142, x143, x144, x145, x146, x147], defers := [] } wa := by
  have lN : N < wa.heap.size := (Array.getElem?_eq_some_iff.1 hN).1
  have l5 : N5 < wa.heap.size := (Array.getElem?_eq_some_iff.1 h5).1
  simp only [d14, dL, dX, dS, dT, Ybaf.f14, Option.getD, dropC, headC, tailC, blkC, lupC, thnC, elsC]
  refine wp_region_any (by kernel_rfl) ?_
  change wpAny _ _ _ _ _ _ _ (World.drew _)
  refine any2c' 93 94 (i := 0) (j := 1) (f := 27) (args := #[.string ⟨#[73, 80, 118, 54, 32, 102, 114, 97, 103, 109, 101, 110, 116]⟩]) (by kernel_rfl) rfl rfl (by kernel_rfl) (by kernel_rfl) (by kernel_rfl) (by kernel_rfl) (by kernel_rfl) (cutR (w := wa.drew) (by exact hF)) (ex_load (x := .tmp 5) (t := 67) (by kernel_rfl) (by kernel_rfl) (ld67 (w := wa.drew) h5)) ?_ ?_
  · skip
    simp only [Act.put, List.setIfInBounds_toArray, List.set_cons_zero, List.set_cons_succ]
    refine any1c 94 (i := 1) (f := 27) (args := #[.string ⟨#[73, 80, 118, 54, 32, 102, 114, 97, 103, 109, 101, 110, 116]⟩]) (by kernel_rfl) rfl (by kernel_rfl) (by kernel_rfl) (by kernel_rfl) (cutR (w := wa.drew) (by exact hF)) ?_
    rintro er x ⟨he, bx⟩
    simp only [Act.put, List.setIfInBounds_toArray, List.set_cons_zero, List.set_cons_succ]
    have rx : x.heap[N]? = some (.cells old 67 (0, 0)) := by rw [bx.block _ lN]; exact hN
    refine any1s (i := 2) (x := .tmp 2) (y := .tmp 93) (t := 67) (by kernel_rfl) rfl (by kernel_rfl) (by kernel_rfl) (by kernel_rfl) (by kernel_rfl) (by kernel_rfl) (st67 (h1 := h1) (l1 := l1) (p := p) (h2 := h2) (l2 := l2) (q := q) (t := t) (tn := tn) (tc := tc) (len := len) rx hold) ?_
    refine any1k 3 (.bool false) (i := 3) (by kernel_rfl) rfl (by kernel_rfl) (by kernel_rfl) (by kernel_rfl) ?_
    simp only [Act.put, List.setIfInBounds_toArray, List.set_cons_zero, List.set_cons_succ]
    refine any1k 4 (er) (i := 4) (by kernel_rfl) rfl (by kernel_rfl) (by kernel_rfl) (by kernel_rfl) ?_
    simp only [Act.put, List.setIfInBounds_toArray, List.set_cons_zero, List.set_cons_succ]
    exact wpAny_done (by kernel_rfl) (hK _ _  er _ (row_stored rx (by rw [hold]; rfl)) (below_setRow (hb.trans (below_le (⟨bx.os, bx.tape, bx.output, bx.size, bx.block⟩ : Below wa.heap.size wa x) (by omega))) hB _) (newE_set he lN)) _
  · rintro er x ⟨he, bx⟩
    simp only [Act.put, List.setIfInBounds_toArray, List.set_cons_zero, List.set_cons_succ]
    have rx : x.heap[N]? = some (.cells old 67 (0, 0)) := by rw [bx.block _ lN]; exact hN
    refine any1 93 (i := 0) (by kernel_rfl) rfl (by kernel_rfl) (by kernel_rfl) (ex_load (x := .tmp 5) (t := 67) (by kernel_rfl) (by kernel_rfl) (ld67 (w := x) (by rw [bx.block _ l5]; exact h5))) ?_
    simp only [Act.put, List.setIfInBounds_toArray, List.set_cons_zero, List.set_cons_succ]
    refine any1s (i := 2) (x := .tmp 2) (y := .tmp 93) (t := 67) (by kernel_rfl) rfl (by kernel_rfl) (by kernel_rfl) (by kernel_rfl) (by kernel_rfl) (by kernel_rfl) (st67 (h1 := h1) (l1 := l1) (p := p) (h2 := h2) (l2 := l2) (q := q) (t := t) (tn := tn) (tc := tc) (len := len) rx hold) ?_
    refine any1k 3 (.bool false) (i := 3) (by kernel_rfl) rfl (by kernel_rfl) (by kernel_rfl) (by kernel_rfl) ?_
    simp only [Act.put, List.setIfInBounds_toArray, List.set_cons_zero, List.set_cons_succ]
    refine any1k 4 (er) (i := 4) (by kernel_rfl) rfl (by kernel_rfl) (by kernel_rfl) (by kernel_rfl) ?_
    simp only [Act.put, List.setIfInBounds_toArray, List.set_cons_zero, List.set_cons_succ]
    exact wpAny_done (by kernel_rfl) (hK _ _  er _ (row_stored rx (by rw [hold]; rfl)) (below_setRow (hb.trans (below_le (⟨bx.os, bx.tape, bx.output, bx.size, bx.block⟩ : Below wa.heap.size wa x) (by omega))) hB _) (newE_set he lN)) _

set_option maxRecDepth 100000 in
set_option maxHeartbeats 1000000 in
theorem d42 (F : Interp) (h1 l1 : Int) (p : Option Addr) (h2 l2 : Int) (q t : Option Addr) (tn tc : Nat) (len : Int) (B N N5 : Nat) (w wa : World) (old : Array Value) (hb : Below B w wa) (hB : B ≤ N) (hN : wa.heap[N]? = some (.cells old 67 (0, 0))) (hold : old.size = 8) (h5 : wa.heap[N5]? = some (.cells (pkt h1 l1 p h2 l2 q t tn tc len) 67 (0, 0))) (hF : F.answers wa.tape) {x0 x1 x3 x4 x6 x7 x8 x9 x10 x11 x12 x13 x14 x15 x16 x17 x18 x19 x20 x21 x22 x23 x24 x25 x26 x27 x28 x29 x30 x31 x32 x33 x34 x35 x36 x37 x38 x39 x40 x41 x42 x43 x44 x45 x46 x47 x48 x49 x50 x51 x52 x53 x54 x55 x56 x57 x58 x59 x60 x61 x62 x63 x64 x65 x66 x67 x68 x69 x70 x71 x72 x73 x74 x75 x76 x77 x78 x79 x80 x81 x82 x83 x84 x85 x86 x87 x88 x89 x90 x91 x92 x93 x94 x95 x96 x97 x98 x99 x100 x101 x102 x103 x104 x105 x106 x107 x108 x109 x110 x111 x112 x113 x114 x115 x116 x117 x118 x119 x120 x121 x122 x123 x124 x125 x126 x127 x128 x129 x130 x131 x132 x133 x134 x135 x136 x137 x138 x139 x140 x141 x142 x143 x144 x145 x146 x147 : Value} (K : Act → World → Prop)
    (hK : ∀ (y143 y144 : Value) (er : Value) (wy : World), wy.heap[N]? = some (.cells (pkt h1 l1 p h2 l2 q t tn tc len) 67 (0, 0)) → Below B w wy → newE wa.heap.size wy er → K { tmps := #[x0, x1, .pointer (some ⟨N, 0, none⟩), .bool false, er, .pointer (some ⟨N5, 0, none⟩), x6, x7, x8, x9, x10, x11, x12, x13, x14, x15, x16, x17, x18, x19, x20, x21, x22, x23, x24, x25, x26, x27, x28, x29, x30, x31, x32, x33, x34, x35, x36, x37, x38, x39, x40, x41, x42, x43, x44, x45, x46, x47, x48, x49, x50, x51, x52, x53, x54, x55, x56, x57, x58, x59, x60, x61, x62, x63, x64, x65, x66, x67, x68, x69, x70, x71, x72, x73, x74, x75, x76, x77, x78, x79, x80, x81, x82, x83, x84, x85, x86, x87, x88, x89, x90, x91, x92, x93, x94, x95, x96, x97, x98, x99, x100, x101, x102, x103, x104, x105, x106, x107, x108, x109, x110, x111, x112, x113, x114, x115, x116, x117, x118, x119, x120, x121, x122, x123, x124, x125, x126, x127, x128, x129, x130, x131, x132, x133, x134, x135, x136, x137, x138, x139, x140, x141, x142, y143, y144, x145, x146, x147], defers := [] } (wy)) :
    Code.wp Ybaf.prog (headC (thnC (tailC (elsC (tailC (elsC (tailC dT))))))) (only K) { tmps := #[x0, x1, .pointer (some ⟨N, 0, none⟩), x3, x4, .pointer (some ⟨N5, 0, none⟩), x6, x7, x8, x9, x10, x11, x12, x13, x14, x15, x16, x17, x18, x19, x20, x21, x22, x23, x24, x25, x26, x27, x28, x29, x30, x31, x32, x33, x34, x35, x36, x37, x38, x39, x40, x41, x42, x43, x44, x45, x46, x47, x48, x49, x50, x51, x52, x53, x54, x55, x56, x57, x58, x59, x60, x61, x62, x63, x64, x65, x66, x67, x68, x69, x70, x71, x72, x73, x74, x75, x76, x77, x78, x79, x80, x81, x82, x83, x84, x85, x86, x87, x88, x89, x90, x91, x92, x93, x94, x95, x96, x97, x98, x99, x100, x101, x102, x103, x104, x105, x106, x107, x108, x109, x110, x111, x112, x113, x114, x115, x116, x117, x118, x119, x120, x121, x122, x123, x124, x125, x126, x127, x128, x129, x130, x131, x132, x133, x134, x135, x136, x137, x138, x139, x140, x141, x142, x143, x144, x145, x146, x147], defers := [] } wa := by
  have lN : N < wa.heap.size := (Array.getElem?_eq_some_iff.1 hN).1
  have l5 : N5 < wa.heap.size := (Array.getElem?_eq_some_iff.1 h5).1
  simp only [d14, dL, dX, dS, dT, Ybaf.f14, Option.getD, dropC, headC, tailC, blkC, lupC, thnC, elsC]
  refine wp_region_any (by kernel_rfl) ?_
  change wpAny _ _ _ _ _ _ _ (World.drew _)
  refine any2c' 143 144 (i := 0) (j := 1) (f := 27) (args := #[.string ⟨#[73, 80, 118, 54, 32, 101, 120, 116, 101, 110, 115, 105, 111, 110]⟩]) (by kernel_rfl) rfl rfl (by kernel_rfl) (by kernel_rfl) (by kernel_rfl) (by kernel_rfl) (by kernel_rfl) (cutR (w := wa.drew) (by exact hF)) (ex_load (x := .tmp 5) (t := 67) (by kernel_rfl) (by kernel_rfl) (ld67 (w := wa.drew) h5)) ?_ ?_
  · skip
    simp only [Act.put, List.setIfInBounds_toArray, List.set_cons_zero, List.set_cons_succ]
    refine any1c 144 (i := 1) (f := 27) (args := #[.string ⟨#[73, 80, 118, 54, 32, 101, 120, 116, 101, 110, 115, 105, 111, 110]⟩]) (by kernel_rfl) rfl (by kernel_rfl) (by kernel_rfl) (by kernel_rfl) (cutR (w := wa.drew) (by exact hF)) ?_
    rintro er x ⟨he, bx⟩
    simp only [Act.put, List.setIfInBounds_toArray, List.set_cons_zero, List.set_cons_succ]
    have rx : x.heap[N]? = some (.cells old 67 (0, 0)) := by rw [bx.block _ lN]; exact hN
    refine any1s (i := 2) (x := .tmp 2) (y := .tmp 143) (t := 67) (by kernel_rfl) rfl (by kernel_rfl) (by kernel_rfl) (by kernel_rfl) (by kernel_rfl) (by kernel_rfl) (st67 (h1 := h1) (l1 := l1) (p := p) (h2 := h2) (l2 := l2) (q := q) (t := t) (tn := tn) (tc := tc) (len := len) rx hold) ?_
    refine any1k 3 (.bool false) (i := 3) (by kernel_rfl) rfl (by kernel_rfl) (by kernel_rfl) (by kernel_rfl) ?_
    simp only [Act.put, List.setIfInBounds_toArray, List.set_cons_zero, List.set_cons_succ]
    refine any1k 4 (er) (i := 4) (by kernel_rfl) rfl (by kernel_rfl) (by kernel_rfl) (by kernel_rfl) ?_
    simp only [Act.put, List.setIfInBounds_toArray, List.set_cons_zero, List.set_cons_succ]
    exact wpAny_done (by kernel_rfl) (hK _ _  er _ (row_stored rx (by rw [hold]; rfl)) (below_setRow (hb.trans (below_le (⟨bx.os, bx.tape, bx.output, bx.size, bx.block⟩ : Below wa.heap.size wa x) (by omega))) hB _) (newE_set he lN)) _
  · rintro er x ⟨he, bx⟩
    simp only [Act.put, List.setIfInBounds_toArray, List.set_cons_zero, List.set_cons_succ]
    have rx : x.heap[N]? = some (.cells old 67 (0, 0)) := by rw [bx.block _ lN]; exact hN
    refine any1 143 (i := 0) (by kernel_rfl) rfl (by kernel_rfl) (by kernel_rfl) (ex_load (x := .tmp 5) (t := 67) (by kernel_rfl) (by kernel_rfl) (ld67 (w := x) (by rw [bx.block _ l5]; exact h5))) ?_
    simp only [Act.put, List.setIfInBounds_toArray, List.set_cons_zero, List.set_cons_succ]
    refine any1s (i := 2) (x := .tmp 2) (y := .tmp 143) (t := 67) (by kernel_rfl) rfl (by kernel_rfl) (by kernel_rfl) (by kernel_rfl) (by kernel_rfl) (by kernel_rfl) (st67 (h1 := h1) (l1 := l1) (p := p) (h2 := h2) (l2 := l2) (q := q) (t := t) (tn := tn) (tc := tc) (len := len) rx hold) ?_
    refine any1k 3 (.bool false) (i := 3) (by kernel_rfl) rfl (by kernel_rfl) (by kernel_rfl) (by kernel_rfl) ?_
    simp only [Act.put, List.setIfInBounds_toArray, List.set_cons_zero, List.set_cons_succ]
    refine any1k 4 (er) (i := 4) (by kernel_rfl) rfl (by kernel_rfl) (by kernel_rfl) (by kernel_rfl) ?_
    simp only [Act.put, List.setIfInBounds_toArray, List.set_cons_zero, List.set_cons_succ]
    exact wpAny_done (by kernel_rfl) (hK _ _  er _ (row_stored rx (by rw [hold]; rfl)) (below_setRow (hb.trans (below_le (⟨bx.os, bx.tape, bx.output, bx.size, bx.block⟩ : Below wa.heap.size wa x) (by omega))) hB _) (newE_set he lN)) _

set_option maxRecDepth 100000 in
set_option maxHeartbeats 1000000 in
theorem d38 (h1 l1 : Int) (p : Option Addr) (h2 l2 : Int) (q t : Option Addr) (tn tc : Nat) (len : Int) (B N N5 : Nat) (w wa : World) (old : Array Value) (hb : Below B w wa) (hB : B ≤ N) (hN : wa.heap[N]? = some (.cells old 67 (0, 0))) (hold : old.size = 8) (h5 : wa.heap[N5]? = some (.cells (pkt h1 l1 p h2 l2 q t tn tc len) 67 (0, 0))) {x0 x1 x3 x4 x6 x7 x8 x9 x10 x11 x12 x13 x14 x15 x16 x17 x18 x19 x20 x21 x22 x23 x24 x25 x26 x27 x28 x29 x30 x31 x32 x33 x34 x35 x36 x37 x38 x39 x40 x41 x42 x43 x44 x45 x46 x47 x48 x49 x50 x51 x52 x53 x54 x55 x56 x57 x58 x59 x60 x61 x62 x63 x64 x65 x66 x67 x68 x69 x70 x71 x72 x73 x74 x75 x76 x77 x78 x79 x80 x81 x82 x83 x84 x85 x86 x87 x88 x89 x90 x91 x92 x93 x94 x95 x96 x97 x98 x99 x100 x101 x102 x103 x104 x105 x106 x107 x108 x109 x110 x111 x112 x113 x114 x115 x116 x117 x118 x119 x120 x121 x122 x123 x124 x125 x126 x127 x128 x129 x130 x131 x132 x133 x134 x135 x136 x137 x138 x139 x140 x141 x142 x143 x144 x145 x146 x147 : Value} (K : Act → World → Prop)
    (hK : ∀ (y132 y133 : Value) (er : Value) (wy : World), wy.heap[N]? = some (.cells (pkt h1 l1 p h2 l2 q t tn tc len) 67 (0, 0)) → Below B w wy → newE wa.heap.size wy er → K { tmps := #[x0, x1, .pointer (some ⟨N, 0, none⟩), .bool false, er, .pointer (some ⟨N5, 0, none⟩), x6, x7, x8, x9, x10, x11, x12, x13, x14, x15, x16, x17, x18, x19, x20, x21, x22, x23, x24, x25, x26, x27, x28, x29, x30, x31, x32, x33, x34, x35, x36, x37, x38, x39, x40, x41, x42, x43, x44, x45, x46, x47, x48, x49, x50, x51, x52, x53, x54, x55, x56, x57, x58, x59, x60, x61, x62, x63, x64, x65, x66, x67, x68, x69, x70, x71, x72, x73, x74, x75, x76, x77, x78, x79, x80, x81, x82, x83, x84, x85, x86, x87, x88, x89, x90, x91, x92, x93, x94, x95, x96, x97, x98, x99, x100, x101, x102, x103, x104, x105, x106, x107, x108, x109, x110, x111, x112, x113, x114, x115, x116, x117, x118, x119, x120, x121, x122, x123, x124, x125, x126, x127, x128, x129, x130, x131, y132, y133, x134, x135, x136, x137, x138, x139, x140, x141, x142, x143, x144, x145, x146, x147], defers := [] } (wy)) :
    Code.wp Ybaf.prog (headC (thnC (tailC dT))) (only K) { tmps := #[x0, x1, .pointer (some ⟨N, 0, none⟩), x3, x4, .pointer (some ⟨N5, 0, none⟩), x6, x7, x8, x9, x10, x11, x12, x13, x14, x15, x16, x17, x18, x19, x20, x21, x22, x23, x24, x25, x26, x27, x28, x29, x30, x31, x32, x33, x34, x35, x36, x37, x38, x39, x40, x41, x42, x43, x44, x45, x46, x47, x48, x49, x50, x51, x52, x53, x54, x55, x56, x57, x58, x59, x60, x61, x62, x63, x64, x65, x66, x67, x68, x69, x70, x71, x72, x73, x74, x75, x76, x77, x78, x79, x80, x81, x82, x83, x84, x85, x86, x87, x88, x89, x90, x91, x92, x93, x94, x95, x96, x97, x98, x99, x100, x101, x102, x103, x104, x105, x106, x107, x108, x109, x110, x111, x112, x113, x114, x115, x116, x117, x118, x119, x120, x121, x122, x123, x124, x125, x126, x127, x128, x129, x130, x131, x132, x133, x134, x135, x136, x137, x138, x139, x140, x141, x142, x143, x144, x145, x146, x147], defers := [] } wa := by
  have lN : N < wa.heap.size := (Array.getElem?_eq_some_iff.1 hN).1
  have l5 : N5 < wa.heap.size := (Array.getElem?_eq_some_iff.1 h5).1
  simp only [d14, dL, dX, dS, dT, Ybaf.f14, Option.getD, dropC, headC, tailC, blkC, lupC, thnC, elsC]
  refine wp_region_any (by kernel_rfl) ?_
  change wpAny _ _ _ _ _ _ _ (World.drew _)
  refine any2c' 132 133 (i := 0) (j := 1) (f := 28) (args := #[.string ⟨#[73, 80, 118, 54, 32, 112, 97, 121, 108, 111, 97, 100, 32, 108, 101, 110, 103, 116, 104, 32, 115, 104, 111, 114, 116, 101, 114, 32, 116, 104, 97, 110, 32, 105, 116, 115, 32, 101, 120, 116, 101, 110, 115, 105, 111, 110, 32, 104, 101, 97, 100, 101, 114, 115]⟩]) (by kernel_rfl) rfl rfl (by kernel_rfl) (by kernel_rfl) (by kernel_rfl) (by kernel_rfl) (by kernel_rfl) (newR (w := wa.drew)) (ex_load (x := .tmp 5) (t := 67) (by kernel_rfl) (by kernel_rfl) (ld67 (w := wa.drew) h5)) ?_ ?_
  · skip
    simp only [Act.put, List.setIfInBounds_toArray, List.set_cons_zero, List.set_cons_succ]
    refine any1c 133 (i := 1) (f := 28) (args := #[.string ⟨#[73, 80, 118, 54, 32, 112, 97, 121, 108, 111, 97, 100, 32, 108, 101, 110, 103, 116, 104, 32, 115, 104, 111, 114, 116, 101, 114, 32, 116, 104, 97, 110, 32, 105, 116, 115, 32, 101, 120, 116, 101, 110, 115, 105, 111, 110, 32, 104, 101, 97, 100, 101, 114, 115]⟩]) (by kernel_rfl) rfl (by kernel_rfl) (by kernel_rfl) (by kernel_rfl) (newR (w := wa.drew)) ?_
    rintro er x ⟨he, bx⟩
    simp only [Act.put, List.setIfInBounds_toArray, List.set_cons_zero, List.set_cons_succ]
    have rx : x.heap[N]? = some (.cells old 67 (0, 0)) := by rw [bx.block _ lN]; exact hN
    refine any1s (i := 2) (x := .tmp 2) (y := .tmp 132) (t := 67) (by kernel_rfl) rfl (by kernel_rfl) (by kernel_rfl) (by kernel_rfl) (by kernel_rfl) (by kernel_rfl) (st67 (h1 := h1) (l1 := l1) (p := p) (h2 := h2) (l2 := l2) (q := q) (t := t) (tn := tn) (tc := tc) (len := len) rx hold) ?_
    refine any1k 3 (.bool false) (i := 3) (by kernel_rfl) rfl (by kernel_rfl) (by kernel_rfl) (by kernel_rfl) ?_
    simp only [Act.put, List.setIfInBounds_toArray, List.set_cons_zero, List.set_cons_succ]
    refine any1k 4 (er) (i := 4) (by kernel_rfl) rfl (by kernel_rfl) (by kernel_rfl) (by kernel_rfl) ?_
    simp only [Act.put, List.setIfInBounds_toArray, List.set_cons_zero, List.set_cons_succ]
    exact wpAny_done (by kernel_rfl) (hK _ _  er _ (row_stored rx (by rw [hold]; rfl)) (below_setRow (hb.trans (below_le (⟨bx.os, bx.tape, bx.output, bx.size, bx.block⟩ : Below wa.heap.size wa x) (by omega))) hB _) (newE_set he lN)) _
  · rintro er x ⟨he, bx⟩
    simp only [Act.put, List.setIfInBounds_toArray, List.set_cons_zero, List.set_cons_succ]
    have rx : x.heap[N]? = some (.cells old 67 (0, 0)) := by rw [bx.block _ lN]; exact hN
    refine any1 132 (i := 0) (by kernel_rfl) rfl (by kernel_rfl) (by kernel_rfl) (ex_load (x := .tmp 5) (t := 67) (by kernel_rfl) (by kernel_rfl) (ld67 (w := x) (by rw [bx.block _ l5]; exact h5))) ?_
    simp only [Act.put, List.setIfInBounds_toArray, List.set_cons_zero, List.set_cons_succ]
    refine any1s (i := 2) (x := .tmp 2) (y := .tmp 132) (t := 67) (by kernel_rfl) rfl (by kernel_rfl) (by kernel_rfl) (by kernel_rfl) (by kernel_rfl) (by kernel_rfl) (st67 (h1 := h1) (l1 := l1) (p := p) (h2 := h2) (l2 := l2) (q := q) (t := t) (tn := tn) (tc := tc) (len := len) rx hold) ?_
    refine any1k 3 (.bool false) (i := 3) (by kernel_rfl) rfl (by kernel_rfl) (by kernel_rfl) (by kernel_rfl) ?_
    simp only [Act.put, List.setIfInBounds_toArray, List.set_cons_zero, List.set_cons_succ]
    refine any1k 4 (er) (i := 4) (by kernel_rfl) rfl (by kernel_rfl) (by kernel_rfl) (by kernel_rfl) ?_
    simp only [Act.put, List.setIfInBounds_toArray, List.set_cons_zero, List.set_cons_succ]
    exact wpAny_done (by kernel_rfl) (hK _ _  er _ (row_stored rx (by rw [hold]; rfl)) (below_setRow (hb.trans (below_le (⟨bx.os, bx.tape, bx.output, bx.size, bx.block⟩ : Below wa.heap.size wa x) (by omega))) hB _) (newE_set he lN)) _

set_option maxRecDepth 100000 in
set_option maxHeartbeats 1000000 in
theorem d40 (h1 l1 : Int) (p : Option Addr) (h2 l2 : Int) (q t : Option Addr) (tn tc : Nat) (len : Int) (B N N5 : Nat) (w wa : World) (old : Array Value) (hb : Below B w wa) (hB : B ≤ N) (hN : wa.heap[N]? = some (.cells old 67 (0, 0))) (hold : old.size = 8) (h5 : wa.heap[N5]? = some (.cells (pkt h1 l1 p h2 l2 q t tn tc len) 67 (0, 0))) (hB0 : 0 < B) (ev : Value) (hg : wa.cell? ⟨0, 0, none⟩ = some ev) {x0 x1 x3 x4 x6 x7 x8 x9 x10 x11 x12 x13 x14 x15 x16 x17 x18 x19 x20 x21 x22 x23 x24 x25 x26 x27 x28 x29 x30 x31 x32 x33 x34 x35 x36 x37 x38 x39 x40 x41 x42 x43 x44 x45 x46 x47 x48 x49 x50 x51 x52 x53 x54 x55 x56 x57 x58 x59 x60 x61 x62 x63 x64 x65 x66 x67 x68 x69 x70 x71 x72 x73 x74 x75 x76 x77 x78 x79 x80 x81 x82 x83 x84 x85 x86 x87 x88 x89 x90 x91 x92 x93 x94 x95 x96 x97 x98 x99 x100 x101 x102 x103 x104 x105 x106 x107 x108 x109 x110 x111 x112 x113 x114 x115 x116 x117 x118 x119 x120 x121 x122 x123 x124 x125 x126 x127 x128 x129 x130 x131 x132 x133 x134 x135 x136 x137 x138 x139 x140 x141 x142 x143 x144 x145 x146 x147 : Value} (K : Act → World → Prop)
    (hK : ∀ (y136 y137 : Value) (wy : World), wy.heap[N]? = some (.cells (pkt h1 l1 p h2 l2 q t tn tc len) 67 (0, 0)) → Below B w wy → K { tmps := #[x0, x1, .pointer (some ⟨N, 0, none⟩), .bool false, ev, .pointer (some ⟨N5, 0, none⟩), x6, x7, x8, x9, x10, x11, x12, x13, x14, x15, x16, x17, x18, x19, x20, x21, x22, x23, x24, x25, x26, x27, x28, x29, x30, x31, x32, x33, x34, x35, x36, x37, x38, x39, x40, x41, x42, x43, x44, x45, x46, x47, x48, x49, x50, x51, x52, x53, x54, x55, x56, x57, x58, x59, x60, x61, x62, x63, x64, x65, x66, x67, x68, x69, x70, x71, x72, x73, x74, x75, x76, x77, x78, x79, x80, x81, x82, x83, x84, x85, x86, x87, x88, x89, x90, x91, x92, x93, x94, x95, x96, x97, x98, x99, x100, x101, x102, x103, x104, x105, x106, x107, x108, x109, x110, x111, x112, x113, x114, x115, x116, x117, x118, x119, x120, x121, x122, x123, x124, x125, x126, x127, x128, x129, x130, x131, x132, x133, x134, x135, y136, y137, x138, x139, x140, x141, x142, x143, x144, x145, x146, x147], defers := [] } (wy)) :
    Code.wp Ybaf.prog (headC (thnC (tailC (elsC (tailC dT))))) (only K) { tmps := #[x0, x1, .pointer (some ⟨N, 0, none⟩), x3, x4, .pointer (some ⟨N5, 0, none⟩), x6, x7, x8, x9, x10, x11, x12, x13, x14, x15, x16, x17, x18, x19, x20, x21, x22, x23, x24, x25, x26, x27, x28, x29, x30, x31, x32, x33, x34, x35, x36, x37, x38, x39, x40, x41, x42, x43, x44, x45, x46, x47, x48, x49, x50, x51, x52, x53, x54, x55, x56, x57, x58, x59, x60, x61, x62, x63, x64, x65, x66, x67, x68, x69, x70, x71, x72, x73, x74, x75, x76, x77, x78, x79, x80, x81, x82, x83, x84, x85, x86, x87, x88, x89, x90, x91, x92, x93, x94, x95, x96, x97, x98, x99, x100, x101, x102, x103, x104, x105, x106, x107, x108, x109, x110, x111, x112, x113, x114, x115, x116, x117, x118, x119, x120, x121, x122, x123, x124, x125, x126, x127, x128, x129, x130, x131, x132, x133, x134, x135, x136, x137, x138, x139, x140, x141, x142, x143, x144, x145, x146, x147], defers := [] } wa := by
  have hg2 : (wa.drew.setRow N (pkt h1 l1 p h2 l2 q t tn tc len)).cell? ⟨0, 0, none⟩ = some ev := by
    rw [World.cell?_of_block (a := ⟨0, 0, none⟩) (show (wa.drew.setRow N (pkt h1 l1 p h2 l2 q t tn tc len)).heap[0]? = wa.heap[0]? from by simp only [World.setRow, Array.getElem?_modify]; rw [if_neg (by omega)]; rfl)]
    exact hg
  simp only [d14, dL, dX, dS, dT, Ybaf.f14, Option.getD, dropC, headC, tailC, blkC, lupC, thnC, elsC]
  refine wp_region_any (by kernel_rfl) ?_
  change wpAny _ _ _ _ _ _ _ (World.drew _)
  refine any2 136 137 (i := 0) (j := 1) (by kernel_rfl) rfl rfl (by kernel_rfl) (by kernel_rfl) (by kernel_rfl) (by kernel_rfl) (ex_load (x := .tmp 5) (t := 67) (by kernel_rfl) (by kernel_rfl) (ld67 (w := wa.drew) h5)) (ex_load (x := .global 0) (t := 30) (by kernel_rfl) (by kernel_rfl) (ld30 (w := wa.drew) hg)) ?_ ?_
  · skip
    simp only [Act.put, List.setIfInBounds_toArray, List.set_cons_zero, List.set_cons_succ]
    refine any2vs 137 (i := 1) (j := 2) (x := .tmp 2) (y := .tmp 136) (t := 67) (by kernel_rfl) rfl rfl (by kernel_rfl) (by kernel_rfl) (by kernel_rfl) (by kernel_rfl) (ex_load (x := .global 0) (t := 30) (by kernel_rfl) (by kernel_rfl) (ld30 (w := wa.drew) hg)) (by kernel_rfl) (by kernel_rfl) (by kernel_rfl) (st67 (w := wa.drew) (h1 := h1) (l1 := l1) (p := p) (h2 := h2) (l2 := l2) (q := q) (t := t) (tn := tn) (tc := tc) (len := len) hN hold) ?_ ?_
    · skip
      simp only [Act.put, List.setIfInBounds_toArray, List.set_cons_zero, List.set_cons_succ]
      refine any1s (i := 2) (x := .tmp 2) (y := .tmp 136) (t := 67) (by kernel_rfl) rfl (by kernel_rfl) (by kernel_rfl) (by kernel_rfl) (by kernel_rfl) (by kernel_rfl) (st67 (w := wa.drew) (h1 := h1) (l1 := l1) (p := p) (h2 := h2) (l2 := l2) (q := q) (t := t) (tn := tn) (tc := tc) (len := len) hN hold) ?_
      refine any1k 3 (.bool false) (i := 3) (by kernel_rfl) rfl (by kernel_rfl) (by kernel_rfl) (by kernel_rfl) ?_
      simp only [Act.put, List.setIfInBounds_toArray, List.set_cons_zero, List.set_cons_succ]
      refine any1k 4 (ev) (i := 4) (by kernel_rfl) rfl (by kernel_rfl) (by kernel_rfl) (by kernel_rfl) ?_
      simp only [Act.put, List.setIfInBounds_toArray, List.set_cons_zero, List.set_cons_succ]
      exact wpAny_done (by kernel_rfl) (hK _ _  _ (row_stored (w := wa.drew) hN (by rw [hold]; rfl)) (below_setRow hb.drew hB _)) _
    · skip
      refine any2 137 3 (i := 1) (j := 3) (u := .bool false) (w'' := (wa.drew.setRow N (pkt h1 l1 p h2 l2 q t tn tc len))) (by kernel_rfl) rfl rfl (by kernel_rfl) (by kernel_rfl) (by kernel_rfl) (by kernel_rfl) (ex_load (x := .global 0) (t := 30) (by kernel_rfl) (by kernel_rfl) (ld30 hg2)) (by kernel_rfl) ?_ ?_
      · skip
        simp only [Act.put, List.setIfInBounds_toArray, List.set_cons_zero, List.set_cons_succ]
        refine any1k 3 (.bool false) (i := 3) (by kernel_rfl) rfl (by kernel_rfl) (by kernel_rfl) (by kernel_rfl) ?_
        simp only [Act.put, List.setIfInBounds_toArray, List.set_cons_zero, List.set_cons_succ]
        refine any1k 4 (ev) (i := 4) (by kernel_rfl) rfl (by kernel_rfl) (by kernel_rfl) (by kernel_rfl) ?_
        simp only [Act.put, List.setIfInBounds_toArray, List.set_cons_zero, List.set_cons_succ]
        exact wpAny_done (by kernel_rfl) (hK _ _  _ (row_stored (w := wa.drew) hN (by rw [hold]; rfl)) (below_setRow hb.drew hB _)) _
      · skip
        simp only [Act.put, List.setIfInBounds_toArray, List.set_cons_zero, List.set_cons_succ]
        refine any1 137 (i := 1) (by kernel_rfl) rfl (by kernel_rfl) (by kernel_rfl) (ex_load (x := .global 0) (t := 30) (by kernel_rfl) (by kernel_rfl) (ld30 hg2)) ?_
        simp only [Act.put, List.setIfInBounds_toArray, List.set_cons_zero, List.set_cons_succ]
        refine any1k 4 (ev) (i := 4) (by kernel_rfl) rfl (by kernel_rfl) (by kernel_rfl) (by kernel_rfl) ?_
        simp only [Act.put, List.setIfInBounds_toArray, List.set_cons_zero, List.set_cons_succ]
        exact wpAny_done (by kernel_rfl) (hK _ _  _ (row_stored (w := wa.drew) hN (by rw [hold]; rfl)) (below_setRow hb.drew hB _)) _
  · skip
    simp only [Act.put, List.setIfInBounds_toArray, List.set_cons_zero, List.set_cons_succ]
    refine any1 136 (i := 0) (by kernel_rfl) rfl (by kernel_rfl) (by kernel_rfl) (ex_load (x := .tmp 5) (t := 67) (by kernel_rfl) (by kernel_rfl) (ld67 (w := wa.drew) h5)) ?_
    simp only [Act.put, List.setIfInBounds_toArray, List.set_cons_zero, List.set_cons_succ]
    refine any1s (i := 2) (x := .tmp 2) (y := .tmp 136) (t := 67) (by kernel_rfl) rfl (by kernel_rfl) (by kernel_rfl) (by kernel_rfl) (by kernel_rfl) (by kernel_rfl) (st67 (w := wa.drew) (h1 := h1) (l1 := l1) (p := p) (h2 := h2) (l2 := l2) (q := q) (t := t) (tn := tn) (tc := tc) (len := len) hN hold) ?_
    refine any1k 3 (.bool false) (i := 3) (by kernel_rfl) rfl (by kernel_rfl) (by kernel_rfl) (by kernel_rfl) ?_
    simp only [Act.put, List.setIfInBounds_toArray, List.set_cons_zero, List.set_cons_succ]
    refine any1k 4 (ev) (i := 4) (by kernel_rfl) rfl (by kernel_rfl) (by kernel_rfl) (by kernel_rfl) ?_
    simp only [Act.put, List.setIfInBounds_toArray, List.set_cons_zero, List.set_cons_succ]
    exact wpAny_done (by kernel_rfl) (hK _ _  _ (row_stored (w := wa.drew) hN (by rw [hold]; rfl)) (below_setRow hb.drew hB _)) _
theorem ex_bin {P : Program} {o : Oper} {a : Act} {x y : Operand} {op : BinOp} {t t2 : TypeId} {u1 u2 v : Value} {w : World} (ho : o.op = .binOp op t x y t2) (hx : a.eval x = u1) (hy : a.eval y = u2) (hrun : (do eqGuard op t x y u1 u2; binOp op t u1 u2 : Sem Value).run P w = .ok v w) : (execOp a.eval o).run P w = .ok (.value v) w := by
  simp only [execOp, ho, hx, hy]
  rw [Sem.run_bind, hrun]
  rfl

set_option maxRecDepth 100000 in
set_option maxHeartbeats 1000000 in
theorem d27 (b off n c o v0 v1 : Nat) (wa : World) (hn : o + 8 ≤ n) (hc : n ≤ c) (hn2 : n ≤ 1000000) (q0 : wa.cell? ⟨b, off + (o + 2), none⟩ = some (.int .u8 (v0 : Nat))) (q1 : wa.cell? ⟨b, off + (o + 2) + 1, none⟩ = some (.int .u8 (v1 : Nat))) (g0 : v0 ≤ 255) (g1 : v1 ≤ 255) {x1 x2 x3 x4 x5 x6 x7 x9 x10 x11 x12 x13 x14 x15 x16 x17 x18 x19 x20 x21 x22 x23 x24 x25 x26 x27 x28 x29 x30 x31 x32 x33 x34 x35 x36 x37 x38 x39 x40 x41 x42 x43 x44 x45 x46 x47 x48 x49 x50 x51 x52 x53 x54 x55 x56 x57 x58 x59 x60 x61 x62 x63 x64 x65 x66 x67 x68 x69 x70 x71 x72 x73 x74 x75 x76 x77 x78 x79 x80 x81 x82 x83 x84 x85 x86 x87 x88 x89 x90 x91 x92 x93 x94 x95 x96 x97 x98 x99 x100 x101 x102 x103 x104 x105 x106 x107 x108 x109 x110 x111 x112 x113 x114 x115 x116 x117 x118 x119 x120 x121 x122 x123 x124 x125 x126 x127 x128 x129 x130 x131 x132 x133 x134 x135 x136 x137 x138 x139 x140 x141 x142 x143 x144 x145 x146 x147 : Value} (K : Act → World → Prop)
    (hK : ∀ (y95 y96 y97 y98 y99 y100 : Value) (wy : World), Below wa.heap.size wa wy → K { tmps := #[.slice (some ⟨b, off, none⟩) n c, x1, x2, x3, x4, x5, x6, x7, .int .i64 ((o : Nat) : Int), x9, x10, .int .u16 ((v0 * 256 + v1 : Nat) : Int), x12, x13, x14, x15, x16, x17, x18, x19, x20, x21, x22, x23, x24, x25, x26, x27, x28, x29, x30, x31, x32, x33, x34, x35, x36, x37, x38, x39, x40, x41, x42, x43, x44, x45, x46, x47, x48, x49, x50, x51, x52, x53, x54, x55, x56, x57, x58, x59, x60, x61, x62, x63, x64, x65, x66, x67, x68, x69, x70, x71, x72, x73, x74, x75, x76, x77, x78, x79, x80, x81, x82, x83, x84, x85, x86, x87, x88, x89, x90, x91, x92, x93, x94, y95, y96, y97, y98, y99, y100, x101, x102, x103, x104, x105, x106, x107, x108, x109, x110, x111, x112, x113, x114, x115, x116, x117, x118, x119, x120, x121, x122, x123, x124, x125, x126, x127, x128, x129, x130, x131, x132, x133, x134, x135, x136, x137, x138, x139, x140, x141, x142, x143, x144, x145, x146, x147], defers := [] } (wy)) :
    Code.wp Ybaf.prog (headC (tailC (thnC (tailC (elsC (tailC (elsC (tailC dS)))))))) (only K) { tmps := #[.slice (some ⟨b, off, none⟩) n c, x1, x2, x3, x4, x5, x6, x7, .int .i64 ((o : Nat) : Int), x9, x10, x11, x12, x13, x14, x15, x16, x17, x18, x19, x20, x21, x22, x23, x24, x25, x26, x27, x28, x29, x30, x31, x32, x33, x34, x35, x36, x37, x38, x39, x40, x41, x42, x43, x44, x45, x46, x47, x48, x49, x50, x51, x52, x53, x54, x55, x56, x57, x58, x59, x60, x61, x62, x63, x64, x65, x66, x67, x68, x69, x70, x71, x72, x73, x74, x75, x76, x77, x78, x79, x80, x81, x82, x83, x84, x85, x86, x87, x88, x89, x90, x91, x92, x93, x94, x95, x96, x97, x98, x99, x100, x101, x102, x103, x104, x105, x106, x107, x108, x109, x110, x111, x112, x113, x114, x115, x116, x117, x118, x119, x120, x121, x122, x123, x124, x125, x126, x127, x128, x129, x130, x131, x132, x133, x134, x135, x136, x137, x138, x139, x140, x141, x142, x143, x144, x145, x146, x147], defers := [] } wa := by
  have lb : b < wa.heap.size := World.block_lt_of_cell? wa _ q0
  have hsl := fun w => sl53lo (b := b) (off := off) (n := n) (c := c) (lo := o + 2) (by omega) hc w
  rw [show sh c (o + 2) = o + 2 from if_neg (by omega)] at hsl
  have had : ∀ w, (do eqGuard .add 3 (.tmp 97) (.const (.int .i64 2)) (.int .i64 ((o : Nat) : Int)) (.int .i64 2); binOp .add 3 (.int .i64 ((o : Nat) : Int)) (.int .i64 2) : Sem Value).run Ybaf.prog w = .ok (.int .i64 ((o + 2 : Nat) : Int)) w := fun w => by
    go_simp
    simp [IntKind.wrap, IntKind.bits, IntKind.signed]
    omega
  simp only [d14, dL, dX, dS, dT, Ybaf.f14, Option.getD, dropC, headC, tailC, blkC, lupC, thnC, elsC]
  refine wp_region_any (by kernel_rfl) ?_
  change wpAny _ _ _ _ _ _ _ (World.drew _)
  refine anyT 95 (i := 0) (v := .agg #[]) rfl (by kernel_rfl) (by kernel_rfl) (by kernel_rfl) (fun _ _ _ h => h) (by kernel_rfl) (by kernel_rfl) (fun w => ex_load (x := .global 1) (t := 89) (by kernel_rfl) (by kernel_rfl) (ld89 w)) ?_
  simp only [Act.put, List.setIfInBounds_toArray, List.set_cons_zero, List.set_cons_succ]
  refine anyT 96 (i := 1) (v := .slice (some ⟨b, off, none⟩) n c) rfl (by kernel_rfl) (by kernel_rfl) (by kernel_rfl) (fun _ _ _ h => h) (by kernel_rfl) (by kernel_rfl) (fun w => by kernel_rfl) ?_
  simp only [Act.put, List.setIfInBounds_toArray, List.set_cons_zero, List.set_cons_succ]
  refine anyT 97 (i := 2) (v := .int .i64 ((o : Nat) : Int)) rfl (by kernel_rfl) (by kernel_rfl) (by kernel_rfl) (fun _ _ _ h => h) (by kernel_rfl) (by kernel_rfl) (fun w => by kernel_rfl) ?_
  simp only [Act.put, List.setIfInBounds_toArray, List.set_cons_zero, List.set_cons_succ]
  refine anyT 98 (i := 3) (v := .int .i64 ((o + 2 : Nat) : Int)) rfl (by kernel_rfl) (by kernel_rfl) (by kernel_rfl) (fun _ _ _ h => h) (by kernel_rfl) (by kernel_rfl) (fun w => ex_bin (x := .tmp 97) (y := .const (.int .i64 2)) (t2 := 3) (by kernel_rfl) (by kernel_rfl) (by kernel_rfl) (had w)) ?_
  simp only [Act.put, List.setIfInBounds_toArray, List.set_cons_zero, List.set_cons_succ]
  refine anyT 99 (i := 4) (v := .slice (some ⟨b, off + (o + 2), none⟩) (n - (o + 2)) (c - (o + 2))) rfl (by kernel_rfl) (by kernel_rfl) (by kernel_rfl) (fun _ _ _ h => h) (by kernel_rfl) (by kernel_rfl) (fun w => ex_slice (x := .tmp 96) (l := .tmp 98) (t := 53) (by kernel_rfl) (by kernel_rfl) (by kernel_rfl) (hsl w)) ?_
  simp only [Act.put, List.setIfInBounds_toArray, List.set_cons_zero, List.set_cons_succ]
  refine any1c 100 (i := 5) (f := 30) (args := #[.agg #[], .slice (some ⟨b, off + (o + 2), none⟩) (n - (o + 2)) (c - (o + 2))]) (by kernel_rfl) rfl (by kernel_rfl) (by kernel_rfl) (by kernel_rfl) (u16R (w := wa.drew) (by omega) q0 q1 g0 g1) ?_
  rintro v x ⟨rfl, bx⟩
  simp only [Act.put, List.setIfInBounds_toArray, List.set_cons_zero, List.set_cons_succ]
  refine anyT 11 (i := 6) (v := .int .u16 ((v0 * 256 + v1 : Nat) : Int)) rfl (by kernel_rfl) (by kernel_rfl) (by kernel_rfl) (fun _ _ _ h => h) (by kernel_rfl) (by kernel_rfl) (fun w => by kernel_rfl) ?_
  simp only [Act.put, List.setIfInBounds_toArray, List.set_cons_zero, List.set_cons_succ]
  exact wpAny_done (by kernel_rfl) (hK _ _ _ _ _ _  x ⟨bx.os, bx.tape, bx.output, bx.size, bx.block⟩) _

set_option maxRecDepth 100000 in
set_option maxHeartbeats 1000000 in
theorem d30 (f : Nat) (fg : Bool) (wa : World) (hf : f ≤ 65535) {x0 x1 x2 x3 x4 x5 x6 x7 x8 x10 x12 x13 x14 x15 x16 x17 x18 x19 x20 x21 x22 x23 x24 x25 x26 x27 x28 x29 x30 x31 x32 x33 x34 x35 x36 x37 x38 x39 x40 x41 x42 x43 x44 x45 x46 x47 x48 x49 x50 x51 x52 x53 x54 x55 x56 x57 x58 x59 x60 x61 x62 x63 x64 x65 x66 x67 x68 x69 x70 x71 x72 x73 x74 x75 x76 x77 x78 x79 x80 x81 x82 x83 x84 x85 x86 x87 x88 x89 x90 x91 x92 x93 x94 x95 x96 x97 x98 x99 x100 x101 x102 x103 x104 x105 x106 x107 x108 x109 x110 x111 x112 x113 x114 x115 x116 x117 x118 x119 x120 x121 x122 x123 x124 x125 x126 x127 x128 x129 x130 x131 x132 x133 x134 x135 x136 x137 x138 x139 x140 x141 x142 x143 x144 x145 x146 x147 : Value} (K : Act → World → Prop)
    (hK : ∀ (y105 y106 y107 y108 y109 y110 : Value), K { tmps := #[x0, x1, x2, x3, x4, x5, x6, x7, x8, .bool (fg || !(bits .and .u16 (f : Int) 1 == 0)), x10, .int .u16 ((f : Nat) : Int), x12, x13, x14, x15, x16, x17, x18, x19, x20, x21, x22, x23, x24, x25, x26, x27, x28, x29, x30, x31, x32, x33, x34, x35, x36, x37, x38, x39, x40, x41, x42, x43, x44, x45, x46, x47, x48, x49, x50, x51, x52, x53, x54, x55, x56, x57, x58, x59, x60, x61, x62, x63, x64, x65, x66, x67, x68, x69, x70, x71, x72, x73, x74, x75, x76, x77, x78, x79, x80, x81, x82, x83, x84, x85, x86, x87, x88, x89, x90, x91, x92, x93, x94, x95, x96, x97, x98, x99, x100, x101, x102, x103, x104, y105, y106, y107, y108, y109, y110, x111, x112, x113, x114, x115, x116, x117, x118, x119, x120, x121, x122, x123, x124, x125, x126, x127, x128, x129, x130, x131, x132, x133, x134, x135, x136, x137, x138, x139, x140, x141, x142, x143, x144, x145, x146, x147], defers := [] } (wa)) :
    Code.wp Ybaf.prog (headC (dropC 3 (thnC (tailC (elsC (tailC (elsC (tailC dS)))))))) (only K) { tmps := #[x0, x1, x2, x3, x4, x5, x6, x7, x8, .bool fg, x10, .int .u16 ((f : Nat) : Int), x12, x13, x14, x15, x16, x17, x18, x19, x20, x21, x22, x23, x24, x25, x26, x27, x28, x29, x30, x31, x32, x33, x34, x35, x36, x37, x38, x39, x40, x41, x42, x43, x44, x45, x46, x47, x48, x49, x50, x51, x52, x53, x54, x55, x56, x57, x58, x59, x60, x61, x62, x63, x64, x65, x66, x67, x68, x69, x70, x71, x72, x73, x74, x75, x76, x77, x78, x79, x80, x81, x82, x83, x84, x85, x86, x87, x88, x89, x90, x91, x92, x93, x94, x95, x96, x97, x98, x99, x100, x101, x102, x103, x104, x105, x106, x107, x108, x109, x110, x111, x112, x113, x114, x115, x116, x117, x118, x119, x120, x121, x122, x123, x124, x125, x126, x127, x128, x129, x130, x131, x132, x133, x134, x135, x136, x137, x138, x139, x140, x141, x142, x143, x144, x145, x146, x147], defers := [] } wa := by
  cases fg with
  | true =>
    rw [Bool.true_or] at hK
    have HK := hid hK
    clear hK
    simp only [d14, dL, dX, dS, dT, Ybaf.f14, Option.getD, dropC, headC, tailC, blkC, lupC, thnC, elsC]
    go_wp2_with fail
    exact HK.out _ _ _ _ _ _ 
  | false =>
    rw [Bool.false_or] at hK
    have HK := hid hK
    clear hK
    simp only [d14, dL, dX, dS, dT, Ybaf.f14, Option.getD, dropC, headC, tailC, blkC, lupC, thnC, elsC]
    go_wp2_with fail
    exact HK.out _ _ _ _ _ _ 

set_option maxRecDepth 100000 in
set_option maxHeartbeats 1000000 in
theorem d36 (h1 l1 : Int) (p : Option Addr) (h2 l2 : Int) (q t : Option Addr) (tn tc : Nat) (len : Int) (b off n c o N5 B : Nat) (w wa : World) (ho : o ≤ n) (hc : n ≤ c) (hb : Below B w wa) (hB : B ≤ N5) (h5 : wa.heap[N5]? = some (.cells (pkt h1 l1 p h2 l2 q t tn tc len) 67 (0, 0))) {x1 x2 x3 x4 x6 x7 x9 x10 x11 x12 x13 x14 x15 x16 x17 x18 x19 x20 x21 x22 x23 x24 x25 x26 x27 x28 x29 x30 x31 x32 x33 x34 x35 x36 x37 x38 x39 x40 x41 x42 x43 x44 x45 x46 x47 x48 x49 x50 x51 x52 x53 x54 x55 x56 x57 x58 x59 x60 x61 x62 x63 x64 x65 x66 x67 x68 x69 x70 x71 x72 x73 x74 x75 x76 x77 x78 x79 x80 x81 x82 x83 x84 x85 x86 x87 x88 x89 x90 x91 x92 x93 x94 x95 x96 x97 x98 x99 x100 x101 x102 x103 x104 x105 x106 x107 x108 x109 x110 x111 x112 x113 x114 x115 x116 x117 x118 x119 x120 x121 x122 x123 x124 x125 x126 x127 x128 x129 x130 x131 x132 x133 x134 x135 x136 x137 x138 x139 x140 x141 x142 x143 x144 x145 x146 x147 : Value} (K : Act → World → Prop)
    (hK : ∀ (y125 y126 y127 y128 : Value) (wy : World), wy.heap[N5]? = some (.cells (pkt h1 l1 p h2 l2 q (some ⟨b, off + sh c o, none⟩) (n - o) (c - o) len) 67 (0, 0)) → Below B w wy → (∀ k, k ≠ N5 → wy.heap[k]? = wa.heap[k]?) → K { tmps := #[.slice (some ⟨b, off, none⟩) n c, x1, x2, x3, x4, .pointer (some ⟨N5, 0, none⟩), x6, x7, .int .i64 ((o : Nat) : Int), x9, x10, x11, x12, x13, x14, x15, x16, x17, x18, x19, x20, x21, x22, x23, x24, x25, x26, x27, x28, x29, x30, x31, x32, x33, x34, x35, x36, x37, x38, x39, x40, x41, x42, x43, x44, x45, x46, x47, x48, x49, x50, x51, x52, x53, x54, x55, x56, x57, x58, x59, x60, x61, x62, x63, x64, x65, x66, x67, x68, x69, x70, x71, x72, x73, x74, x75, x76, x77, x78, x79, x80, x81, x82, x83, x84, x85, x86, x87, x88, x89, x90, x91, x92, x93, x94, x95, x96, x97, x98, x99, x100, x101, x102, x103, x104, x105, x106, x107, x108, x109, x110, x111, x112, x113, x114, x115, x116, x117, x118, x119, x120, x121, x122, x123, x124, y125, y126, y127, y128, x129, x130, x131, x132, x133, x134, x135, x136, x137, x138, x139, x140, x141, x142, x143, x144, x145, x146, x147], defers := [] } (wy)) :
    Code.wp Ybaf.prog (thnC (tailC (headC (dropC 9 d14)))) (only K) { tmps := #[.slice (some ⟨b, off, none⟩) n c, x1, x2, x3, x4, .pointer (some ⟨N5, 0, none⟩), x6, x7, .int .i64 ((o : Nat) : Int), x9, x10, x11, x12, x13, x14, x15, x16, x17, x18, x19, x20, x21, x22, x23, x24, x25, x26, x27, x28, x29, x30, x31, x32, x33, x34, x35, x36, x37, x38, x39, x40, x41, x42, x43, x44, x45, x46, x47, x48, x49, x50, x51, x52, x53, x54, x55, x56, x57, x58, x59, x60, x61, x62, x63, x64, x65, x66, x67, x68, x69, x70, x71, x72, x73, x74, x75, x76, x77, x78, x79, x80, x81, x82, x83, x84, x85, x86, x87, x88, x89, x90, x91, x92, x93, x94, x95, x96, x97, x98, x99, x100, x101, x102, x103, x104, x105, x106, x107, x108, x109, x110, x111, x112, x113, x114, x115, x116, x117, x118, x119, x120, x121, x122, x123, x124, x125, x126, x127, x128, x129, x130, x131, x132, x133, x134, x135, x136, x137, x138, x139, x140, x141, x142, x143, x144, x145, x146, x147], defers := [] } wa := by
  have c6 : wa.cell? ⟨N5, 6, none⟩ = some (.slice t tn tc) := by rw [cell_of_row _ _ 6 _ 67 (0, 0) h5]; rfl
  simp only [d14, dL, dX, dS, dT, Ybaf.f14, Option.getD, dropC, headC, tailC, blkC, lupC, thnC, elsC]
  refine wp_region_lit ?_
  refine plk 125 (.slice (some ⟨b, off, none⟩) n c) rfl rfl (by kernel_rfl) ?_
  simp only [Act.put, List.setIfInBounds_toArray, List.set_cons_zero, List.set_cons_succ]
  refine plk 126 (.int .i64 ((o : Nat) : Int)) rfl rfl (by kernel_rfl) ?_
  simp only [Act.put, List.setIfInBounds_toArray, List.set_cons_zero, List.set_cons_succ]
  refine pl 127 rfl rfl (ex_slice (x := .tmp 125) (l := .tmp 126) (t := 53) (by kernel_rfl) (by kernel_rfl) (by kernel_rfl) (sl53lo (b := b) (off := off) (n := n) (c := c) ho hc _)) ?_
  simp only [Act.put, List.setIfInBounds_toArray, List.set_cons_zero, List.set_cons_succ]
  refine pl 128 rfl rfl (ex_field (x := .tmp 5) (i := 2) (t := 67) (by kernel_rfl) (by kernel_rfl) (fa67_2 N5 _)) ?_
  simp only [Act.put, List.setIfInBounds_toArray, List.set_cons_zero, List.set_cons_succ]
  refine pls (x := .tmp 128) (y := .tmp 127) (t := 53) (q := .slice (some ⟨b, off + sh c o, none⟩) (n - o) (c - o)) rfl rfl (by kernel_rfl) (by kernel_rfl) (by kernel_rfl) (st53m c6 (frz h5)) ?_
  exact wpList_nil (hK _ _ _ _  _ ((row_set h5).trans (by rfl)) (hb.setCell (by exact hB) _) (fun k hne => Below.heap_setCell _ _ _ _ hne))

set_option maxRecDepth 100000 in
set_option maxHeartbeats 1000000 in
theorem d43 (h1 l1 : Int) (p : Option Addr) (h2 l2 : Int) (q t : Option Addr) (tn tc : Nat) (len : Int) (r : Int) (N5 B : Nat) (w wa : World) (hb : Below B w wa) (hB : B ≤ N5) (h5 : wa.heap[N5]? = some (.cells (pkt h1 l1 p h2 l2 q t tn tc len) 67 (0, 0))) {x0 x1 x2 x3 x4 x6 x8 x9 x10 x11 x12 x13 x14 x15 x16 x17 x18 x19 x20 x21 x22 x23 x24 x25 x26 x27 x28 x29 x30 x31 x32 x33 x34 x35 x36 x37 x38 x39 x40 x41 x42 x43 x44 x45 x46 x47 x48 x49 x50 x51 x52 x53 x54 x55 x56 x57 x58 x59 x60 x61 x62 x63 x64 x65 x66 x67 x68 x69 x70 x71 x72 x73 x74 x75 x76 x77 x78 x79 x80 x81 x82 x83 x84 x85 x86 x87 x88 x89 x90 x91 x92 x93 x94 x95 x96 x97 x98 x99 x100 x101 x102 x103 x104 x105 x106 x107 x108 x109 x110 x111 x112 x113 x114 x115 x116 x117 x118 x119 x120 x121 x122 x123 x124 x125 x126 x127 x128 x129 x130 x131 x132 x133 x134 x135 x136 x137 x138 x139 x140 x141 x142 x143 x144 x145 x146 x147 : Value} (K : Act → World → Prop)
    (hK : ∀ (y145 y146 : Value) (wy : World), wy.heap[N5]? = some (.cells (pkt h1 l1 p h2 l2 q t tn tc r) 67 (0, 0)) → Below B w wy → (∀ k, k ≠ N5 → wy.heap[k]? = wa.heap[k]?) → K { tmps := #[x0, x1, x2, x3, x4, .pointer (some ⟨N5, 0, none⟩), x6, .int .i64 r, x8, x9, x10, x11, x12, x13, x14, x15, x16, x17, x18, x19, x20, x21, x22, x23, x24, x25, x26, x27, x28, x29, x30, x31, x32, x33, x34, x35, x36, x37, x38, x39, x40, x41, x42, x43, x44, x45, x46, x47, x48, x49, x50, x51, x52, x53, x54, x55, x56, x57, x58, x59, x60, x61, x62, x63, x64, x65, x66, x67, x68, x69, x70, x71, x72, x73, x74, x75, x76, x77, x78, x79, x80, x81, x82, x83, x84, x85, x86, x87, x88, x89, x90, x91, x92, x93, x94, x95, x96, x97, x98, x99, x100, x101, x102, x103, x104, x105, x106, x107, x108, x109, x110, x111, x112, x113, x114, x115, x116, x117, x118, x119, x120, x121, x122, x123, x124, x125, x126, x127, x128, x129, x130, x131, x132, x133, x134, x135, x136, x137, x138, x139, x140, x141, x142, x143, x144, y145, y146, x147], defers := [] } (wy)) :
    Code.wp Ybaf.prog (headC (dropC 11 d14)) (only K) { tmps := #[x0, x1, x2, x3, x4, .pointer (some ⟨N5, 0, none⟩), x6, .int .i64 r, x8, x9, x10, x11, x12, x13, x14, x15, x16, x17, x18, x19, x20, x21, x22, x23, x24, x25, x26, x27, x28, x29, x30, x31, x32, x33, x34, x35, x36, x37, x38, x39, x40, x41, x42, x43, x44, x45, x46, x47, x48, x49, x50, x51, x52, x53, x54, x55, x56, x57, x58, x59, x60, x61, x62, x63, x64, x65, x66, x67, x68, x69, x70, x71, x72, x73, x74, x75, x76, x77, x78, x79, x80, x81, x82, x83, x84, x85, x86, x87, x88, x89, x90, x91, x92, x93, x94, x95, x96, x97, x98, x99, x100, x101, x102, x103, x104, x105, x106, x107, x108, x109, x110, x111, x112, x113, x114, x115, x116, x117, x118, x119, x120, x121, x122, x123, x124, x125, x126, x127, x128, x129, x130, x131, x132, x133, x134, x135, x136, x137, x138, x139, x140, x141, x142, x143, x144, x145, x146, x147], defers := [] } wa := by
  have c7 : wa.cell? ⟨N5, 7, none⟩ = some (.int .i64 len) := by rw [cell_of_row _ _ 7 _ 67 (0, 0) h5]; rfl
  simp only [d14, dL, dX, dS, dT, Ybaf.f14, Option.getD, dropC, headC, tailC, blkC, lupC, thnC, elsC]
  refine wp_region_lit ?_
  refine plk 145 (.int .i64 r) rfl rfl (by kernel_rfl) ?_
  simp only [Act.put, List.setIfInBounds_toArray, List.set_cons_zero, List.set_cons_succ]
  refine pl 146 rfl rfl (ex_field (x := .tmp 5) (i := 3) (t := 67) (by kernel_rfl) (by kernel_rfl) (fa67_3 N5 _)) ?_
  simp only [Act.put, List.setIfInBounds_toArray, List.set_cons_zero, List.set_cons_succ]
  refine pls (x := .tmp 146) (y := .tmp 145) (t := 3) (q := .int .i64 r) rfl rfl (by kernel_rfl) (by kernel_rfl) (by kernel_rfl) (st3m c7 (frz h5)) ?_
  exact wpList_nil (hK _ _  _ ((row_set h5).trans (by rfl)) (hb.setCell (by exact hB) _) (fun k hne => Below.heap_setCell _ _ _ _ hne))

set_option maxRecDepth 100000 in
set_option maxHeartbeats 1000000 in
theorem d44 (h1 l1 : Int) (p : Option Addr) (h2 l2 : Int) (q t : Option Addr) (tn tc : Nat) (len : Int) (B N N5 : Nat) (w wa : World) (old : Array Value) (hb : Below B w wa) (hB : B ≤ N) (hN : wa.heap[N]? = some (.cells old 67 (0, 0))) (hold : old.size = 8) (h5 : wa.heap[N5]? = some (.cells (pkt h1 l1 p h2 l2 q t tn tc len) 67 (0, 0))) {x0 x1 x3 x4 x6 x7 x8 x9 x10 x11 x12 x13 x14 x15 x16 x17 x18 x19 x20 x21 x22 x23 x24 x25 x26 x27 x28 x29 x30 x31 x32 x33 x34 x35 x36 x37 x38 x39 x40 x41 x42 x43 x44 x45 x46 x47 x48 x49 x50 x51 x52 x53 x54 x55 x56 x57 x58 x59 x60 x61 x62 x63 x64 x65 x66 x67 x68 x69 x70 x71 x72 x73 x74 x75 x76 x77 x78 x79 x80 x81 x82 x83 x84 x85 x86 x87 x88 x89 x90 x91 x92 x93 x94 x95 x96 x97 x98 x99 x100 x101 x102 x103 x104 x105 x106 x107 x108 x109 x110 x111 x112 x113 x114 x115 x116 x117 x118 x119 x120 x121 x122 x123 x124 x125 x126 x127 x128 x129 x130 x131 x132 x133 x134 x135 x136 x137 x138 x139 x140 x141 x142 x143 x144 x145 x146 x147 : Value} (K : Act → World → Prop)
    (hK : ∀ (y147 : Value) (wy : World), wy.heap[N]? = some (.cells (pkt h1 l1 p h2 l2 q t tn tc len) 67 (0, 0)) → Below B w wy → K { tmps := #[x0, x1, .pointer (some ⟨N, 0, none⟩), .bool true, .nilIface, .pointer (some ⟨N5, 0, none⟩), x6, x7, x8, x9, x10, x11, x12, x13, x14, x15, x16, x17, x18, x19, x20, x21, x22, x23, x24, x25, x26, x27, x28, x29, x30, x31, x32, x33, x34, x35, x36, x37, x38, x39, x40, x41, x42, x43, x44, x45, x46, x47, x48, x49, x50, x51, x52, x53, x54, x55, x56, x57, x58, x59, x60, x61, x62, x63, x64, x65, x66, x67, x68, x69, x70, x71, x72, x73, x74, x75, x76, x77, x78, x79, x80, x81, x82, x83, x84, x85, x86, x87, x88, x89, x90, x91, x92, x93, x94, x95, x96, x97, x98, x99, x100, x101, x102, x103, x104, x105, x106, x107, x108, x109, x110, x111, x112, x113, x114, x115, x116, x117, x118, x119, x120, x121, x122, x123, x124, x125, x126, x127, x128, x129, x130, x131, x132, x133, x134, x135, x136, x137, x138, x139, x140, x141, x142, x143, x144, x145, x146, y147], defers := [] } (wy)) :
    Code.wp Ybaf.prog (headC (dropC 12 d14)) (only K) { tmps := #[x0, x1, .pointer (some ⟨N, 0, none⟩), x3, x4, .pointer (some ⟨N5, 0, none⟩), x6, x7, x8, x9, x10, x11, x12, x13, x14, x15, x16, x17, x18, x19, x20, x21, x22, x23, x24, x25, x26, x27, x28, x29, x30, x31, x32, x33, x34, x35, x36, x37, x38, x39, x40, x41, x42, x43, x44, x45, x46, x47, x48, x49, x50, x51, x52, x53, x54, x55, x56, x57, x58, x59, x60, x61, x62, x63, x64, x65, x66, x67, x68, x69, x70, x71, x72, x73, x74, x75, x76, x77, x78, x79, x80, x81, x82, x83, x84, x85, x86, x87, x88, x89, x90, x91, x92, x93, x94, x95, x96, x97, x98, x99, x100, x101, x102, x103, x104, x105, x106, x107, x108, x109, x110, x111, x112, x113, x114, x115, x116, x117, x118, x119, x120, x121, x122, x123, x124, x125, x126, x127, x128, x129, x130, x131, x132, x133, x134, x135, x136, x137, x138, x139, x140, x141, x142, x143, x144, x145, x146, x147], defers := [] } wa := by
  simp only [d14, dL, dX, dS, dT, Ybaf.f14, Option.getD, dropC, headC, tailC, blkC, lupC, thnC, elsC]
  refine wp_region_lit ?_
  refine pl 147 rfl rfl (ex_load (x := .tmp 5) (t := 67) (by kernel_rfl) (by kernel_rfl) (ld67 h5)) ?_
  simp only [Act.put, List.setIfInBounds_toArray, List.set_cons_zero, List.set_cons_succ]
  refine pls (x := .tmp 2) (y := .tmp 147) (t := 67) rfl rfl (by kernel_rfl) (by kernel_rfl) (by kernel_rfl) (st67 (h1 := h1) (l1 := l1) (p := p) (h2 := h2) (l2 := l2) (q := q) (t := t) (tn := tn) (tc := tc) (len := len) hN hold) ?_
  refine plk 3 (.bool true) rfl rfl (by kernel_rfl) ?_
  simp only [Act.put, List.setIfInBounds_toArray, List.set_cons_zero, List.set_cons_succ]
  refine plk 4 (.nilIface) rfl rfl (by kernel_rfl) ?_
  simp only [Act.put, List.setIfInBounds_toArray, List.set_cons_zero, List.set_cons_succ]
  exact wpList_nil (hK _  _ (row_stored hN (by rw [hold]; rfl)) (below_setRow hb hB _))
end Go.Proofs.YbulkblsgFmt

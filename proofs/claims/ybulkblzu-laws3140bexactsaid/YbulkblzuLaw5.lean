import Derived.Test.YbulkblzuLaw4
namespace Go.Proofs.Ybulkblzu
open Go.RowKit Go.Maps Go.WideMaps
set_option linter.unusedVariables false
set_option linter.unusedSimpArgs false
set_option maxRecDepth 100000 in
set_option maxHeartbeats 1000000 in
theorem l3ebody (E : Nat → Ent) (B L : Nat) (w wa : World) (b off nn c0 i k : Nat) (F : Lit → Option Value) (Sb : Nat → Nat) (v : Nat → Value) (cs : Nat → List Value) (hT : T1 E B L w wa nn F Sb v cs) (hnn : nn ≤ 1024) (hk : k < 3) (hin : i < nn) (hown : (E i).own ≤ 255) (q0 : wa.cell? ⟨b, off + i * 5, none⟩ = some (.int .u8 (E i).id)) (q1 : wa.cell? ⟨b, off + i * 5 + 1, none⟩ = some (.string (E i).host)) (q2 : wa.cell? ⟨b, off + i * 5 + 2, none⟩ = some (.int .u16 (E i).port)) (q3 : wa.cell? ⟨b, off + i * 5 + 3, none⟩ = some (.bool (E i).held)) (q4 : wa.cell? ⟨b, off + i * 5 + 4, none⟩ = some (.int .u8 (E i).own)) {x0 x1 x2 x3 x4 x5 x6 x7 x8 x9 x10 x11 x15 x16 x17 x18 x19 x20 x21 x22 x23 x24 x25 x26 x27 x28 x29 x30 x31 x32 x33 x34 x35 x36 x37 x38 x39 x40 x41 x42 x43 x44 x45 x46 x47 x48 x49 x50 x51 x52 x53 x54 x55 x56 x57 x58 x59 x60 x61 x62 x63 x64 x65 x66 x67 x68 x69 x70 x71 x72 x73 x74 x75 x76 x77 x78 x79 x80 x81 x82 x83 x84 x85 x86 x87 x88 x89 x90 x91 x92 x93 x94 x95 x96 x97 x98 x99 x100 x101 x103 x105 x106 x107 x108 x109 x110 x111 x112 x113 x114 x115 x116 x117 x118 x119 x120 x121 x122 x123 x124 x125 x126 x127 x128 x129 x130 x131 x132 x133 x134 x135 x136 x137 x138 x139 x140 x141 x142 x143 x144 x145 x146 x147 x148 x149 x150 x151 x152 x153 x154 x155 x156 x157 x158 x159 x160 x161 x162 : Value} (K : Act → World → Prop)
    (hK : ∀ (y16 y17 y106 y107 y108 y109 y110 y111 y112 y113 y114 y115 y116 y117 y118 y119 y120 y121 y122 y123 y124 y125 y126 y127 y128 y129 y130 y131 y132 y133 y134 y135 y136 y137 y138 y139 y140 y141 y142 y143 y144 y145 y146 y147 y148 : Value) (wy : World), Below wa.heap.size wa wy → K { tmps := #[x0, x1, x2, x3, x4, x5, x6, x7, x8, x9, x10, x11, .int .i64 ((k : Nat) : Int), .pointer (some ⟨Sb k, 0, none⟩), .int .i64 ((cnt E k (i + 1) : Nat) : Int), x15, y16, y17, x18, x19, x20, x21, x22, x23, x24, x25, x26, x27, x28, x29, x30, x31, x32, x33, x34, x35, x36, x37, x38, x39, x40, x41, x42, x43, x44, x45, x46, x47, x48, x49, x50, x51, x52, x53, x54, x55, x56, x57, x58, x59, x60, x61, x62, x63, x64, x65, x66, x67, x68, x69, x70, x71, x72, x73, x74, x75, x76, x77, x78, x79, x80, x81, x82, x83, x84, x85, x86, x87, x88, x89, x90, x91, x92, x93, x94, x95, x96, x97, x98, x99, x100, x101, .slice (some ⟨b, off, none⟩) nn c0, x103, .int .i64 ((i : Nat) : Int), x105, y106, y107, y108, y109, y110, y111, y112, y113, y114, y115, y116, y117, y118, y119, y120, y121, y122, y123, y124, y125, y126, y127, y128, y129, y130, y131, y132, y133, y134, y135, y136, y137, y138, y139, y140, y141, y142, y143, y144, y145, y146, y147, y148, x149, x150, x151, x152, x153, x154, x155, x156, x157, x158, x159, x160, x161, x162], defers := [] } wy) :
    Code.wp Yba.prog (Code.block 7 eX) (only K) { tmps := #[x0, x1, x2, x3, x4, x5, x6, x7, x8, x9, x10, x11, .int .i64 ((k : Nat) : Int), .pointer (some ⟨Sb k, 0, none⟩), .int .i64 ((cnt E k i : Nat) : Int), x15, x16, x17, x18, x19, x20, x21, x22, x23, x24, x25, x26, x27, x28, x29, x30, x31, x32, x33, x34, x35, x36, x37, x38, x39, x40, x41, x42, x43, x44, x45, x46, x47, x48, x49, x50, x51, x52, x53, x54, x55, x56, x57, x58, x59, x60, x61, x62, x63, x64, x65, x66, x67, x68, x69, x70, x71, x72, x73, x74, x75, x76, x77, x78, x79, x80, x81, x82, x83, x84, x85, x86, x87, x88, x89, x90, x91, x92, x93, x94, x95, x96, x97, x98, x99, x100, x101, .slice (some ⟨b, off, none⟩) nn c0, x103, .int .i64 ((i : Nat) : Int), x105, x106, x107, x108, x109, x110, x111, x112, x113, x114, x115, x116, x117, x118, x119, x120, x121, x122, x123, x124, x125, x126, x127, x128, x129, x130, x131, x132, x133, x134, x135, x136, x137, x138, x139, x140, x141, x142, x143, x144, x145, x146, x147, x148, x149, x150, x151, x152, x153, x154, x155, x156, x157, x158, x159, x160, x161, x162], defers := [] } wa := by
  refine wp_block ?_
  rw [eX_eq]
  refine wp_seq (wp_use (l3r33 (E i) b off nn c0 i wa (by omega) q0 q1 q2 q3 q4 _ ?_))
  intro y106 y107
  obtain ⟨w1, hw1⟩ : ∃ x, wa.alloc (.cells (enR (E i)) 31) = x := ⟨_, rfl⟩
  have h7 : w1.heap[wa.heap.size]? = some (.cells (enR (E i)) 31 (0, 0)) := by rw [← hw1]; exact heap_alloc_new _ _
  have b1 : Below wa.heap.size wa w1 := by rw [← hw1]; exact al (Below.refl _ _) _
  have s1 : w1.heap.size = wa.heap.size + 1 := by rw [← hw1]; simp
  rw [hw1]
  refine wp_seq (wp_seq (wp_use (l3r34 (E i) wa.heap.size k w1 h7 hk hown _ ?_)))
  intro y108 y109 y110 y111 y112
  refine wp_cond (t := decide (¬ (E i).own % 3 = k)) (by kernel_rfl) ?_
  by_cases ho : (E i).own % 3 = k
  · rw [decide_eq_false (not_not_intro ho), if_neg Bool.false_ne_true]
    refine wp_skip ?_
    have hT1 := hT.below b1
    have hcy := cnt_yes (E := E) ho
    have hlt : cnt E k i < cnt E k nn := by have := cnt_mono (E := E) k (show i + 1 ≤ nn by omega); omega
    obtain ⟨gb, c, hv, _, hgl, hgc⟩ := own_cell (hT.row k hk) (by omega)
    have hN := hT1.sh k hk
    rw [hv] at hN
    obtain ⟨p, hp, hcell⟩ := (hT.el k hk).2 i hin ho
    have hlen := (hT.el k hk).1
    have hr : w1.rangeAt gb (cnt E k i * 25) (enC (E i) p) := fun j u hu => by
      have hj : j < 25 := (List.getElem?_eq_some_iff.1 hu).1
      rw [b1.cell (by exact hgl), hgc (cnt E k i * 25 + j) (by omega), hcell j hj]; exact hu
    refine wp_seq (wp_seq (wp_use (l3r35 (Sb k) (cnt E k i) (cnt E k nn) c _ w1 hN hlt _ ?_)))
    intro y114 y115 y116 y117 y118 y119
    refine wp_cond_false (by kernel_rfl) ?_
    refine wp_skip ?_
    refine wp_seq (wp_use (l3r37 (E i) p (Sb k) (cnt E k i) (cnt E k nn) c gb w1 hN hlt hr _ ?_))
    intro y121 y122 y123 y124 y125 y126 y127
    have h17 : (w1.alloc (.cells (enC (E i) p).toArray 62)).heap[w1.heap.size]? = some (.cells (enC (E i) p).toArray 62 (0, 0)) := heap_alloc_new _ _
    have h7' : (w1.alloc (.cells (enC (E i) p).toArray 62)).heap[wa.heap.size]? = some (.cells (enR (E i)) 31 (0, 0)) := (Below.heap_alloc _ _ _ (by omega)).trans h7
    refine wp_seq (wp_seq (wp_use (l3r38 (E i) p wa.heap.size w1.heap.size _ h7' h17 hp _ ?_)))
    intro y128 y129 y130 y131 y132 y133 y134 y135 y136 y137 y138 y139 y140 y141 y142 y143 y144 y145
    refine wp_cond_false (by kernel_rfl) ?_
    refine wp_skip ?_
    refine wp_use (l3r40 (cnt E k i) _ (by have := cnt_le (E := E) k i; omega) _ ?_)
    intro y147 y148
    rw [← hcy]
    exact hK _ _ y106 y107 y108 y109 y110 y111 y112 _ y114 y115 y116 y117 y118 y119 _ y121 y122 y123 y124 y125 y126 y127 y128 y129 y130 y131 y132 y133 y134 y135 y136 y137 y138 y139 y140 y141 y142 y143 y144 y145 _ y147 y148 _ (al b1 _)
  · rw [decide_eq_true ho, if_pos rfl]
    refine wp_exit ?_
    have e := cnt_no (E := E) ho
    rw [e] at hK
    exact hK _ x17 y106 y107 y108 y109 y110 y111 y112 _ x114 x115 x116 x117 x118 x119 x120 x121 x122 x123 x124 x125 x126 x127 x128 x129 x130 x131 x132 x133 x134 x135 x136 x137 x138 x139 x140 x141 x142 x143 x144 x145 x146 x147 x148 _ b1
set_option maxRecDepth 100000 in
set_option maxHeartbeats 1000000 in
theorem l3ent (E : Nat → Ent) (B L : Nat) (w x : World) (a0 : Option Addr) (nn c0 k : Nat) (F : Lit → Option Value) (Sb : Nat → Nat) (v : Nat → Value) (cs : Nat → List Value) (hT : T1 E B L w x nn F Sb v cs) (hnn : nn ≤ 1024) (hk : k < 3) (HB : w.heap.size = B) (h0 : Given E a0 nn w) {x1 x2 x3 x4 x5 x6 x7 x8 x9 x10 x11 x15 x16 x17 x18 x19 x20 x21 x22 x23 x24 x25 x26 x27 x28 x29 x30 x31 x32 x33 x34 x35 x36 x37 x38 x39 x40 x41 x42 x43 x44 x45 x46 x47 x48 x49 x50 x51 x52 x53 x54 x55 x56 x57 x58 x59 x60 x61 x62 x63 x64 x65 x66 x67 x68 x69 x70 x71 x72 x73 x74 x75 x76 x77 x78 x79 x80 x81 x82 x83 x84 x85 x86 x87 x88 x89 x90 x91 x92 x93 x94 x95 x96 x97 x98 x99 x100 x101 x102 x103 x104 x105 x106 x107 x108 x109 x110 x111 x112 x113 x114 x115 x116 x117 x118 x119 x120 x121 x122 x123 x124 x125 x126 x127 x128 x129 x130 x131 x132 x133 x134 x135 x136 x137 x138 x139 x140 x141 x142 x143 x144 x145 x146 x147 x148 x149 x150 x151 x152 x153 x154 x155 x156 x157 x158 x159 x160 x161 x162 : Value} (K : Act → World → Prop)
    (hK : ∀ (y16 y17 y102 y103 y104 y105 y106 y107 y108 y109 y110 y111 y112 y113 y114 y115 y116 y117 y118 y119 y120 y121 y122 y123 y124 y125 y126 y127 y128 y129 y130 y131 y132 y133 y134 y135 y136 y137 y138 y139 y140 y141 y142 y143 y144 y145 y146 y147 y148 y149 : Value) (wy : World), Below x.heap.size x wy → K { tmps := #[.slice a0 nn c0, x1, x2, x3, x4, x5, x6, x7, x8, x9, x10, x11, .int .i64 ((k : Nat) : Int), .pointer (some ⟨Sb k, 0, none⟩), .int .i64 ((cnt E k nn : Nat) : Int), x15, y16, y17, x18, x19, x20, x21, x22, x23, x24, x25, x26, x27, x28, x29, x30, x31, x32, x33, x34, x35, x36, x37, x38, x39, x40, x41, x42, x43, x44, x45, x46, x47, x48, x49, x50, x51, x52, x53, x54, x55, x56, x57, x58, x59, x60, x61, x62, x63, x64, x65, x66, x67, x68, x69, x70, x71, x72, x73, x74, x75, x76, x77, x78, x79, x80, x81, x82, x83, x84, x85, x86, x87, x88, x89, x90, x91, x92, x93, x94, x95, x96, x97, x98, x99, x100, x101, y102, y103, y104, y105, y106, y107, y108, y109, y110, y111, y112, y113, y114, y115, y116, y117, y118, y119, y120, y121, y122, y123, y124, y125, y126, y127, y128, y129, y130, y131, y132, y133, y134, y135, y136, y137, y138, y139, y140, y141, y142, y143, y144, y145, y146, y147, y148, y149, x150, x151, x152, x153, x154, x155, x156, x157, x158, x159, x160, x161, x162], defers := [] } wy) :
    Code.wp Yba.prog (headC (dropC 3 uX)) (only K) { tmps := #[.slice a0 nn c0, x1, x2, x3, x4, x5, x6, x7, x8, x9, x10, x11, .int .i64 ((k : Nat) : Int), .pointer (some ⟨Sb k, 0, none⟩), .int .i64 ((0 : Nat) : Int), x15, x16, x17, x18, x19, x20, x21, x22, x23, x24, x25, x26, x27, x28, x29, x30, x31, x32, x33, x34, x35, x36, x37, x38, x39, x40, x41, x42, x43, x44, x45, x46, x47, x48, x49, x50, x51, x52, x53, x54, x55, x56, x57, x58, x59, x60, x61, x62, x63, x64, x65, x66, x67, x68, x69, x70, x71, x72, x73, x74, x75, x76, x77, x78, x79, x80, x81, x82, x83, x84, x85, x86, x87, x88, x89, x90, x91, x92, x93, x94, x95, x96, x97, x98, x99, x100, x101, x102, x103, x104, x105, x106, x107, x108, x109, x110, x111, x112, x113, x114, x115, x116, x117, x118, x119, x120, x121, x122, x123, x124, x125, x126, x127, x128, x129, x130, x131, x132, x133, x134, x135, x136, x137, x138, x139, x140, x141, x142, x143, x144, x145, x146, x147, x148, x149, x150, x151, x152, x153, x154, x155, x156, x157, x158, x159, x160, x161, x162], defers := [] } x := by
  rw [e_eq]
  refine wp_seq (wp_use (l3r31 a0 nn c0 x _ ?_))
  refine wp_block (wp_loop (fun a wq => ∃ (y16 y17 y105 y106 y107 y108 y109 y110 y111 y112 y113 y114 y115 y116 y117 y118 y119 y120 y121 y122 y123 y124 y125 y126 y127 y128 y129 y130 y131 y132 y133 y134 y135 y136 y137 y138 y139 y140 y141 y142 y143 y144 y145 y146 y147 y148 y149 : Value) (i : Nat), i ≤ nn ∧ a = { tmps := #[.slice a0 nn c0, x1, x2, x3, x4, x5, x6, x7, x8, x9, x10, x11, .int .i64 ((k : Nat) : Int), .pointer (some ⟨Sb k, 0, none⟩), .int .i64 ((cnt E k i : Nat) : Int), x15, y16, y17, x18, x19, x20, x21, x22, x23, x24, x25, x26, x27, x28, x29, x30, x31, x32, x33, x34, x35, x36, x37, x38, x39, x40, x41, x42, x43, x44, x45, x46, x47, x48, x49, x50, x51, x52, x53, x54, x55, x56, x57, x58, x59, x60, x61, x62, x63, x64, x65, x66, x67, x68, x69, x70, x71, x72, x73, x74, x75, x76, x77, x78, x79, x80, x81, x82, x83, x84, x85, x86, x87, x88, x89, x90, x91, x92, x93, x94, x95, x96, x97, x98, x99, x100, x101, .slice a0 nn c0, .int .i64 ((nn : Nat) : Int), .int .i64 ((i : Nat) : Int), y105, y106, y107, y108, y109, y110, y111, y112, y113, y114, y115, y116, y117, y118, y119, y120, y121, y122, y123, y124, y125, y126, y127, y128, y129, y130, y131, y132, y133, y134, y135, y136, y137, y138, y139, y140, y141, y142, y143, y144, y145, y146, y147, y148, y149, x150, x151, x152, x153, x154, x155, x156, x157, x158, x159, x160, x161, x162], defers := [] } ∧ Below x.heap.size x wq) (fun a _ => nn - (intOf (a.tmps.getD 104 undef)).toNat) ⟨x16, x17, x105, x106, x107, x108, x109, x110, x111, x112, x113, x114, x115, x116, x117, x118, x119, x120, x121, x122, x123, x124, x125, x126, x127, x128, x129, x130, x131, x132, x133, x134, x135, x136, x137, x138, x139, x140, x141, x142, x143, x144, x145, x146, x147, x148, x149, 0, Nat.zero_le _, rfl, Below.refl _ _⟩ ?_)
  rintro a wr ⟨y16, y17, y105, y106, y107, y108, y109, y110, y111, y112, y113, y114, y115, y116, y117, y118, y119, y120, y121, y122, y123, y124, y125, y126, y127, y128, y129, y130, y131, y132, y133, y134, y135, y136, y137, y138, y139, y140, y141, y142, y143, y144, y145, y146, y147, y148, y149, i, hi, rfl, hbr⟩
  refine wp_seq (wp_use (l3r32 nn i wr _ ?_))
  refine wp_seq (wp_cond (t := decide (i < nn)) (by kernel_rfl) ?_)
  by_cases hin : i < nn
  · rw [decide_eq_true hin, if_pos rfl]
    refine wp_skip ?_
    obtain ⟨b, off, rfl, hb, hc0, hc1, hc2, hc3, hc4, hown⟩ := h0 i hin
    have hb' : b < B := by rw [← HB]; exact hb
    have up : ∀ o, wr.cell? ⟨b, o, none⟩ = w.cell? ⟨b, o, none⟩ := fun o => (hT.below hbr).bel.cell (by exact hb')
    refine wp_seq (wp_use (l3ebody E B L w wr b off nn c0 i k F Sb v cs (hT.below hbr) hnn hk hin hown ((up _).trans hc0) ((up _).trans hc1) ((up _).trans hc2) ((up _).trans hc3) ((up _).trans hc4) _ ?_))
    intro z16 z17 z106 z107 z108 z109 z110 z111 z112 z113 z114 z115 z116 z117 z118 z119 z120 z121 z122 z123 z124 z125 z126 z127 z128 z129 z130 z131 z132 z133 z134 z135 z136 z137 z138 z139 z140 z141 z142 z143 z144 z145 z146 z147 z148 wy hby
    refine wp_use (l3r41 i wy (by omega) _ ?_)
    intro z149
    refine ⟨⟨z16, z17, _, z106, z107, z108, z109, z110, z111, z112, z113, z114, z115, z116, z117, z118, z119, z120, z121, z122, z123, z124, z125, z126, z127, z128, z129, z130, z131, z132, z133, z134, z135, z136, z137, z138, z139, z140, z141, z142, z143, z144, z145, z146, z147, z148, z149, i + 1, hin, rfl, hbr.trans (below_le hby hbr.size)⟩, ?_⟩
    show nn - (intOf (.int .i64 ((i + 1 : Nat) : Int))).toNat < nn - (intOf (.int .i64 (i : Int))).toNat
    simp only [intOf]
    omega
  · rw [decide_eq_false hin, if_neg Bool.false_ne_true]
    obtain rfl : nn = i := by omega
    refine wp_exit ?_
    exact hK y16 y17 _ _ _ _ y106 y107 y108 y109 y110 y111 y112 y113 y114 y115 y116 y117 y118 y119 y120 y121 y122 y123 y124 y125 y126 y127 y128 y129 y130 y131 y132 y133 y134 y135 y136 y137 y138 y139 y140 y141 y142 y143 y144 y145 y146 y147 y148 y149 wr hbr
set_option maxRecDepth 100000 in
set_option maxHeartbeats 1000000 in
theorem l3ubody (E : Nat → Ent) (B L : Nat) (w x : World) (a0 : Option Addr) (nn c0 k : Nat) (F : Lit → Option Value) (Sb : Nat → Nat) (v : Nat → Value) (cs : Nat → List Value) (hT : T1 E B L w x nn F Sb v cs) (hnn : nn ≤ 1024) (hk : k < 3) (HB : w.heap.size = B) (h0 : Given E a0 nn w) {x1 x2 x3 x4 x6 x7 x8 x9 x10 x11 x13 x14 x15 x16 x17 x18 x19 x20 x21 x22 x23 x24 x25 x26 x27 x28 x29 x30 x31 x32 x33 x34 x35 x36 x37 x38 x39 x40 x41 x42 x43 x44 x45 x46 x47 x48 x49 x50 x51 x52 x53 x54 x55 x56 x57 x58 x59 x60 x61 x62 x63 x64 x65 x66 x67 x68 x69 x70 x71 x72 x73 x74 x75 x76 x77 x78 x79 x80 x81 x82 x83 x84 x85 x86 x87 x88 x89 x90 x91 x92 x93 x94 x95 x96 x97 x98 x99 x100 x101 x102 x103 x104 x105 x106 x107 x108 x109 x110 x111 x112 x113 x114 x115 x116 x117 x118 x119 x120 x121 x122 x123 x124 x125 x126 x127 x128 x129 x130 x131 x132 x133 x134 x135 x136 x137 x138 x139 x140 x141 x142 x143 x144 x145 x146 x147 x148 x149 x150 x151 x152 x153 x154 x155 x156 x157 x158 x159 x160 x161 x162 : Value} (K : Act → World → Prop)
    (hK : ∀ (y13 y14 y16 y17 y92 y93 y94 y95 y96 y97 y98 y99 y100 y101 y102 y103 y104 y105 y106 y107 y108 y109 y110 y111 y112 y113 y114 y115 y116 y117 y118 y119 y120 y121 y122 y123 y124 y125 y126 y127 y128 y129 y130 y131 y132 y133 y134 y135 y136 y137 y138 y139 y140 y141 y142 y143 y144 y145 y146 y147 y148 y149 y150 y151 y152 y153 y154 y155 y156 : Value) (wy : World), Below x.heap.size x wy → K { tmps := #[.slice a0 nn c0, x1, x2, x3, x4, .pointer (some ⟨B + 2, 0, none⟩), x6, x7, x8, x9, x10, x11, .int .i64 ((k : Nat) : Int), y13, y14, x15, y16, y17, x18, x19, x20, x21, x22, x23, x24, x25, x26, x27, x28, x29, x30, x31, x32, x33, x34, x35, x36, x37, x38, x39, x40, x41, x42, x43, x44, x45, x46, x47, x48, x49, x50, x51, x52, x53, x54, x55, x56, x57, x58, x59, x60, x61, x62, x63, x64, x65, x66, x67, x68, x69, x70, x71, x72, x73, x74, x75, x76, x77, x78, x79, x80, x81, x82, x83, x84, x85, x86, x87, x88, x89, x90, x91, y92, y93, y94, y95, y96, y97, y98, y99, y100, y101, y102, y103, y104, y105, y106, y107, y108, y109, y110, y111, y112, y113, y114, y115, y116, y117, y118, y119, y120, y121, y122, y123, y124, y125, y126, y127, y128, y129, y130, y131, y132, y133, y134, y135, y136, y137, y138, y139, y140, y141, y142, y143, y144, y145, y146, y147, y148, y149, y150, y151, y152, y153, y154, y155, y156, x157, x158, x159, x160, x161, x162], defers := [] } wy) :
    Code.wp Yba.prog uX (only K) { tmps := #[.slice a0 nn c0, x1, x2, x3, x4, .pointer (some ⟨B + 2, 0, none⟩), x6, x7, x8, x9, x10, x11, .int .i64 ((k : Nat) : Int), x13, x14, x15, x16, x17, x18, x19, x20, x21, x22, x23, x24, x25, x26, x27, x28, x29, x30, x31, x32, x33, x34, x35, x36, x37, x38, x39, x40, x41, x42, x43, x44, x45, x46, x47, x48, x49, x50, x51, x52, x53, x54, x55, x56, x57, x58, x59, x60, x61, x62, x63, x64, x65, x66, x67, x68, x69, x70, x71, x72, x73, x74, x75, x76, x77, x78, x79, x80, x81, x82, x83, x84, x85, x86, x87, x88, x89, x90, x91, x92, x93, x94, x95, x96, x97, x98, x99, x100, x101, x102, x103, x104, x105, x106, x107, x108, x109, x110, x111, x112, x113, x114, x115, x116, x117, x118, x119, x120, x121, x122, x123, x124, x125, x126, x127, x128, x129, x130, x131, x132, x133, x134, x135, x136, x137, x138, x139, x140, x141, x142, x143, x144, x145, x146, x147, x148, x149, x150, x151, x152, x153, x154, x155, x156, x157, x158, x159, x160, x161, x162], defers := [] } x := by
  rw [uX_eq]
  have q := hT.mp.look law28 Yba.underlying46 (zero34 _) (key_all (n := k) (by omega)) (kL_ok _)
  rw [hT.old k hk] at q
  refine wp_seq (wp_use (l3r27 k (B + 2) (B + 1) _ x (by omega) hT.tbl q _ ?_))
  intro y92 y93 y94 y95 y96 y97 y98 y99
  refine wp_seq (wp_seq (wp_use (l3r28 ⟨Sb k, 0, none⟩ x _ ?_)))
  intro y100
  refine wp_cond_false (by kernel_rfl) ?_
  refine wp_skip ?_
  refine wp_seq (wp_use (l3r30 x _ ?_))
  refine wp_seq (wp_use (l3ent E B L w x a0 nn c0 k F Sb v cs hT hnn hk HB h0 _ ?_))
  intro y16 y17 y102 y103 y104 y105 y106 y107 y108 y109 y110 y111 y112 y113 y114 y115 y116 y117 y118 y119 y120 y121 y122 y123 y124 y125 y126 y127 y128 y129 y130 y131 y132 y133 y134 y135 y136 y137 y138 y139 y140 y141 y142 y143 y144 y145 y146 y147 y148 y149 wy hby
  have hN := (hT.below hby).sh k hk
  obtain ⟨ga, c, hv⟩ := own_slice (hT.row k hk)
  rw [hv] at hN
  refine wp_seq (wp_use (l3r42 (Sb k) (cnt E k nn) c ga wy hN _ ?_))
  intro y150 y151 y152 y153 y154 y155
  refine wp_cond_false (by kernel_rfl) ?_
  refine wp_skip ?_
  exact hK _ _ y16 y17 y92 y93 y94 y95 y96 y97 y98 y99 y100 _ y102 y103 y104 y105 y106 y107 y108 y109 y110 y111 y112 y113 y114 y115 y116 y117 y118 y119 y120 y121 y122 y123 y124 y125 y126 y127 y128 y129 y130 y131 y132 y133 y134 y135 y136 y137 y138 y139 y140 y141 y142 y143 y144 y145 y146 y147 y148 y149 y150 y151 y152 y153 y154 y155 _ wy hby
set_option maxRecDepth 100000 in
set_option maxHeartbeats 1000000 in
theorem l3sh (E : Nat → Ent) (B L : Nat) (w x : World) (a0 : Option Addr) (nn c0 : Nat) (F : Lit → Option Value) (Sb : Nat → Nat) (v : Nat → Value) (cs : Nat → List Value) (hT : T1 E B L w x nn F Sb v cs) (hnn : nn ≤ 1024) (HB : w.heap.size = B) (h0 : Given E a0 nn w) {x1 x2 x3 x4 x6 x7 x8 x9 x10 x11 x12 x13 x14 x15 x16 x17 x18 x19 x20 x21 x22 x23 x24 x25 x26 x27 x28 x29 x30 x31 x32 x33 x34 x35 x36 x37 x38 x39 x40 x41 x42 x43 x44 x45 x46 x47 x48 x49 x50 x51 x52 x53 x54 x55 x56 x57 x58 x59 x60 x61 x62 x63 x64 x65 x66 x67 x68 x69 x70 x71 x72 x73 x74 x75 x76 x77 x78 x79 x80 x81 x82 x83 x84 x85 x86 x87 x88 x89 x90 x91 x92 x93 x94 x95 x96 x97 x98 x99 x100 x101 x102 x103 x104 x105 x106 x107 x108 x109 x110 x111 x112 x113 x114 x115 x116 x117 x118 x119 x120 x121 x122 x123 x124 x125 x126 x127 x128 x129 x130 x131 x132 x133 x134 x135 x136 x137 x138 x139 x140 x141 x142 x143 x144 x145 x146 x147 x148 x149 x150 x151 x152 x153 x154 x155 x156 x157 x158 x159 x160 x161 x162 : Value} (K : Act → World → Prop)
    (hK : ∀ (y12 y13 y14 y16 y17 y88 y89 y90 y91 y92 y93 y94 y95 y96 y97 y98 y99 y100 y101 y102 y103 y104 y105 y106 y107 y108 y109 y110 y111 y112 y113 y114 y115 y116 y117 y118 y119 y120 y121 y122 y123 y124 y125 y126 y127 y128 y129 y130 y131 y132 y133 y134 y135 y136 y137 y138 y139 y140 y141 y142 y143 y144 y145 y146 y147 y148 y149 y150 y151 y152 y153 y154 y155 y156 : Value) (wy : World), Below x.heap.size x wy → K { tmps := #[.slice a0 nn c0, x1, x2, x3, x4, .pointer (some ⟨B + 2, 0, none⟩), x6, x7, x8, x9, x10, x11, y12, y13, y14, x15, y16, y17, x18, x19, x20, x21, x22, x23, x24, x25, x26, x27, x28, x29, x30, x31, x32, x33, x34, x35, x36, x37, x38, x39, x40, x41, x42, x43, x44, x45, x46, x47, x48, x49, x50, x51, x52, x53, x54, x55, x56, x57, x58, x59, x60, x61, x62, x63, x64, x65, x66, x67, x68, x69, x70, x71, x72, x73, x74, x75, x76, x77, x78, x79, x80, x81, x82, x83, x84, x85, x86, x87, y88, y89, y90, y91, y92, y93, y94, y95, y96, y97, y98, y99, y100, y101, y102, y103, y104, y105, y106, y107, y108, y109, y110, y111, y112, y113, y114, y115, y116, y117, y118, y119, y120, y121, y122, y123, y124, y125, y126, y127, y128, y129, y130, y131, y132, y133, y134, y135, y136, y137, y138, y139, y140, y141, y142, y143, y144, y145, y146, y147, y148, y149, y150, y151, y152, y153, y154, y155, y156, x157, x158, x159, x160, x161, x162], defers := [] } wy) :
    Code.wp Yba.prog (headC (dropC 8 f3b)) (only K) { tmps := #[.slice a0 nn c0, x1, x2, x3, x4, .pointer (some ⟨B + 2, 0, none⟩), x6, x7, x8, x9, x10, x11, x12, x13, x14, x15, x16, x17, x18, x19, x20, x21, x22, x23, x24, x25, x26, x27, x28, x29, x30, x31, x32, x33, x34, x35, x36, x37, x38, x39, x40, x41, x42, x43, x44, x45, x46, x47, x48, x49, x50, x51, x52, x53, x54, x55, x56, x57, x58, x59, x60, x61, x62, x63, x64, x65, x66, x67, x68, x69, x70, x71, x72, x73, x74, x75, x76, x77, x78, x79, x80, x81, x82, x83, x84, x85, x86, x87, x88, x89, x90, x91, x92, x93, x94, x95, x96, x97, x98, x99, x100, x101, x102, x103, x104, x105, x106, x107, x108, x109, x110, x111, x112, x113, x114, x115, x116, x117, x118, x119, x120, x121, x122, x123, x124, x125, x126, x127, x128, x129, x130, x131, x132, x133, x134, x135, x136, x137, x138, x139, x140, x141, x142, x143, x144, x145, x146, x147, x148, x149, x150, x151, x152, x153, x154, x155, x156, x157, x158, x159, x160, x161, x162], defers := [] } x := by
  rw [u_eq]
  refine wp_seq (wp_use (l3r24 x _ ?_))
  refine wp_block (wp_loop (fun a wq => ∃ (y13 y14 y16 y17 y88 y89 y90 y91 y92 y93 y94 y95 y96 y97 y98 y99 y100 y101 y102 y103 y104 y105 y106 y107 y108 y109 y110 y111 y112 y113 y114 y115 y116 y117 y118 y119 y120 y121 y122 y123 y124 y125 y126 y127 y128 y129 y130 y131 y132 y133 y134 y135 y136 y137 y138 y139 y140 y141 y142 y143 y144 y145 y146 y147 y148 y149 y150 y151 y152 y153 y154 y155 y156 : Value) (k : Nat), k ≤ 3 ∧ a = { tmps := #[.slice a0 nn c0, x1, x2, x3, x4, .pointer (some ⟨B + 2, 0, none⟩), x6, x7, x8, x9, x10, x11, .int .i64 ((k : Nat) : Int), y13, y14, x15, y16, y17, x18, x19, x20, x21, x22, x23, x24, x25, x26, x27, x28, x29, x30, x31, x32, x33, x34, x35, x36, x37, x38, x39, x40, x41, x42, x43, x44, x45, x46, x47, x48, x49, x50, x51, x52, x53, x54, x55, x56, x57, x58, x59, x60, x61, x62, x63, x64, x65, x66, x67, x68, x69, x70, x71, x72, x73, x74, x75, x76, x77, x78, x79, x80, x81, x82, x83, x84, x85, x86, x87, y88, y89, y90, y91, y92, y93, y94, y95, y96, y97, y98, y99, y100, y101, y102, y103, y104, y105, y106, y107, y108, y109, y110, y111, y112, y113, y114, y115, y116, y117, y118, y119, y120, y121, y122, y123, y124, y125, y126, y127, y128, y129, y130, y131, y132, y133, y134, y135, y136, y137, y138, y139, y140, y141, y142, y143, y144, y145, y146, y147, y148, y149, y150, y151, y152, y153, y154, y155, y156, x157, x158, x159, x160, x161, x162], defers := [] } ∧ Below x.heap.size x wq) (fun a _ => 3 - (intOf (a.tmps.getD 12 undef)).toNat) ⟨x13, x14, x16, x17, x88, x89, x90, x91, x92, x93, x94, x95, x96, x97, x98, x99, x100, x101, x102, x103, x104, x105, x106, x107, x108, x109, x110, x111, x112, x113, x114, x115, x116, x117, x118, x119, x120, x121, x122, x123, x124, x125, x126, x127, x128, x129, x130, x131, x132, x133, x134, x135, x136, x137, x138, x139, x140, x141, x142, x143, x144, x145, x146, x147, x148, x149, x150, x151, x152, x153, x154, x155, x156, 0, by omega, rfl, Below.refl _ _⟩ ?_)
  rintro a wr ⟨y13, y14, y16, y17, y88, y89, y90, y91, y92, y93, y94, y95, y96, y97, y98, y99, y100, y101, y102, y103, y104, y105, y106, y107, y108, y109, y110, y111, y112, y113, y114, y115, y116, y117, y118, y119, y120, y121, y122, y123, y124, y125, y126, y127, y128, y129, y130, y131, y132, y133, y134, y135, y136, y137, y138, y139, y140, y141, y142, y143, y144, y145, y146, y147, y148, y149, y150, y151, y152, y153, y154, y155, y156, k, hk, rfl, hbr⟩
  refine wp_seq (wp_seq (wp_use (l3r25 k wr _ ?_)))
  intro y88
  refine wp_cond (t := decide ((k : Int) < 3)) (by kernel_rfl) ?_
  by_cases hk3 : k < 3
  · rw [decide_eq_true (show (k : Int) < 3 by omega), if_pos rfl]
    refine wp_skip ?_
    refine wp_seq (wp_block (wp_use (l3ubody E B L w wr a0 nn c0 k F Sb v cs (hT.below hbr) hnn hk3 HB h0 _ ?_)))
    intro z13 z14 z16 z17 z92 z93 z94 z95 z96 z97 z98 z99 z100 z101 z102 z103 z104 z105 z106 z107 z108 z109 z110 z111 z112 z113 z114 z115 z116 z117 z118 z119 z120 z121 z122 z123 z124 z125 z126 z127 z128 z129 z130 z131 z132 z133 z134 z135 z136 z137 z138 z139 z140 z141 z142 z143 z144 z145 z146 z147 z148 z149 z150 z151 z152 z153 z154 z155 z156 wy hby
    refine wp_use (l3r26 k wy hk3 _ ?_)
    intro z90 z91
    refine ⟨⟨z13, z14, z16, z17, _, _, z90, z91, z92, z93, z94, z95, z96, z97, z98, z99, z100, z101, z102, z103, z104, z105, z106, z107, z108, z109, z110, z111, z112, z113, z114, z115, z116, z117, z118, z119, z120, z121, z122, z123, z124, z125, z126, z127, z128, z129, z130, z131, z132, z133, z134, z135, z136, z137, z138, z139, z140, z141, z142, z143, z144, z145, z146, z147, z148, z149, z150, z151, z152, z153, z154, z155, z156, k + 1, hk3, rfl, hbr.trans (below_le hby hbr.size)⟩, ?_⟩
    show 3 - (intOf (.int .i64 ((k + 1 : Nat) : Int))).toNat < 3 - (intOf (.int .i64 (k : Int))).toNat
    simp only [intOf]
    omega
  · rw [decide_eq_false (show ¬ (k : Int) < 3 by omega), if_neg Bool.false_ne_true]
    refine wp_exit ?_
    exact hK _ y13 y14 y16 y17 _ _ y90 y91 y92 y93 y94 y95 y96 y97 y98 y99 y100 y101 y102 y103 y104 y105 y106 y107 y108 y109 y110 y111 y112 y113 y114 y115 y116 y117 y118 y119 y120 y121 y122 y123 y124 y125 y126 y127 y128 y129 y130 y131 y132 y133 y134 y135 y136 y137 y138 y139 y140 y141 y142 y143 y144 y145 y146 y147 y148 y149 y150 y151 y152 y153 y154 y155 y156 wr hbr
set_option maxRecDepth 100000 in
set_option maxHeartbeats 1000000 in
theorem law_main (E : Nat → Ent) (a0 : Option Addr) (nn c0 q : Nat) (w : World) (hnn : nn ≤ 1024) (hq : q ≤ 255) (h0 : Given E a0 nn w) :
    Calls Yba.prog 3 #[.slice a0 nn c0, .int .u8 (q : Nat)] w fun e w' => e = .returned (.bool true) ∧ Below w.heap.size w w' := by
  have H0 := hid h0
  go_enter Yba.func3, Yba.ntmps3
  change Code.wp Yba.prog f3b _ _ _
  rw [f3b_eq]
  have hsel : q % 4 < 4 := Nat.mod_lt _ (by omega)
  refine wp_seq (wp_use (l3r0 w _ ?_))
  refine wp_seq (wp_seq (wp_use (l3r1 a0 nn c0 w hnn _ ?_)))
  intro y18 y19
  refine wp_cond_false (by kernel_rfl) ?_
  refine wp_skip ?_
  refine wp_seq (wp_use (l3r3 E a0 nn c0 w hnn h0 _ ?_))
  intro y21 y22 x1 L F Sb v cs hT1
  refine wp_seq (wp_use (l3r4 q x1 hq _ ?_))
  intro y23 y24 y25
  refine wp_seq (wp_use (l3r5 E w.heap.size L w x1 nn (q % 4) F Sb v cs hnn hsel hT1 _ ?_))
  intro y26 y27 y28 y29 y30 G x2 hb2 hG hz
  have hT2 := hT1.below hb2
  refine wp_seq (wp_use (l3r6 x2 _ ?_))
  refine wp_seq (wp_use (l3want E a0 nn c0 (q % 4) w.heap.size w x2 hnn hsel rfl h0 hT2.bel (by have := hT2.size; have := hT2.lL; omega) _ ?_))
  intro y10 y31 y32 y33 y34 y35 y36 y37 y38 y39 y40 y41 y42 y43 y44 y45 y46 y47 y48 y49 y50 y51 y52 y53 y54 y55 y56 y57 y58 y59 y60 y61 y62 W x3 hb3 hW
  have hT3 := hT2.below hb3
  refine wp_seq (wp_use (l3cmp (hcs E (q % 4) nn) x1.heap.size x2.heap.size (hls E (q % 4) nn) G W x3 (by have := hcs_le (E := E) (sel := q % 4) nn; omega) (own_below hG hb3) hW hz (fun p hp => hls_at hp) _ ?_))
  intro y11 y63 y64 y65 y66 y67 y68 y69 y70 y71 y72 y73 y74 y75 y76 y77 y78 y79 y80 y81 y82 y83 y84 y85 y86 y87 x4 hb4
  have hT4 := hT3.below hb4
  refine wp_seq (wp_use (l3sh E w.heap.size L w x4 a0 nn c0 F Sb v cs hT4 hnn rfl h0 _ ?_))
  intro y12 y13 y14 y16 y17 y88 y89 y90 y91 y92 y93 y94 y95 y96 y97 y98 y99 y100 y101 y102 y103 y104 y105 y106 y107 y108 y109 y110 y111 y112 y113 y114 y115 y116 y117 y118 y119 y120 y121 y122 y123 y124 y125 y126 y127 y128 y129 y130 y131 y132 y133 y134 y135 y136 y137 y138 y139 y140 y141 y142 y143 y144 y145 y146 y147 y148 y149 y150 y151 y152 y153 y154 y155 y156 x5 hb5
  have hT5 := hT4.below hb5
  refine wp_seq (wp_use (l3r44 (w.heap.size + 2) (w.heap.size + 1) x5 hT5.tbl (fun ty => hT5.mp.len Yba.underlying46 ty) _ ?_))
  intro y157 y158 y159 y160 y161 y162
  change Code.wp Yba.prog Code.ret _ _ _
  have HT5 := hid hT5
  clear hT1 hT2 hT3 hT4 hT5 hb2 hb3 hb4 hb5 hG hW hz
  go_wp2_with fail
  go_ret
  exact ⟨rfl, HT5.out.bel⟩
end Go.Proofs.Ybulkblzu

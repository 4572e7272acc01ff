import Derived.Test.YbulkblzuLaw3
namespace Go.Proofs.Ybulkblzu
open Go.RowKit Go.Maps Go.WideMaps
set_option linter.unusedVariables false
set_option linter.unusedSimpArgs false
section
variable {E : Nat → Ent} {sel i : Nat}
theorem hcs_yes (h : (decide (sel < 3) && (decide ((E i).own % 3 = sel) && (E i).held)) = true) : hcs E sel (i + 1) = hcs E sel i + 1 ∧ hls E sel (i + 1) = hls E sel i ++ adC (E i) := by
  rw [Bool.and_eq_true] at h
  have h3 := of_decide_eq_true h.1
  have hh : hit E sel i = true := h.2
  exact ⟨by rw [hcs, hcs, if_pos h3, if_pos h3, hc_yes hh], by rw [hls, hls, if_pos h3, if_pos h3, hl_yes hh]⟩
theorem hcs_no (h : (decide (sel < 3) && (decide ((E i).own % 3 = sel) && (E i).held)) = false) : hcs E sel (i + 1) = hcs E sel i ∧ hls E sel (i + 1) = hls E sel i := by
  by_cases h3 : sel < 3
  · rw [decide_eq_true h3, Bool.true_and] at h
    have hh : hit E sel i = false := h
    exact ⟨by rw [hcs, hcs, if_pos h3, if_pos h3, hc_no hh], by rw [hls, hls, if_pos h3, if_pos h3, hl_no hh]⟩
  · exact ⟨by rw [hcs, hcs, if_neg h3, if_neg h3], by rw [hls, hls, if_neg h3, if_neg h3]⟩
theorem hcs_le (n : Nat) : hcs E sel n ≤ n := by
  unfold hcs
  split
  · exact hc_le sel n
  · exact Nat.zero_le _
theorem hls_at {n p : Nat} (h : p < hcs E sel n) : ∃ e : Ent, ∀ c, c < 22 → (hls E sel n)[p * 22 + c]? = (adC e)[c]? := by
  unfold hcs at h
  unfold hls
  split at h
  · rename_i h3
    rw [if_pos h3]
    obtain ⟨i, _, hi⟩ := hl_at (E := E) sel h
    exact ⟨_, hi⟩
  · omega
end
theorem hcs_zero (E : Nat → Ent) (sel : Nat) : hcs E sel 0 = 0 := by unfold hcs; split <;> rfl
theorem hls_zero (E : Nat → Ent) (sel : Nat) : hls E sel 0 = [] := by unfold hls; split <;> rfl
/-- A row's shape. -/
theorem own_slice {w : World} {base : Nat} {e : TypeId} {size : Nat} {v : Value} {n : Nat} {xs : List Value} (h : w.ownsRow base e size v n xs) : ∃ g c, v = .slice g n c := by
  obtain ⟨_, ⟨h, h0⟩ | ⟨gg, cap, _, h, _⟩⟩ := h
  · exact ⟨none, 0, by rw [h, h0]⟩
  · exact ⟨_, _, h⟩
set_option maxRecDepth 100000 in
set_option maxHeartbeats 1000000 in
theorem l3wbody (E : Nat → Ent) (b off nn c0 i sel X : Nat) (W : Value) (wa : World) (hi : i < 1024) (hin : (i : Int) < (nn : Int)) (hsel : sel < 4) (hown : (E i).own ≤ 255) (q0 : wa.cell? ⟨b, off + i * 5, none⟩ = some (.int .u8 (E i).id)) (q1 : wa.cell? ⟨b, off + i * 5 + 1, none⟩ = some (.string (E i).host)) (q2 : wa.cell? ⟨b, off + i * 5 + 2, none⟩ = some (.int .u16 (E i).port)) (q3 : wa.cell? ⟨b, off + i * 5 + 3, none⟩ = some (.bool (E i).held)) (q4 : wa.cell? ⟨b, off + i * 5 + 4, none⟩ = some (.int .u8 (E i).own)) (hrow : wa.ownsRow X 33 22 W (hcs E sel i) (hls E sel i)) (hX : X ≤ wa.heap.size) {x0 x1 x2 x3 x4 x5 x7 x9 x10 x11 x12 x13 x14 x15 x16 x17 x18 x19 x20 x21 x22 x23 x24 x25 x26 x27 x28 x29 x30 x32 x34 x35 x36 x37 x38 x39 x40 x41 x42 x43 x44 x45 x46 x47 x48 x49 x50 x51 x52 x53 x54 x55 x56 x57 x58 x59 x60 x61 x62 x63 x64 x65 x66 x67 x68 x69 x70 x71 x72 x73 x74 x75 x76 x77 x78 x79 x80 x81 x82 x83 x84 x85 x86 x87 x88 x89 x90 x91 x92 x93 x94 x95 x96 x97 x98 x99 x100 x101 x102 x103 x104 x105 x106 x107 x108 x109 x110 x111 x112 x113 x114 x115 x116 x117 x118 x119 x120 x121 x122 x123 x124 x125 x126 x127 x128 x129 x130 x131 x132 x133 x134 x135 x136 x137 x138 x139 x140 x141 x142 x143 x144 x145 x146 x147 x148 x149 x150 x151 x152 x153 x154 x155 x156 x157 x158 x159 x160 x161 x162 : Value} (K : Act → World → Prop)
    (hK : ∀ (y10 y35 y36 y37 y38 y39 y40 y41 y42 y43 y44 y45 y46 y47 y48 y49 y50 y51 y52 y53 y54 y55 y56 y57 y58 y59 y60 y61 W' : Value) (wy : World), Below X wa wy → wy.ownsRow X 33 22 W' (hcs E sel (i + 1)) (hls E sel (i + 1)) → K { tmps := #[x0, x1, x2, x3, x4, x5, .int .i64 ((sel : Nat) : Int), x7, W', x9, y10, x11, x12, x13, x14, x15, x16, x17, x18, x19, x20, x21, x22, x23, x24, x25, x26, x27, x28, x29, x30, .slice (some ⟨b, off, none⟩) nn c0, x32, .int .i64 ((i : Nat) : Int), x34, y35, y36, y37, y38, y39, y40, y41, y42, y43, y44, y45, y46, y47, y48, y49, y50, y51, y52, y53, y54, y55, y56, y57, y58, y59, y60, y61, x62, x63, x64, x65, x66, x67, x68, x69, x70, x71, x72, x73, x74, x75, x76, x77, x78, x79, x80, x81, x82, x83, x84, x85, x86, x87, x88, x89, x90, x91, x92, x93, x94, x95, x96, x97, x98, x99, x100, x101, x102, x103, x104, x105, x106, x107, x108, x109, x110, x111, x112, x113, x114, x115, x116, x117, x118, x119, x120, x121, x122, x123, x124, x125, x126, x127, x128, x129, x130, x131, x132, x133, x134, x135, x136, x137, x138, x139, x140, x141, x142, x143, x144, x145, x146, x147, x148, x149, x150, x151, x152, x153, x154, x155, x156, x157, x158, x159, x160, x161, x162], defers := [] } wy) :
    Code.wp Yba.prog wX (only K) { tmps := #[x0, x1, x2, x3, x4, x5, .int .i64 ((sel : Nat) : Int), x7, W, x9, x10, x11, x12, x13, x14, x15, x16, x17, x18, x19, x20, x21, x22, x23, x24, x25, x26, x27, x28, x29, x30, .slice (some ⟨b, off, none⟩) nn c0, x32, .int .i64 ((i : Nat) : Int), x34, x35, x36, x37, x38, x39, x40, x41, x42, x43, x44, x45, x46, x47, x48, x49, x50, x51, x52, x53, x54, x55, x56, x57, x58, x59, x60, x61, x62, x63, x64, x65, x66, x67, x68, x69, x70, x71, x72, x73, x74, x75, x76, x77, x78, x79, x80, x81, x82, x83, x84, x85, x86, x87, x88, x89, x90, x91, x92, x93, x94, x95, x96, x97, x98, x99, x100, x101, x102, x103, x104, x105, x106, x107, x108, x109, x110, x111, x112, x113, x114, x115, x116, x117, x118, x119, x120, x121, x122, x123, x124, x125, x126, x127, x128, x129, x130, x131, x132, x133, x134, x135, x136, x137, x138, x139, x140, x141, x142, x143, x144, x145, x146, x147, x148, x149, x150, x151, x152, x153, x154, x155, x156, x157, x158, x159, x160, x161, x162], defers := [] } wa := by
  rw [wX_eq]
  have hm : hcs E sel i < 1024 := by have := hcs_le (E := E) (sel := sel) i; omega
  refine wp_seq (wp_use (l3r9 (E i) b off nn c0 i wa hin q0 q1 q2 q3 q4 _ ?_))
  intro y35 y36
  have h7 : (wa.alloc (.cells (enR (E i)) 31)).heap[wa.heap.size]? = some (.cells (enR (E i)) 31 (0, 0)) := heap_alloc_new _ _
  have bA : Below X wa (wa.alloc (.cells (enR (E i)) 31)) := below_le (al (Below.refl _ _) _) hX
  refine wp_seq (wp_use (l3r10 (E i) wa.heap.size sel _ h7 hsel hown _ ?_))
  intro y37 y38 y39 y40 y41 y42 y43 y44 y45 y46 y47 y48 y49
  refine wp_cond (t := (decide (sel < 3) && (decide ((E i).own % 3 = sel) && (E i).held))) (by kernel_rfl) ?_
  cases hh : (decide (sel < 3) && (decide ((E i).own % 3 = sel) && (E i).held)) with
  | false =>
    obtain ⟨e1, e2⟩ := hcs_no hh
    refine wp_skip ?_
    exact hK _ y35 y36 y37 y38 y39 y40 y41 y42 y43 y44 y45 y46 y47 y48 y49 _ x51 x52 x53 x54 x55 x56 x57 x58 x59 x60 x61 W _ bA (by rw [e1, e2]; exact hrow.alloc _)
  | true =>
    obtain ⟨e1, e2⟩ := hcs_yes hh
    refine wp_use (l3r11 (E i) wa.heap.size X (hcs E sel i) W (hls E sel i) _ h7 (hrow.alloc _) hm (by simp; omega) _ ?_)
    intro y51 y52 y53 y54 y55 y56 y57 y58 y59 y60 y61 gn cn wy h1 h2
    refine hK _ y35 y36 y37 y38 y39 y40 y41 y42 y43 y44 y45 y46 y47 y48 y49 _ y51 y52 y53 y54 y55 y56 y57 y58 y59 y60 y61 _ wy ?_ (by rw [e1, e2]; exact h1)
    exact (bA.trans (below_le (al (Below.refl _ _) _) (by simp; omega))).grown h2 (by simp; omega) (fun k hk => (hrow.lt k hk).1)
set_option maxRecDepth 100000 in
set_option maxHeartbeats 1000000 in
theorem l3want (E : Nat → Ent) (a0 : Option Addr) (nn c0 sel B : Nat) (w x : World) (hnn : nn ≤ 1024) (hsel : sel < 4) (HB : w.heap.size = B) (h0 : Given E a0 nn w) (hbw : Below B w x) (hBx : B ≤ x.heap.size) {x1 x2 x3 x4 x5 x7 x9 x10 x11 x12 x13 x14 x15 x16 x17 x18 x19 x20 x21 x22 x23 x24 x25 x26 x27 x28 x29 x30 x31 x32 x33 x34 x35 x36 x37 x38 x39 x40 x41 x42 x43 x44 x45 x46 x47 x48 x49 x50 x51 x52 x53 x54 x55 x56 x57 x58 x59 x60 x61 x62 x63 x64 x65 x66 x67 x68 x69 x70 x71 x72 x73 x74 x75 x76 x77 x78 x79 x80 x81 x82 x83 x84 x85 x86 x87 x88 x89 x90 x91 x92 x93 x94 x95 x96 x97 x98 x99 x100 x101 x102 x103 x104 x105 x106 x107 x108 x109 x110 x111 x112 x113 x114 x115 x116 x117 x118 x119 x120 x121 x122 x123 x124 x125 x126 x127 x128 x129 x130 x131 x132 x133 x134 x135 x136 x137 x138 x139 x140 x141 x142 x143 x144 x145 x146 x147 x148 x149 x150 x151 x152 x153 x154 x155 x156 x157 x158 x159 x160 x161 x162 : Value} (K : Act → World → Prop)
    (hK : ∀ (y10 y31 y32 y33 y34 y35 y36 y37 y38 y39 y40 y41 y42 y43 y44 y45 y46 y47 y48 y49 y50 y51 y52 y53 y54 y55 y56 y57 y58 y59 y60 y61 y62 W : Value) (wy : World), Below x.heap.size x wy → wy.ownsRow x.heap.size 33 22 W (hcs E sel nn) (hls E sel nn) → K { tmps := #[.slice a0 nn c0, x1, x2, x3, x4, x5, .int .i64 ((sel : Nat) : Int), x7, W, x9, y10, x11, x12, x13, x14, x15, x16, x17, x18, x19, x20, x21, x22, x23, x24, x25, x26, x27, x28, x29, x30, y31, y32, y33, y34, y35, y36, y37, y38, y39, y40, y41, y42, y43, y44, y45, y46, y47, y48, y49, y50, y51, y52, y53, y54, y55, y56, y57, y58, y59, y60, y61, y62, x63, x64, x65, x66, x67, x68, x69, x70, x71, x72, x73, x74, x75, x76, x77, x78, x79, x80, x81, x82, x83, x84, x85, x86, x87, x88, x89, x90, x91, x92, x93, x94, x95, x96, x97, x98, x99, x100, x101, x102, x103, x104, x105, x106, x107, x108, x109, x110, x111, x112, x113, x114, x115, x116, x117, x118, x119, x120, x121, x122, x123, x124, x125, x126, x127, x128, x129, x130, x131, x132, x133, x134, x135, x136, x137, x138, x139, x140, x141, x142, x143, x144, x145, x146, x147, x148, x149, x150, x151, x152, x153, x154, x155, x156, x157, x158, x159, x160, x161, x162], defers := [] } wy) :
    Code.wp Yba.prog (headC (dropC 6 f3b)) (only K) { tmps := #[.slice a0 nn c0, x1, x2, x3, x4, x5, .int .i64 ((sel : Nat) : Int), x7, .slice none 0 0, x9, x10, x11, x12, x13, x14, x15, x16, x17, x18, x19, x20, x21, x22, x23, x24, x25, x26, x27, x28, x29, x30, x31, x32, x33, x34, x35, x36, x37, x38, x39, x40, x41, x42, x43, x44, x45, x46, x47, x48, x49, x50, x51, x52, x53, x54, x55, x56, x57, x58, x59, x60, x61, x62, x63, x64, x65, x66, x67, x68, x69, x70, x71, x72, x73, x74, x75, x76, x77, x78, x79, x80, x81, x82, x83, x84, x85, x86, x87, x88, x89, x90, x91, x92, x93, x94, x95, x96, x97, x98, x99, x100, x101, x102, x103, x104, x105, x106, x107, x108, x109, x110, x111, x112, x113, x114, x115, x116, x117, x118, x119, x120, x121, x122, x123, x124, x125, x126, x127, x128, x129, x130, x131, x132, x133, x134, x135, x136, x137, x138, x139, x140, x141, x142, x143, x144, x145, x146, x147, x148, x149, x150, x151, x152, x153, x154, x155, x156, x157, x158, x159, x160, x161, x162], defers := [] } x := by
  rw [w_eq]
  refine wp_seq (wp_use (l3r7 a0 nn c0 x _ ?_))
  refine wp_block (wp_loop (fun a wq => ∃ (y10 y34 y35 y36 y37 y38 y39 y40 y41 y42 y43 y44 y45 y46 y47 y48 y49 y50 y51 y52 y53 y54 y55 y56 y57 y58 y59 y60 y61 y62 W : Value) (i : Nat), i ≤ nn ∧ a = { tmps := #[.slice a0 nn c0, x1, x2, x3, x4, x5, .int .i64 ((sel : Nat) : Int), x7, W, x9, y10, x11, x12, x13, x14, x15, x16, x17, x18, x19, x20, x21, x22, x23, x24, x25, x26, x27, x28, x29, x30, .slice a0 nn c0, .int .i64 ((nn : Nat) : Int), .int .i64 ((i : Nat) : Int), y34, y35, y36, y37, y38, y39, y40, y41, y42, y43, y44, y45, y46, y47, y48, y49, y50, y51, y52, y53, y54, y55, y56, y57, y58, y59, y60, y61, y62, x63, x64, x65, x66, x67, x68, x69, x70, x71, x72, x73, x74, x75, x76, x77, x78, x79, x80, x81, x82, x83, x84, x85, x86, x87, x88, x89, x90, x91, x92, x93, x94, x95, x96, x97, x98, x99, x100, x101, x102, x103, x104, x105, x106, x107, x108, x109, x110, x111, x112, x113, x114, x115, x116, x117, x118, x119, x120, x121, x122, x123, x124, x125, x126, x127, x128, x129, x130, x131, x132, x133, x134, x135, x136, x137, x138, x139, x140, x141, x142, x143, x144, x145, x146, x147, x148, x149, x150, x151, x152, x153, x154, x155, x156, x157, x158, x159, x160, x161, x162], defers := [] } ∧ Below x.heap.size x wq ∧ wq.ownsRow x.heap.size 33 22 W (hcs E sel i) (hls E sel i)) (fun a _ => nn - (intOf (a.tmps.getD 33 undef)).toNat) ⟨x10, x34, x35, x36, x37, x38, x39, x40, x41, x42, x43, x44, x45, x46, x47, x48, x49, x50, x51, x52, x53, x54, x55, x56, x57, x58, x59, x60, x61, x62, _, 0, Nat.zero_le _, rfl, Below.refl _ _, ⟨by rw [hcs_zero, hls_zero]; rfl, Or.inl ⟨rfl, hcs_zero E sel⟩⟩⟩ ?_)
  rintro a wr ⟨y10, y34, y35, y36, y37, y38, y39, y40, y41, y42, y43, y44, y45, y46, y47, y48, y49, y50, y51, y52, y53, y54, y55, y56, y57, y58, y59, y60, y61, y62, W, i, hi, rfl, hbr, hrow⟩
  refine wp_seq (wp_use (l3r8 nn i wr _ ?_))
  refine wp_seq (wp_cond (t := decide (i < nn)) (by kernel_rfl) ?_)
  by_cases hin : i < nn
  · rw [decide_eq_true hin, if_pos rfl]
    refine wp_skip ?_
    obtain ⟨b, off, rfl, hb, hc0, hc1, hc2, hc3, hc4, hown⟩ := h0 i hin
    have hb' : b < B := by rw [← HB]; exact hb
    have up : ∀ o, wr.cell? ⟨b, o, none⟩ = w.cell? ⟨b, o, none⟩ := fun o => (hbr.cell (by show b < x.heap.size; omega)).trans (hbw.cell (by exact hb'))
    refine wp_seq (wp_block (wp_use (l3wbody E b off nn c0 i sel x.heap.size W wr (by omega) (by omega) hsel hown ((up _).trans hc0) ((up _).trans hc1) ((up _).trans hc2) ((up _).trans hc3) ((up _).trans hc4) hrow hbr.size _ ?_)))
    intro z10 z35 z36 z37 z38 z39 z40 z41 z42 z43 z44 z45 z46 z47 z48 z49 z50 z51 z52 z53 z54 z55 z56 z57 z58 z59 z60 z61 W' wy hby hrow'
    refine wp_use (l3r12 i wy (by omega) _ ?_)
    intro z62
    refine ⟨⟨z10, _, z35, z36, z37, z38, z39, z40, z41, z42, z43, z44, z45, z46, z47, z48, z49, z50, z51, z52, z53, z54, z55, z56, z57, z58, z59, z60, z61, z62, W', i + 1, hin, rfl, hbr.trans hby, hrow'⟩, ?_⟩
    show nn - (intOf (.int .i64 ((i + 1 : Nat) : Int))).toNat < nn - (intOf (.int .i64 (i : Int))).toNat
    simp only [intOf]
    omega
  · rw [decide_eq_false hin, if_neg Bool.false_ne_true]
    obtain rfl : nn = i := by omega
    refine wp_exit ?_
    exact hK y10 _ _ _ _ y35 y36 y37 y38 y39 y40 y41 y42 y43 y44 y45 y46 y47 y48 y49 y50 y51 y52 y53 y54 y55 y56 y57 y58 y59 y60 y61 y62 W wr hbr hrow
set_option maxRecDepth 100000 in
set_option maxHeartbeats 1000000 in
theorem l3cbody (e : Ent) (ga gb m c c2 j : Nat) (wa : World) (hj : j < m) (hA : wa.rangeAt ga (j * 22) (adC e)) (hB : wa.rangeAt gb (j * 22) (adC e)) {x0 x1 x2 x3 x4 x5 x6 x9 x10 x11 x12 x13 x14 x15 x16 x17 x18 x19 x20 x21 x22 x23 x24 x25 x26 x27 x28 x29 x30 x31 x32 x33 x34 x35 x36 x37 x38 x39 x40 x41 x42 x43 x44 x45 x46 x47 x48 x49 x50 x51 x52 x53 x54 x55 x56 x57 x58 x59 x60 x61 x62 x63 x64 x65 x66 x67 x68 x69 x70 x71 x72 x73 x74 x76 x77 x78 x79 x80 x81 x82 x83 x84 x85 x86 x87 x88 x89 x90 x91 x92 x93 x94 x95 x96 x97 x98 x99 x100 x101 x102 x103 x104 x105 x106 x107 x108 x109 x110 x111 x112 x113 x114 x115 x116 x117 x118 x119 x120 x121 x122 x123 x124 x125 x126 x127 x128 x129 x130 x131 x132 x133 x134 x135 x136 x137 x138 x139 x140 x141 x142 x143 x144 x145 x146 x147 x148 x149 x150 x151 x152 x153 x154 x155 x156 x157 x158 x159 x160 x161 x162 : Value} (K : Act → World → Prop)
    (hK : ∀ (y11 y77 y78 y79 y80 y81 y82 y83 y84 y85 y86 : Value), K { tmps := #[x0, x1, x2, x3, x4, x5, x6, .slice (some ⟨ga, 0, none⟩) m c, .slice (some ⟨gb, 0, none⟩) m c2, x9, x10, y11, x12, x13, x14, x15, x16, x17, x18, x19, x20, x21, x22, x23, x24, x25, x26, x27, x28, x29, x30, x31, x32, x33, x34, x35, x36, x37, x38, x39, x40, x41, x42, x43, x44, x45, x46, x47, x48, x49, x50, x51, x52, x53, x54, x55, x56, x57, x58, x59, x60, x61, x62, x63, x64, x65, x66, x67, x68, x69, x70, x71, x72, x73, x74, .int .i64 ((j : Nat) : Int), x76, y77, y78, y79, y80, y81, y82, y83, y84, y85, y86, x87, x88, x89, x90, x91, x92, x93, x94, x95, x96, x97, x98, x99, x100, x101, x102, x103, x104, x105, x106, x107, x108, x109, x110, x111, x112, x113, x114, x115, x116, x117, x118, x119, x120, x121, x122, x123, x124, x125, x126, x127, x128, x129, x130, x131, x132, x133, x134, x135, x136, x137, x138, x139, x140, x141, x142, x143, x144, x145, x146, x147, x148, x149, x150, x151, x152, x153, x154, x155, x156, x157, x158, x159, x160, x161, x162], defers := [] } wa.drew) :
    Code.wp Yba.prog cX (only K) { tmps := #[x0, x1, x2, x3, x4, x5, x6, .slice (some ⟨ga, 0, none⟩) m c, .slice (some ⟨gb, 0, none⟩) m c2, x9, x10, x11, x12, x13, x14, x15, x16, x17, x18, x19, x20, x21, x22, x23, x24, x25, x26, x27, x28, x29, x30, x31, x32, x33, x34, x35, x36, x37, x38, x39, x40, x41, x42, x43, x44, x45, x46, x47, x48, x49, x50, x51, x52, x53, x54, x55, x56, x57, x58, x59, x60, x61, x62, x63, x64, x65, x66, x67, x68, x69, x70, x71, x72, x73, x74, .int .i64 ((j : Nat) : Int), x76, x77, x78, x79, x80, x81, x82, x83, x84, x85, x86, x87, x88, x89, x90, x91, x92, x93, x94, x95, x96, x97, x98, x99, x100, x101, x102, x103, x104, x105, x106, x107, x108, x109, x110, x111, x112, x113, x114, x115, x116, x117, x118, x119, x120, x121, x122, x123, x124, x125, x126, x127, x128, x129, x130, x131, x132, x133, x134, x135, x136, x137, x138, x139, x140, x141, x142, x143, x144, x145, x146, x147, x148, x149, x150, x151, x152, x153, x154, x155, x156, x157, x158, x159, x160, x161, x162], defers := [] } wa := by
  rw [cX_eq]
  refine wp_seq (wp_use (l3r20 j wa _ ?_))
  intro y77
  refine wp_seq (wp_use (l3r21 e ga gb m c c2 j wa hj hA hB _ ?_))
  intro y78 y79 y80 y81 y82 y83 y84 y85
  refine wp_cond_false (by kernel_rfl) ?_
  refine wp_skip ?_
  exact hK _ y77 y78 y79 y80 y81 y82 y83 y84 y85 _
set_option maxRecDepth 100000 in
set_option maxHeartbeats 1000000 in
theorem l3cmp (m XG XW : Nat) (xs : List Value) (G W : Value) (x : World) (hm : m ≤ 1024) (hG : x.ownsRow XG 33 22 G m xs) (hW : x.ownsRow XW 33 22 W m xs) (hz : m = 0 → G = .slice none 0 0) (hat : ∀ p, p < m → ∃ e : Ent, ∀ c, c < 22 → xs[p * 22 + c]? = (adC e)[c]?) {x0 x1 x2 x3 x4 x5 x6 x9 x10 x11 x12 x13 x14 x15 x16 x17 x18 x19 x20 x21 x22 x23 x24 x25 x26 x27 x28 x29 x30 x31 x32 x33 x34 x35 x36 x37 x38 x39 x40 x41 x42 x43 x44 x45 x46 x47 x48 x49 x50 x51 x52 x53 x54 x55 x56 x57 x58 x59 x60 x61 x62 x63 x64 x65 x66 x67 x68 x69 x70 x71 x72 x73 x74 x75 x76 x77 x78 x79 x80 x81 x82 x83 x84 x85 x86 x87 x88 x89 x90 x91 x92 x93 x94 x95 x96 x97 x98 x99 x100 x101 x102 x103 x104 x105 x106 x107 x108 x109 x110 x111 x112 x113 x114 x115 x116 x117 x118 x119 x120 x121 x122 x123 x124 x125 x126 x127 x128 x129 x130 x131 x132 x133 x134 x135 x136 x137 x138 x139 x140 x141 x142 x143 x144 x145 x146 x147 x148 x149 x150 x151 x152 x153 x154 x155 x156 x157 x158 x159 x160 x161 x162 : Value} (K : Act → World → Prop)
    (hK : ∀ (y11 y63 y64 y65 y66 y67 y68 y69 y70 y71 y72 y73 y74 y75 y76 y77 y78 y79 y80 y81 y82 y83 y84 y85 y86 y87 : Value) (wy : World), Below x.heap.size x wy → K { tmps := #[x0, x1, x2, x3, x4, x5, x6, G, W, x9, x10, y11, x12, x13, x14, x15, x16, x17, x18, x19, x20, x21, x22, x23, x24, x25, x26, x27, x28, x29, x30, x31, x32, x33, x34, x35, x36, x37, x38, x39, x40, x41, x42, x43, x44, x45, x46, x47, x48, x49, x50, x51, x52, x53, x54, x55, x56, x57, x58, x59, x60, x61, x62, y63, y64, y65, y66, y67, y68, y69, y70, y71, y72, y73, y74, y75, y76, y77, y78, y79, y80, y81, y82, y83, y84, y85, y86, y87, x88, x89, x90, x91, x92, x93, x94, x95, x96, x97, x98, x99, x100, x101, x102, x103, x104, x105, x106, x107, x108, x109, x110, x111, x112, x113, x114, x115, x116, x117, x118, x119, x120, x121, x122, x123, x124, x125, x126, x127, x128, x129, x130, x131, x132, x133, x134, x135, x136, x137, x138, x139, x140, x141, x142, x143, x144, x145, x146, x147, x148, x149, x150, x151, x152, x153, x154, x155, x156, x157, x158, x159, x160, x161, x162], defers := [] } wy) :
    Code.wp Yba.prog (headC (dropC 7 f3b)) (only K) { tmps := #[x0, x1, x2, x3, x4, x5, x6, G, W, x9, x10, x11, x12, x13, x14, x15, x16, x17, x18, x19, x20, x21, x22, x23, x24, x25, x26, x27, x28, x29, x30, x31, x32, x33, x34, x35, x36, x37, x38, x39, x40, x41, x42, x43, x44, x45, x46, x47, x48, x49, x50, x51, x52, x53, x54, x55, x56, x57, x58, x59, x60, x61, x62, x63, x64, x65, x66, x67, x68, x69, x70, x71, x72, x73, x74, x75, x76, x77, x78, x79, x80, x81, x82, x83, x84, x85, x86, x87, x88, x89, x90, x91, x92, x93, x94, x95, x96, x97, x98, x99, x100, x101, x102, x103, x104, x105, x106, x107, x108, x109, x110, x111, x112, x113, x114, x115, x116, x117, x118, x119, x120, x121, x122, x123, x124, x125, x126, x127, x128, x129, x130, x131, x132, x133, x134, x135, x136, x137, x138, x139, x140, x141, x142, x143, x144, x145, x146, x147, x148, x149, x150, x151, x152, x153, x154, x155, x156, x157, x158, x159, x160, x161, x162], defers := [] } x := by
  rw [c_eq]
  obtain ⟨gb0, c2, rfl⟩ := own_slice hW
  refine wp_seq (wp_use (l3r13 gb0 m c2 x _ ?_))
  intro y63 y64
  refine wp_cond (t := ((m : Int) == 0)) (by kernel_rfl) ?_
  by_cases h0 : m = 0
  · have e0 : ((m : Int) == 0) = true := by rw [h0]; rfl
    obtain rfl := hz h0
    rw [e0, if_pos rfl, cA_eq]
    refine wp_seq (wp_use (l3r14 x _ ?_))
    intro y66
    refine wp_cond_false (by kernel_rfl) ?_
    refine wp_skip ?_
    exact hK x11 y63 y64 _ y66 _ x68 x69 x70 x71 x72 x73 x74 x75 x76 x77 x78 x79 x80 x81 x82 x83 x84 x85 x86 x87 x (Below.refl _ _)
  · have e0 : ((m : Int) == 0) = false := by simp; omega
    rw [e0, if_neg Bool.false_ne_true, cB_eq]
    obtain ⟨ga, c, rfl, _, hgl, hgc⟩ := own_cell hG (by omega)
    obtain ⟨gb, c2', hv, _, hwl, hwc⟩ := own_cell hW (by omega)
    obtain ⟨rfl, rfl⟩ : gb0 = some ⟨gb, 0, none⟩ ∧ c2 = c2' := by injection hv with a b c; exact ⟨a, c⟩
    refine wp_seq (wp_seq (wp_use (l3r16 _ _ m c c2 x _ ?_)))
    intro y68 y69 y70 y71
    refine wp_cond_false (by kernel_rfl) ?_
    refine wp_skip ?_
    refine wp_seq (wp_use (l3r18 _ m c2 x _ ?_))
    intro y73
    refine wp_block (wp_loop (fun a wq => ∃ (y11 y76 y77 y78 y79 y80 y81 y82 y83 y84 y85 y86 y87 : Value) (j : Nat), j ≤ m ∧ a = { tmps := #[x0, x1, x2, x3, x4, x5, x6, .slice (some ⟨ga, 0, none⟩) m c, .slice (some ⟨gb, 0, none⟩) m c2, x9, x10, y11, x12, x13, x14, x15, x16, x17, x18, x19, x20, x21, x22, x23, x24, x25, x26, x27, x28, x29, x30, x31, x32, x33, x34, x35, x36, x37, x38, x39, x40, x41, x42, x43, x44, x45, x46, x47, x48, x49, x50, x51, x52, x53, x54, x55, x56, x57, x58, x59, x60, x61, x62, y63, y64, .bool ((m : Int) == 0), x66, x67, y68, y69, y70, y71, .bool false, y73, .int .i64 ((m : Nat) : Int), .int .i64 ((j : Nat) : Int), y76, y77, y78, y79, y80, y81, y82, y83, y84, y85, y86, y87, x88, x89, x90, x91, x92, x93, x94, x95, x96, x97, x98, x99, x100, x101, x102, x103, x104, x105, x106, x107, x108, x109, x110, x111, x112, x113, x114, x115, x116, x117, x118, x119, x120, x121, x122, x123, x124, x125, x126, x127, x128, x129, x130, x131, x132, x133, x134, x135, x136, x137, x138, x139, x140, x141, x142, x143, x144, x145, x146, x147, x148, x149, x150, x151, x152, x153, x154, x155, x156, x157, x158, x159, x160, x161, x162], defers := [] } ∧ Below x.heap.size x wq) (fun a _ => m - (intOf (a.tmps.getD 75 undef)).toNat) ⟨x11, x76, x77, x78, x79, x80, x81, x82, x83, x84, x85, x86, x87, 0, Nat.zero_le _, by rw [e0], Below.refl _ _⟩ ?_)
    rintro a wr ⟨y11, y76, y77, y78, y79, y80, y81, y82, y83, y84, y85, y86, y87, j, hj, rfl, hbr⟩
    refine wp_seq (wp_use (l3r19 m j wr _ ?_))
    refine wp_seq (wp_cond (t := decide (j < m)) (by kernel_rfl) ?_)
    by_cases hjm : j < m
    · rw [decide_eq_true hjm, if_pos rfl]
      refine wp_skip ?_
      obtain ⟨e, he⟩ := hat j hjm
      have hlen := hG.1
      have hA : wr.rangeAt ga (j * 22) (adC e) := fun k u hu => by
        have hk : k < 22 := (List.getElem?_eq_some_iff.1 hu).1
        rw [hbr.cell (by exact hgl), hgc (j * 22 + k) (by omega), he k hk]; exact hu
      have hB : wr.rangeAt gb (j * 22) (adC e) := fun k u hu => by
        have hk : k < 22 := (List.getElem?_eq_some_iff.1 hu).1
        rw [hbr.cell (by exact hwl), hwc (j * 22 + k) (by omega), he k hk]; exact hu
      refine wp_seq (wp_block (wp_use (l3cbody e ga gb m c c2 j wr hjm hA hB _ ?_)))
      intro z11 z77 z78 z79 z80 z81 z82 z83 z84 z85 z86
      refine wp_use (l3r23 j wr.drew (by omega) _ ?_)
      intro z87
      refine ⟨⟨z11, _, z77, z78, z79, z80, z81, z82, z83, z84, z85, z86, z87, j + 1, hjm, rfl, hbr.drew⟩, ?_⟩
      show m - (intOf (.int .i64 ((j + 1 : Nat) : Int))).toNat < m - (intOf (.int .i64 (j : Int))).toNat
      simp only [intOf]
      omega
    · rw [decide_eq_false hjm, if_neg Bool.false_ne_true]
      refine wp_exit ?_
      exact hK y11 y63 y64 _ x66 x67 y68 y69 y70 y71 _ y73 _ _ _ y77 y78 y79 y80 y81 y82 y83 y84 y85 y86 y87 wr hbr
end Go.Proofs.Ybulkblzu

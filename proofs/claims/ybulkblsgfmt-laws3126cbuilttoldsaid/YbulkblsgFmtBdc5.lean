import Derived.Test.YbulkblsgFmtBdc4
namespace Go.Proofs.YbulkblsgFmt
open Go.RowKit Go.Extern.Stop Go.Stop Go.Extern
set_option linter.unusedVariables false
set_option linter.unusedSimpArgs false
set_option maxRecDepth 100000 in
set_option maxHeartbeats 1000000 in
theorem armA3 (F : Interp) (h1 l1 : Int) (p : Option Addr) (h2 l2 : Int) (q t : Option Addr) (tn tc : Nat) (len : Int) (B N N5 : Nat) (w wa : World) (hb : Below B w wa) (hB : B ≤ N) (hN : wa.heap[N]? = some (.cells zpk 67 (0, 0))) (h5 : wa.heap[N5]? = some (.cells (pkt h1 l1 p h2 l2 q t tn tc len) 67 (0, 0))) (hF : F.answers wa.tape) (C : Nat → Nat) (b off n c o : Nat) (hC : ∀ k, k < n → wa.cell? ⟨b, off + k, none⟩ = some (.int .u8 ((C k : Nat) : Int)) ∧ C k ≤ 255) (hn : n ≤ 1000000) (ho : o ≤ 2000000) (hcap : n ≤ c) (fg : Bool) {x1 x3 x4 x6 x7 x10 x11 x12 x13 x14 x15 x16 x17 x18 x19 x20 x21 x22 x23 x24 x25 x26 x27 x28 x29 x30 x31 x32 x33 x34 x35 x36 x37 x38 x39 x40 x41 x42 x43 x44 x45 x46 x47 x48 x49 x50 x51 x52 x53 x54 x55 x56 x57 x58 x59 x60 x61 x62 x63 x64 x65 x66 x67 x68 x69 x70 x71 x72 x73 x74 x75 x76 x77 x78 x79 x80 x81 x82 x83 x84 x85 x86 x87 x88 x89 x90 x91 x92 x93 x94 x95 x96 x97 x98 x99 x100 x101 x102 x103 x104 x105 x106 x107 x108 x109 x110 x111 x112 x113 x114 x115 x116 x117 x118 x119 x120 x121 x122 x123 x124 x125 x126 x127 x128 x129 x130 x131 x132 x133 x134 x135 x136 x137 x138 x139 x140 x141 x142 x143 x144 x145 x146 x147 : Value} (K R : Act → World → Prop) (hcut : (if n < o + 8 then St.cut else if hiF (C (o + 2) * 256 + C (o + 3)) = true then St.skip else St.go 8 (fg || loF (C (o + 2) * 256 + C (o + 3)))) = .cut → ∀ (a : Act) (er : Value) (wy : World), retA N false er a → newE wa.heap.size wy er → wy.heap[N]? = some (.cells (pkt h1 l1 p h2 l2 q t tn tc len) 67 (0, 0)) → Below B w wy → R a wy) (hskip : (if n < o + 8 then St.cut else if hiF (C (o + 2) * 256 + C (o + 3)) = true then St.skip else St.go 8 (fg || loF (C (o + 2) * 256 + C (o + 3)))) = .skip → ∀ (a : Act) (wy : World), retA N false .nilIface a → wy.heap[N]? = some (.cells zpk 67 (0, 0)) → Below B w wy → R a wy)
    (hK : ∀ (y11 y88 y89 y90 y91 y92 y95 y96 y97 y98 y99 y100 y101 y102 y103 y105 y106 y107 y108 y109 y110 : Value) (fg' : Bool) (wy : World), (if n < o + 8 then St.cut else if hiF (C (o + 2) * 256 + C (o + 3)) = true then St.skip else St.go 8 (fg || loF (C (o + 2) * 256 + C (o + 3)))) = .go 8 fg' → o + 8 ≤ n → Below wa.heap.size wa wy → K { tmps := #[.slice (some ⟨b, off, none⟩) n c, x1, .pointer (some ⟨N, 0, none⟩), x3, x4, .pointer (some ⟨N5, 0, none⟩), x6, x7, .int .i64 ((o : Nat) : Int), .bool fg', .int .i64 ((8 : Nat) : Int), y11, x12, x13, x14, x15, x16, x17, x18, x19, x20, x21, x22, x23, x24, x25, x26, x27, x28, x29, x30, x31, x32, x33, x34, x35, x36, x37, x38, x39, x40, x41, x42, x43, x44, x45, x46, x47, x48, x49, x50, x51, x52, x53, x54, x55, x56, x57, x58, x59, x60, x61, x62, x63, x64, x65, x66, x67, x68, x69, x70, x71, x72, x73, x74, x75, x76, x77, x78, x79, x80, x81, x82, x83, x84, x85, x86, x87, y88, y89, y90, y91, y92, x93, x94, y95, y96, y97, y98, y99, y100, y101, y102, y103, x104, y105, y106, y107, y108, y109, y110, x111, x112, x113, x114, x115, x116, x117, x118, x119, x120, x121, x122, x123, x124, x125, x126, x127, x128, x129, x130, x131, x132, x133, x134, x135, x136, x137, x138, x139, x140, x141, x142, x143, x144, x145, x146, x147], defers := [] } wy) :
    Code.wp Ybaf.prog A3C (orRet K R) { tmps := #[.slice (some ⟨b, off, none⟩) n c, x1, .pointer (some ⟨N, 0, none⟩), x3, x4, .pointer (some ⟨N5, 0, none⟩), x6, x7, .int .i64 ((o : Nat) : Int), .bool fg, x10, x11, x12, x13, x14, x15, x16, x17, x18, x19, x20, x21, x22, x23, x24, x25, x26, x27, x28, x29, x30, x31, x32, x33, x34, x35, x36, x37, x38, x39, x40, x41, x42, x43, x44, x45, x46, x47, x48, x49, x50, x51, x52, x53, x54, x55, x56, x57, x58, x59, x60, x61, x62, x63, x64, x65, x66, x67, x68, x69, x70, x71, x72, x73, x74, x75, x76, x77, x78, x79, x80, x81, x82, x83, x84, x85, x86, x87, x88, x89, x90, x91, x92, x93, x94, x95, x96, x97, x98, x99, x100, x101, x102, x103, x104, x105, x106, x107, x108, x109, x110, x111, x112, x113, x114, x115, x116, x117, x118, x119, x120, x121, x122, x123, x124, x125, x126, x127, x128, x129, x130, x131, x132, x133, x134, x135, x136, x137, x138, x139, x140, x141, x142, x143, x144, x145, x146, x147], defers := [] } wa := by
  rw [A3_eq]
  have lN : N < wa.heap.size := (Array.getElem?_eq_some_iff.1 hN).1
  refine wp_seq (wp_seq (wp_use (d25 _ n c o wa ho _ ?_)))
  intro y88 y89 y90 y91
  refine wp_cond (t := decide ((n : Int) < (o : Int) + 8)) (by kernel_rfl) ?_
  by_cases hlt : n < o + 8
  · rw [decide_eq_true (show (n : Int) < (o : Int) + 8 by omega), if_pos rfl]
    rw [if_pos hlt] at hcut
    refine wp_seq (wp_use (d26 F h1 l1 p h2 l2 q t tn tc len B N N5 w wa zpk hb hB hN rfl h5 hF _ ?_))
    intros
    rename_i er wy hr1 hr2 hr3
    exact wp_ret (hcut rfl _ er wy ⟨rfl, rfl, rfl, rfl⟩ hr3 hr1 hr2)
  · rw [decide_eq_false (show ¬ (n : Int) < (o : Int) + 8 by omega), if_neg Bool.false_ne_true]
    rw [if_neg hlt] at hK hskip
    refine wp_skip ?_
    have g2 := hC (o + 2) (by omega)
    have g3 := hC (o + 3) (by omega)
    have hf : (C (o + 2) * 256 + C (o + 3)) ≤ 65535 := by omega
    refine wp_seq (wp_use (d27 b off n c o (C (o + 2)) (C (o + 3)) wa (by omega) hcap hn g2.1 (by rw [show off + (o + 2) + 1 = off + (o + 3) from by omega]; exact g3.1) g2.2 g3.2 _ ?_))
    intro y95 y96 y97 y98 y99 y100 wy bwy
    refine wp_seq (wp_seq (wp_use (d28 (C (o + 2) * 256 + C (o + 3)) wy hf _ ?_)))
    intro y101 y102
    refine wp_cond (t := hiF (C (o + 2) * 256 + C (o + 3))) (by kernel_rfl) ?_
    cases hh : hiF (C (o + 2) * 256 + C (o + 3)) with
    | true =>
      rw [if_pos hh] at hskip
      have hNy : wy.heap[N]? = some (.cells zpk 67 (0, 0)) := by rw [bwy.block _ lN]; exact hN
      refine wp_seq (wp_use (d29 B N w wy zpk (hb.trans (below_le bwy (by omega))) hB hNy rfl _ ?_))
      intros
      rename_i wz hr1 hr2
      exact wp_ret (hskip rfl _ wz ⟨rfl, rfl, rfl, rfl⟩ hr1 hr2)
    | false =>
      rw [if_neg (by rw [hh]; exact Bool.false_ne_true)] at hK
      refine wp_skip ?_
      refine wp_seq (wp_use (d30 (C (o + 2) * 256 + C (o + 3)) fg wy hf _ ?_))
      intros
      refine wp_use (d31 wy _ ?_)
      exact hK _ _ _ _ _ _ _ _ _ _ _ _ _ _ _ _ _ _ _ _ _ _ wy rfl (by omega) bwy
set_option maxRecDepth 100000 in
set_option maxHeartbeats 1000000 in
theorem dsw (F : Interp) (h1 l1 : Int) (p : Option Addr) (h2 l2 : Int) (q t : Option Addr) (tn tc : Nat) (len : Int) (B N N5 : Nat) (w wa : World) (hb : Below B w wa) (hB : B ≤ N) (hN : wa.heap[N]? = some (.cells zpk 67 (0, 0))) (h5 : wa.heap[N5]? = some (.cells (pkt h1 l1 p h2 l2 q t tn tc len) 67 (0, 0))) (hF : F.answers wa.tape) (C : Nat → Nat) (b off n c o : Nat) (hC : ∀ k, k < n → wa.cell? ⟨b, off + k, none⟩ = some (.int .u8 ((C k : Nat) : Int)) ∧ C k ≤ 255) (hn : n ≤ 1000000) (ho : o ≤ 2000000) (hcap : n ≤ c) (nx : Nat) (fg : Bool) {x1 x3 x4 x6 x7 x10 x11 x12 x13 x14 x15 x16 x17 x18 x19 x20 x21 x22 x23 x24 x25 x26 x27 x28 x29 x30 x31 x32 x33 x34 x35 x36 x37 x38 x39 x40 x41 x42 x43 x44 x45 x46 x47 x49 x50 x51 x52 x53 x54 x55 x56 x57 x58 x59 x60 x61 x62 x63 x64 x65 x66 x67 x68 x69 x70 x71 x72 x73 x74 x75 x76 x77 x78 x79 x80 x81 x82 x83 x84 x85 x86 x87 x88 x89 x90 x91 x92 x93 x94 x95 x96 x97 x98 x99 x100 x101 x102 x103 x104 x105 x106 x107 x108 x109 x110 x111 x112 x113 x114 x115 x116 x117 x118 x119 x120 x121 x122 x123 x124 x125 x126 x127 x128 x129 x130 x131 x132 x133 x134 x135 x136 x137 x138 x139 x140 x141 x142 x143 x144 x145 x146 x147 : Value} (K R : Act → World → Prop) (hcut : stp n C nx o fg = .cut → ∀ (a : Act) (er : Value) (wy : World), retA N false er a → newE wa.heap.size wy er → wy.heap[N]? = some (.cells (pkt h1 l1 p h2 l2 q t tn tc len) 67 (0, 0)) → Below B w wy → R a wy) (hskip : stp n C nx o fg = .skip → ∀ (a : Act) (wy : World), retA N false .nilIface a → wy.heap[N]? = some (.cells zpk 67 (0, 0)) → Below B w wy → R a wy)
    (hK : ∀ (y11 y50 y51 y52 y53 y54 y55 y56 y57 y58 y61 y62 y63 y64 y65 y66 y67 y68 y69 y70 y71 y72 y73 y74 y75 y78 y79 y80 y81 y82 y83 y84 y85 y86 y87 y88 y89 y90 y91 y92 y95 y96 y97 y98 y99 y100 y101 y102 y103 y105 y106 y107 y108 y109 y110 : Value) (m : Nat) (fg' : Bool) (wy : World), stp n C nx o fg = .go m fg' → 8 ≤ m → m ≤ 2064 → o + 2 ≤ n → Below wa.heap.size wa wy → K { tmps := #[.slice (some ⟨b, off, none⟩) n c, x1, .pointer (some ⟨N, 0, none⟩), x3, x4, .pointer (some ⟨N5, 0, none⟩), x6, x7, .int .i64 ((o : Nat) : Int), .bool fg', .int .i64 ((m : Nat) : Int), y11, x12, x13, x14, x15, x16, x17, x18, x19, x20, x21, x22, x23, x24, x25, x26, x27, x28, x29, x30, x31, x32, x33, x34, x35, x36, x37, x38, x39, x40, x41, x42, x43, x44, x45, x46, x47, .int .u8 ((nx : Nat) : Int), x49, y50, y51, y52, y53, y54, y55, y56, y57, y58, x59, x60, y61, y62, y63, y64, y65, y66, y67, y68, y69, y70, y71, y72, y73, y74, y75, x76, x77, y78, y79, y80, y81, y82, y83, y84, y85, y86, y87, y88, y89, y90, y91, y92, x93, x94, y95, y96, y97, y98, y99, y100, y101, y102, y103, x104, y105, y106, y107, y108, y109, y110, x111, x112, x113, x114, x115, x116, x117, x118, x119, x120, x121, x122, x123, x124, x125, x126, x127, x128, x129, x130, x131, x132, x133, x134, x135, x136, x137, x138, x139, x140, x141, x142, x143, x144, x145, x146, x147], defers := [] } wy) :
    Code.wp Ybaf.prog dS (orRet K R) { tmps := #[.slice (some ⟨b, off, none⟩) n c, x1, .pointer (some ⟨N, 0, none⟩), x3, x4, .pointer (some ⟨N5, 0, none⟩), x6, x7, .int .i64 ((o : Nat) : Int), .bool fg, x10, x11, x12, x13, x14, x15, x16, x17, x18, x19, x20, x21, x22, x23, x24, x25, x26, x27, x28, x29, x30, x31, x32, x33, x34, x35, x36, x37, x38, x39, x40, x41, x42, x43, x44, x45, x46, x47, .int .u8 ((nx : Nat) : Int), x49, x50, x51, x52, x53, x54, x55, x56, x57, x58, x59, x60, x61, x62, x63, x64, x65, x66, x67, x68, x69, x70, x71, x72, x73, x74, x75, x76, x77, x78, x79, x80, x81, x82, x83, x84, x85, x86, x87, x88, x89, x90, x91, x92, x93, x94, x95, x96, x97, x98, x99, x100, x101, x102, x103, x104, x105, x106, x107, x108, x109, x110, x111, x112, x113, x114, x115, x116, x117, x118, x119, x120, x121, x122, x123, x124, x125, x126, x127, x128, x129, x130, x131, x132, x133, x134, x135, x136, x137, x138, x139, x140, x141, x142, x143, x144, x145, x146, x147], defers := [] } wa := by
  rw [dS_eq]
  refine wp_seq (wp_use (dsel nx wa _ ?_))
  intro y51 y52 y53
  refine wp_cond (t := decide (nx = 0 ∨ nx = 43 ∨ nx = 60)) (by kernel_rfl) ?_
  unfold stp at hcut hskip hK
  by_cases hs : nx = 0 ∨ nx = 43 ∨ nx = 60
  · rw [decide_eq_true hs, if_pos rfl]
    rw [if_pos hs] at hcut hK
    refine wp_useR (armA1 F h1 l1 p h2 l2 q t tn tc len B N N5 w wa hb hB hN h5 hF C b off n c o hC hn ho fg _ _ hcut ?_)
    intros
    rename_i m e1 e2 e3
    have := (hC (o + 1) (by omega)).2
    exact hK _ _ _ _ _ _ _ _ _ _ _ _ _ _ _ _ _ _ _ _ _ _ _ _ _ _ _ _ _ _ _ _ _ _ _ _ _ _ _ _ _ _ _ _ _ _ _ _ _ _ _ _ _ _ _ _ _ wa e1 (by omega) (by omega) e3 (Below.refl _ _)
  · rw [decide_eq_false hs, if_neg Bool.false_ne_true]
    rw [if_neg hs] at hcut hskip hK
    refine wp_seq (wp_use (d20 nx wa _ ?_))
    intro y70
    refine wp_cond (t := ((nx : Int) == 51)) (by kernel_rfl) ?_
    by_cases h51 : nx = 51
    · rw [show ((nx : Int) == 51) = true from by rw [h51]; rfl, if_pos rfl]
      rw [if_pos h51] at hcut hK
      refine wp_useR (armA2 F h1 l1 p h2 l2 q t tn tc len B N N5 w wa hb hB hN h5 hF C b off n c o hC hn ho fg _ _ hcut ?_)
      intros
      rename_i m e1 e2 e3
      have := (hC (o + 1) (by omega)).2
      exact hK _ _ _ _ _ _ _ _ _ _ _ _ _ _ _ _ _ _ _ _ _ _ _ _ _ _ _ _ _ _ _ _ _ _ _ _ _ _ _ _ _ _ _ _ _ _ _ _ _ _ _ _ _ _ _ _ _ wa e1 (by omega) (by omega) e3 (Below.refl _ _)
    · rw [show ((nx : Int) == 51) = false from by simp; omega, if_neg Bool.false_ne_true]
      rw [if_neg h51] at hcut hskip hK
      rw [E2_eq]
      refine wp_seq (wp_use (d24 nx wa _ ?_))
      intro y87
      refine wp_cond (t := ((nx : Int) == 44)) (by kernel_rfl) ?_
      by_cases h44 : nx = 44
      · rw [show ((nx : Int) == 44) = true from by rw [h44]; rfl, if_pos rfl]
        rw [if_pos h44] at hcut hskip hK
        refine wp_useR (armA3 F h1 l1 p h2 l2 q t tn tc len B N N5 w wa hb hB hN h5 hF C b off n c o hC hn ho hcap fg _ _ hcut hskip ?_)
        intros
        rename_i fg' wy e1 e3 e4
        exact hK _ _ _ _ _ _ _ _ _ _ _ _ _ _ _ _ _ _ _ _ _ _ _ _ _ _ _ _ _ _ _ _ _ _ _ _ _ _ _ _ _ _ _ _ _ _ _ _ _ _ _ _ _ _ _ _ _ wy e1 (by omega) (by omega) (by omega) e4
      · rw [show ((nx : Int) == 44) = false from by simp; omega, if_neg Bool.false_ne_true]
        rw [if_neg h44] at hskip
        refine wp_seq (wp_use (d13 B N w wa zpk hb hB hN rfl _ ?_))
        intros
        rename_i wz hr1 hr2
        exact wp_ret (hskip rfl _ wz ⟨rfl, rfl, rfl, rfl⟩ hr1 hr2)
end Go.Proofs.YbulkblsgFmt

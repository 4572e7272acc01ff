import Derived.Test.YbulkblzuBld4
namespace Go.Proofs.Ybulkblzu
open Go.RowKit Go.Maps Go.WideMaps
set_option linter.unusedVariables false
set_option linter.unusedSimpArgs false
/-- Function 4's second loop, its round. -/
noncomputable def bL : Code := lupC (blkC (tailC (headC (dropC 4 (Yba.f4.body.getD .skip)))))
theorem bL_eq : headC (dropC 4 (Yba.f4.body.getD .skip)) = (headC (headC (dropC 4 (Yba.f4.body.getD .skip)))).seq (Code.block 2 (.loop ((headC bL).seq ((Code.cond (.tmp 39) .skip (.exit 2)).seq ((Code.block 3 bX).seq (tailC (tailC (tailC bL)))))))) := by kernel_rfl

set_option maxRecDepth 100000 in
set_option maxHeartbeats 1000000 in
theorem b4r8 (a0 : Option Addr) (nn c0 : Nat) (wa : World) {x1 x2 x3 x4 x5 x6 x7 x8 x9 x10 x11 x12 x13 x14 x15 x16 x17 x18 x19 x20 x21 x22 x23 x24 x25 x26 x27 x28 x29 x30 x31 x32 x33 x34 x35 x36 x37 x38 x39 x40 x41 x42 x43 x44 x45 x46 x47 x48 x49 x50 x51 x52 x53 x54 x55 x56 x57 x58 x59 x60 x61 x62 x63 x64 x65 x66 x67 x68 x69 x70 x71 x72 x73 x74 x75 x76 x77 x78 x79 : Value} (K : Act → World → Prop)
    (hK : K { tmps := #[.slice a0 nn c0, x1, x2, x3, x4, x5, x6, x7, x8, x9, x10, x11, x12, x13, x14, x15, x16, x17, x18, x19, x20, x21, x22, x23, x24, x25, x26, x27, x28, x29, x30, x31, x32, x33, x34, x35, .slice a0 nn c0, .int .i64 (nn : Nat), .int .i64 ((0 : Nat) : Int), x39, x40, x41, x42, x43, x44, x45, x46, x47, x48, x49, x50, x51, x52, x53, x54, x55, x56, x57, x58, x59, x60, x61, x62, x63, x64, x65, x66, x67, x68, x69, x70, x71, x72, x73, x74, x75, x76, x77, x78, x79], defers := [] } (wa)) :
    Code.wp Yba.prog (headC (headC (dropC 4 (Yba.f4.body.getD .skip)))) (only K) { tmps := #[.slice a0 nn c0, x1, x2, x3, x4, x5, x6, x7, x8, x9, x10, x11, x12, x13, x14, x15, x16, x17, x18, x19, x20, x21, x22, x23, x24, x25, x26, x27, x28, x29, x30, x31, x32, x33, x34, x35, x36, x37, x38, x39, x40, x41, x42, x43, x44, x45, x46, x47, x48, x49, x50, x51, x52, x53, x54, x55, x56, x57, x58, x59, x60, x61, x62, x63, x64, x65, x66, x67, x68, x69, x70, x71, x72, x73, x74, x75, x76, x77, x78, x79], defers := [] } wa := by
  have HK := hid hK
  clear hK
  simp only [bL, bX, Yba.f4, Option.getD, dropC, headC, tailC, blkC, lupC]
  go_wp2_with fail
  exact HK.out 

set_option maxRecDepth 100000 in
set_option maxHeartbeats 1000000 in
theorem b4r9 (nn i : Nat) (wa : World) {x0 x1 x2 x3 x4 x5 x6 x7 x8 x9 x10 x11 x12 x13 x14 x15 x16 x17 x18 x19 x20 x21 x22 x23 x24 x25 x26 x27 x28 x29 x30 x31 x32 x33 x34 x35 x36 x39 x40 x41 x42 x43 x44 x45 x46 x47 x48 x49 x50 x51 x52 x53 x54 x55 x56 x57 x58 x59 x60 x61 x62 x63 x64 x65 x66 x67 x68 x69 x70 x71 x72 x73 x74 x75 x76 x77 x78 x79 : Value} (K : Act → World → Prop)
    (hK : K { tmps := #[x0, x1, x2, x3, x4, x5, x6, x7, x8, x9, x10, x11, x12, x13, x14, x15, x16, x17, x18, x19, x20, x21, x22, x23, x24, x25, x26, x27, x28, x29, x30, x31, x32, x33, x34, x35, x36, .int .i64 (nn : Nat), .int .i64 (i : Nat), .bool (decide (i < nn)), x40, x41, x42, x43, x44, x45, x46, x47, x48, x49, x50, x51, x52, x53, x54, x55, x56, x57, x58, x59, x60, x61, x62, x63, x64, x65, x66, x67, x68, x69, x70, x71, x72, x73, x74, x75, x76, x77, x78, x79], defers := [] } (wa)) :
    Code.wp Yba.prog (headC bL) (only K) { tmps := #[x0, x1, x2, x3, x4, x5, x6, x7, x8, x9, x10, x11, x12, x13, x14, x15, x16, x17, x18, x19, x20, x21, x22, x23, x24, x25, x26, x27, x28, x29, x30, x31, x32, x33, x34, x35, x36, .int .i64 (nn : Nat), .int .i64 (i : Nat), x39, x40, x41, x42, x43, x44, x45, x46, x47, x48, x49, x50, x51, x52, x53, x54, x55, x56, x57, x58, x59, x60, x61, x62, x63, x64, x65, x66, x67, x68, x69, x70, x71, x72, x73, x74, x75, x76, x77, x78, x79], defers := [] } wa := by
  have HK := hid hK
  clear hK
  simp only [bL, bX, Yba.f4, Option.getD, dropC, headC, tailC, blkC, lupC]
  go_wp2_with fail
  exact HK.out 

set_option maxRecDepth 100000 in
set_option maxHeartbeats 1000000 in
theorem b4r17 (i : Nat) (wa : World) (hi : i < 1024) {x0 x1 x2 x3 x4 x5 x6 x7 x8 x9 x10 x11 x12 x13 x14 x15 x16 x17 x18 x19 x20 x21 x22 x23 x24 x25 x26 x27 x28 x29 x30 x31 x32 x33 x34 x35 x36 x37 x39 x40 x41 x42 x43 x44 x45 x46 x47 x48 x49 x50 x51 x52 x53 x54 x55 x56 x57 x58 x59 x60 x61 x62 x63 x64 x65 x66 x67 x68 x69 x70 x71 x72 x73 x74 x75 x76 x77 x78 x79 : Value} (K : Act → World → Prop)
    (hK : ∀ (y78 : Value), K { tmps := #[x0, x1, x2, x3, x4, x5, x6, x7, x8, x9, x10, x11, x12, x13, x14, x15, x16, x17, x18, x19, x20, x21, x22, x23, x24, x25, x26, x27, x28, x29, x30, x31, x32, x33, x34, x35, x36, x37, .int .i64 ((i + 1 : Nat) : Int), x39, x40, x41, x42, x43, x44, x45, x46, x47, x48, x49, x50, x51, x52, x53, x54, x55, x56, x57, x58, x59, x60, x61, x62, x63, x64, x65, x66, x67, x68, x69, x70, x71, x72, x73, x74, x75, x76, x77, y78, x79], defers := [] } (wa)) :
    Code.wp Yba.prog (tailC (tailC (tailC bL))) (only K) { tmps := #[x0, x1, x2, x3, x4, x5, x6, x7, x8, x9, x10, x11, x12, x13, x14, x15, x16, x17, x18, x19, x20, x21, x22, x23, x24, x25, x26, x27, x28, x29, x30, x31, x32, x33, x34, x35, x36, x37, .int .i64 (i : Nat), x39, x40, x41, x42, x43, x44, x45, x46, x47, x48, x49, x50, x51, x52, x53, x54, x55, x56, x57, x58, x59, x60, x61, x62, x63, x64, x65, x66, x67, x68, x69, x70, x71, x72, x73, x74, x75, x76, x77, x78, x79], defers := [] } wa := by
  have HK := hid hK
  clear hK
  simp only [bL, bX, Yba.f4, Option.getD, dropC, headC, tailC, blkC, lupC]
  go_wp2_with fail
  exact HK.out _ 

set_option maxRecDepth 100000 in
set_option maxHeartbeats 1000000 in
theorem b4loop2 (E : Nat → Ent) (B L : Nat) (w wx : World) (a0 : Option Addr) (nn c0 : Nat) (hnn : nn ≤ 1024) (HB : w.heap.size = B) (h0 : Given E a0 nn w) (F : Lit → Option Value) (Sb : Nat → Nat) (v : Nat → Value) (cs : Nat → List Value) (HT : T1 E B L w wx 0 F Sb v cs) {x1 x2 x5 x6 x7 x8 x9 x10 x11 x12 x13 x14 x15 x16 x17 x18 x19 x20 x21 x22 x23 x24 x25 x26 x27 x28 x29 x30 x31 x32 x33 x34 x35 x36 x37 x38 x39 x40 x41 x42 x43 x44 x45 x46 x47 x48 x49 x50 x51 x52 x53 x54 x55 x56 x57 x58 x59 x60 x61 x62 x63 x64 x65 x66 x67 x68 x69 x70 x71 x72 x73 x74 x75 x76 x77 x78 x79 : Value} (K : Act → World → Prop)
    (hK : ∀ (y7 y8 y9 y10 y39 y40 y41 y42 y43 y44 y45 y46 y47 y48 y49 y50 y51 y52 y53 y54 y55 y56 y57 y58 y59 y60 y61 y62 y63 y64 y65 y66 y67 y68 y69 y70 y71 y72 y73 y74 y75 y76 y77 y78 : Value) (wy : World) (v' : Nat → Value) (cs' : Nat → List Value), T1 E B L w wy nn F Sb v' cs' → K { tmps := #[.slice a0 nn c0, x1, x2, .pointer (some ⟨B + 1 + 1, 0, none⟩), .pointer (some ⟨B + 1 + 1 + 1, 0, none⟩), x5, x6, y7, y8, y9, y10, x11, x12, x13, x14, x15, x16, x17, x18, x19, x20, x21, x22, x23, x24, x25, x26, x27, x28, x29, x30, x31, x32, x33, x34, x35, .slice a0 nn c0, .int .i64 (nn : Nat), .int .i64 ((nn : Nat) : Int), y39, y40, y41, y42, y43, y44, y45, y46, y47, y48, y49, y50, y51, y52, y53, y54, y55, y56, y57, y58, y59, y60, y61, y62, y63, y64, y65, y66, y67, y68, y69, y70, y71, y72, y73, y74, y75, y76, y77, y78, x79], defers := [] } wy) :
    Code.wp Yba.prog (headC (dropC 4 (Yba.f4.body.getD .skip))) (only K) { tmps := #[.slice a0 nn c0, x1, x2, .pointer (some ⟨B + 1 + 1, 0, none⟩), .pointer (some ⟨B + 1 + 1 + 1, 0, none⟩), x5, x6, x7, x8, x9, x10, x11, x12, x13, x14, x15, x16, x17, x18, x19, x20, x21, x22, x23, x24, x25, x26, x27, x28, x29, x30, x31, x32, x33, x34, x35, x36, x37, x38, x39, x40, x41, x42, x43, x44, x45, x46, x47, x48, x49, x50, x51, x52, x53, x54, x55, x56, x57, x58, x59, x60, x61, x62, x63, x64, x65, x66, x67, x68, x69, x70, x71, x72, x73, x74, x75, x76, x77, x78, x79], defers := [] } wx := by
  rw [bL_eq]
  refine wp_seq (wp_use (b4r8 a0 nn c0 wx _ ?_))
  refine wp_block (wp_loop (fun a x => ∃ (y7 y8 y9 y10 y39 y40 y41 y42 y43 y44 y45 y46 y47 y48 y49 y50 y51 y52 y53 y54 y55 y56 y57 y58 y59 y60 y61 y62 y63 y64 y65 y66 y67 y68 y69 y70 y71 y72 y73 y74 y75 y76 y77 y78 : Value) (i : Nat) (v : Nat → Value) (cs : Nat → List Value), i ≤ nn ∧ a = { tmps := #[.slice a0 nn c0, x1, x2, .pointer (some ⟨B + 1 + 1, 0, none⟩), .pointer (some ⟨B + 1 + 1 + 1, 0, none⟩), x5, x6, y7, y8, y9, y10, x11, x12, x13, x14, x15, x16, x17, x18, x19, x20, x21, x22, x23, x24, x25, x26, x27, x28, x29, x30, x31, x32, x33, x34, x35, .slice a0 nn c0, .int .i64 (nn : Nat), .int .i64 (i : Nat), y39, y40, y41, y42, y43, y44, y45, y46, y47, y48, y49, y50, y51, y52, y53, y54, y55, y56, y57, y58, y59, y60, y61, y62, y63, y64, y65, y66, y67, y68, y69, y70, y71, y72, y73, y74, y75, y76, y77, y78, x79], defers := [] } ∧ T1 E B L w x i F Sb v cs) (fun a _ => nn - (intOf (a.tmps.getD 38 undef)).toNat) ⟨x7, x8, x9, x10, x39, x40, x41, x42, x43, x44, x45, x46, x47, x48, x49, x50, x51, x52, x53, x54, x55, x56, x57, x58, x59, x60, x61, x62, x63, x64, x65, x66, x67, x68, x69, x70, x71, x72, x73, x74, x75, x76, x77, x78, 0, v, cs, Nat.zero_le _, rfl, HT⟩ ?_)
  rintro a wr ⟨y7, y8, y9, y10, y39, y40, y41, y42, y43, y44, y45, y46, y47, y48, y49, y50, y51, y52, y53, y54, y55, y56, y57, y58, y59, y60, y61, y62, y63, y64, y65, y66, y67, y68, y69, y70, y71, y72, y73, y74, y75, y76, y77, y78, i, v, cs, hi, rfl, hT⟩
  refine wp_seq (wp_use (b4r9 nn i wr _ ?_))
  refine wp_seq (wp_cond (t := decide (i < nn)) (by kernel_rfl) ?_)
  by_cases hin : i < nn
  · have hin' : (i : Int) < (nn : Int) := by omega
    rw [decide_eq_true hin, if_pos rfl]
    refine wp_skip ?_
    obtain ⟨b, off, rfl, hb, hc0, hc1, hc2, hc3, hc4, hown⟩ := h0 i hin
    have hb' : b < B := by rw [← HB]; exact hb
    refine wp_seq (wp_block (wp_use (b4body E B L w wr b off nn c0 i F Sb v cs hT (by omega) hin' hown (by rw [hT.bel.cell (by exact hb')]; exact hc0) (by rw [hT.bel.cell (by exact hb')]; exact hc1) (by rw [hT.bel.cell (by exact hb')]; exact hc2) (by rw [hT.bel.cell (by exact hb')]; exact hc3) (by rw [hT.bel.cell (by exact hb')]; exact hc4) _ ?_)))
    intro z7 z8 z9 z10 z40 z41 z42 z43 z44 z45 z46 z47 z48 z49 z50 z51 z52 z53 z54 z55 z56 z57 z58 z59 z60 z61 z62 z63 z64 z65 z66 z67 z68 z69 z70 z71 z72 z73 z74 z75 z76 z77 wy v' cs' hT'
    refine wp_use (b4r17 i wy (by omega) _ ?_)
    intro z78
    refine ⟨⟨z7, z8, z9, z10, _, z40, z41, z42, z43, z44, z45, z46, z47, z48, z49, z50, z51, z52, z53, z54, z55, z56, z57, z58, z59, z60, z61, z62, z63, z64, z65, z66, z67, z68, z69, z70, z71, z72, z73, z74, z75, z76, z77, z78, i + 1, v', cs', hin, rfl, hT'⟩, ?_⟩
    show nn - (intOf (.int .i64 ((i + 1 : Nat) : Int))).toNat < nn - (intOf (.int .i64 (i : Int))).toNat
    simp only [intOf]
    omega
  · rw [decide_eq_false hin, if_neg Bool.false_ne_true]
    obtain rfl : nn = i := by omega
    refine wp_exit ?_
    exact hK y7 y8 y9 y10 _ y40 y41 y42 y43 y44 y45 y46 y47 y48 y49 y50 y51 y52 y53 y54 y55 y56 y57 y58 y59 y60 y61 y62 y63 y64 y65 y66 y67 y68 y69 y70 y71 y72 y73 y74 y75 y76 y77 y78 wr v cs hT

set_option maxRecDepth 100000 in
set_option maxHeartbeats 2000000 in
theorem build_any (E : Nat → Ent) (a0 : Option Addr) (nn c0 : Nat) (w : World) (hnn : nn ≤ 1024) (h0 : Given E a0 nn w) :
    Calls Yba.prog 4 #[.slice a0 nn c0] w fun e w' => e = .returned (.pointer (some ⟨w.heap.size + 2, 0, none⟩)) ∧ ∃ L F Sb v cs, T1 E w.heap.size L w w' nn F Sb v cs := by
  have H0 := hid h0
  clear h0
  go_enter Yba.func4, Yba.ntmps4
  have mk37 := fun w => mkMap (P := Yba.prog) Yba.underlying37 w
  have mk46 := fun w => mkMap (P := Yba.prog) Yba.underlying46 w
  go_upto_region 3 with fail
  rename_i K1 hK1 K2 hK2
  refine b4loop1 a0 nn c0 w _ w.heap.size rfl _ _ (T0.start w _ (by rfl)) _ _ _ hK2 ?_
  clear mk37 mk46 hK2
  intros
  rename_i wx F Sb hT0
  refine hK1 _ _ (wp_seq (wp_use (b4loop2 E w.heap.size wx.heap.size w wx a0 nn c0 hnn rfl H0.out F Sb _ _ (T1.start hT0) _ ?_)))
  clear hK1 K1 K2
  intros
  rename_i wy v' cs' hT'
  simp only [Exit.then]
  have HT' := hid hT'
  clear hT' hT0
  go_wp2_with fail
  go_ret
  exact ⟨rfl, _, _, _, _, _, HT'.out⟩
end Go.Proofs.Ybulkblzu

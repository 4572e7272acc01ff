import Derived.Test.YbulkbltiP13
import Derived.Deep.DeepCutAuto
import Derived.Deep.MidRow
import Derived.Deep.CutBlock
import Derived.Deep.LoopGhost
namespace Go.Proofs.Ybulkblti
open Go.RowKit Go.Maps Go.WideMaps
set_option linter.unusedVariables false

set_option maxRecDepth 100000 in
set_option maxHeartbeats 4000000 in
theorem part9 (a0 a1 : Option Addr) (nn c0 np c1 : Nat) (S PN : Nat → ByteArray) (PB : Nat → Int) (clear : Bool) (kept ver : Int) (w : World) (B : Nat) (T : ByteArray)
    (hnn : nn ≤ 1024) (hnp : np ≤ 1024) (hT : T.size ≤ maxLen) (HB : w.heap.size = B)
    (H0 : ∀ k, k < nn → ∃ b off, a0 = some ⟨b, off, none⟩ ∧ b < B ∧ w.cell? ⟨b, off + k, none⟩ = some (.string (S k)) ∧ (S k).size ≤ maxLen)
    (H1 : ∀ k, k < np → ∃ b off, a1 = some ⟨b, off, none⟩ ∧ b < B ∧ w.cell? ⟨b, off + k * 2, none⟩ = some (.string (PN k)) ∧ w.cell? ⟨b, off + k * 2 + 1, none⟩ = some (.int .i64 (PB k)) ∧ (PN k).size ≤ maxLen)
    (fv : Value) (HF : newV clear (B + 1) = fv)
    {x2 x3 x7 x8 x9 x10 x11 x12 x13 x14 x20 x21 x22 x23 x24 x25 x26 x27 x28 x29 x30 x31 x32 x33 x34 x35 x36 x37 x38 x39 x40 x41 x42 x43 x44 x45 x46 x47 x48 x49 x50 x51 x52 x53 x54 x55 x56 x57 x58 x59 x60 x61 x62 x63 x64 x65 x66 x67 x68 x69 x70 x71 x72 x73 x74 x75 x76 x77 x78 x79 x80 x81 x82 x83 x84 x85 x86 x87 x88 x89 x90 x91 x92 x93 x94 x95 x96 x97 x98 x99 x100 x101 x102 x103 x104 x105 x106 x107 x108 x109 x110 x111 x112 x113 x114 x115 x116 x117 x118 x119 x120 x121 x122 x123 x124 x125 x126 x127 x128 x129 x130 x131 x132 x133 x134 x135 x136 x137 x138 x139 x140 x141 x142 x143 x144 x145 x146 x147 x148 x149 x150 x151 x152 x153 x154 x155 x156 x157 x158 x159 x160 x161 x162 x163 x164 x165 x166 x167 x168 x169 x170 x171 x172 x173 x174 x175 x176 x177 x178 x179 x180 x181 x182 x183 x184 x185 x186 x187 x188 x189 x190 x191 x192 x193 x194 x195 x196 x197 x198 x199 x200 x201 x202 x203 x204 x205 x206 x207 x208 x209 x210 x211 x212 x213 x214 x215 x216 x217 x218 x219 x220 x221 x222 x223 x224 x225 x226 x227 x228 x229 x230 x231 x232 x233 x234 x235 x236 x237 x238 x239 x240 x241 x242 x243 x244 x245 x246 x247 x248 x249 x250 x251 x252 x253 x254 x255 x256 x257 x258 x259 x260 x261 x262 x263 x264 x265 x266 x267 x268 x269 x270 x271 x272 x273 x274 x275 x276 x277 x278 x279 x280 x281 x282 x283 x284 x285 x286 x287 x288 x289 x290 x291 x292 x293 x294 x295 x296 x297 x298 x299 x300 x301 x302 x303 x304 x305 x306 x307 x308 x309 x310 x311 x312 x313 x314 x315 x316 x317 x318 x319 x320 x321 x322 x323 x324 x325 x326 x327 x328 x329 x330 x331 x332 x333 x334 x335 x336 x337 x338 x339 x340 x341 x342 x343 x344 x345 : Value} (wx : World) (HS0 : St B w wx 0 0) (hsz0 : wx.heap.size = B + 2) (K1 : Act → World → Prop) (Q' : Exit → Act → World → Prop) (hQ' : Q' = bodyPost Yba.prog Yba.f3 (fun e w' => e = .returned (.bool true) ∧ Below w.heap.size w w'))
    (hK1 : ∀ a w, Code.wp Yba.prog (dropC 10 (Yba.f3.body.getD .skip)) Q' a w → K1 a w) :
    Code.wp Yba.prog (headC (dropC 9 (Yba.f3.body.getD .skip))) (Exit.then K1 Q') { tmps := #[.slice a0 nn c0, .slice a1 np c1, x2, x3, .bool clear, .int .i64 kept, .int .u64 ver, x7, x8, x9, x10, x11, x12, x13, x14, .string T, .pointer (some ⟨B, 0, none⟩), .func (.func 4) #[] #[.pointer (some ⟨B, 0, none⟩)], .pointer (some ⟨B + 1, 0, none⟩), fv, x20, x21, x22, x23, x24, x25, x26, x27, x28, x29, x30, x31, x32, x33, x34, x35, x36, x37, x38, x39, x40, x41, x42, x43, x44, x45, x46, x47, x48, x49, x50, x51, x52, x53, x54, x55, x56, x57, x58, x59, x60, x61, x62, x63, x64, x65, x66, x67, x68, x69, x70, x71, x72, x73, x74, x75, x76, x77, x78, x79, x80, x81, x82, x83, x84, x85, x86, x87, x88, x89, x90, x91, x92, x93, x94, x95, x96, x97, x98, x99, x100, x101, x102, x103, x104, x105, x106, x107, x108, x109, x110, x111, x112, x113, x114, x115, x116, x117, x118, x119, x120, x121, x122, x123, x124, x125, x126, x127, x128, x129, x130, x131, x132, x133, x134, x135, x136, x137, x138, x139, x140, x141, x142, x143, x144, x145, x146, x147, x148, x149, x150, x151, x152, x153, x154, x155, x156, x157, x158, x159, x160, x161, x162, x163, x164, x165, x166, x167, x168, x169, x170, x171, x172, x173, x174, x175, x176, x177, x178, x179, x180, x181, x182, x183, x184, x185, x186, x187, x188, x189, x190, x191, x192, x193, x194, x195, x196, x197, x198, x199, x200, x201, x202, x203, x204, x205, x206, x207, x208, x209, x210, x211, x212, x213, x214, x215, x216, x217, x218, x219, x220, x221, x222, x223, x224, x225, x226, x227, x228, x229, x230, x231, x232, x233, x234, x235, x236, x237, x238, x239, x240, x241, x242, x243, x244, x245, x246, x247, x248, x249, x250, x251, x252, x253, x254, x255, x256, x257, x258, x259, x260, x261, x262, x263, x264, x265, x266, x267, x268, x269, x270, x271, x272, x273, x274, x275, x276, x277, x278, x279, x280, x281, x282, x283, x284, x285, x286, x287, x288, x289, x290, x291, x292, x293, x294, x295, x296, x297, x298, x299, x300, x301, x302, x303, x304, x305, x306, x307, x308, x309, x310, x311, x312, x313, x314, x315, x316, x317, x318, x319, x320, x321, x322, x323, x324, x325, x326, x327, x328, x329, x330, x331, x332, x333, x334, x335, x336, x337, x338, x339, x340, x341, x342, x343, x344, x345], defers := [] } wx := by
  subst hQ'
  replace HB := hid HB
  replace H0 := hid H0
  replace H1 := hid H1
  simp only [Yba.f3, Option.getD, dropC, headC] at hK1 ⊢
  replace HF := hid HF
  replace HS0 := hid HS0
  have mk32 := fun (n : Int) (w : World) => run_makeMap_hint (P := Yba.prog) Yba.underlying32 n w
  have mk33 := fun (n : Int) (w : World) => run_makeMap_hint (P := Yba.prog) Yba.underlying33 n w
  go_wp2_with fail
  have hM0 : MapFn Yba.prog 9 (wx.alloc (.map #[] 0)) (B + 2) 0 (fun _ => none) 0 := by rw [← hsz0]; exact MapFn.made _ _ _
  have hS0 : St B w (wx.alloc (.map #[] 0)) 0 0 := HS0.out.below (L := B + 2) (Nat.le_refl _) ((Below.refl _ _).alloc (by omega) _)
  go_loopw [105] (fun s105 wr => ∃ k : Nat, k ≤ nn ∧ s105 = .int .i64 (k : Nat) ∧ St B w wr 0 0 ∧ B + 3 ≤ wr.heap.size ∧ ∃ g sz, MapFn Yba.prog 9 wr (B + 2) k g sz ∧ ∀ i, i < k → g (kS (S i)) = some (oldV B)) (fun i _ => nn - (intOf i).toNat)
  case atStart => exact ⟨0, Nat.zero_le _, rfl, hS0, by simp; omega, _, _, hM0, fun i hi => absurd hi (Nat.not_lt_zero _)⟩
  case round =>
    obtain ⟨k, hk, rfl, hSt, hsz, gc, sc, hM, hg⟩ := hrel
    have HSt := hid hSt
    have HG := hid hg
    clear hSt hg hM0 hS0
    by_cases hkn : k < nn
    · obtain ⟨b, off, rfl, hb, hc, hlen⟩ := H0.out k hkn
      have hcr : wr.cell? ⟨b, off + k, none⟩ = some (.string (S k)) := by rw [HSt.out.bel.cell (by exact hb)]; exact hc
      have hkn' : (k : Int) < (nn : Int) := by omega
      clear hc
      go_wp2_with (at_mapUpdate; refine wpList_mstore _ rfl (.tmp 109) (.tmp 110) (.tmp 111) 32 rfl 9 28 law Yba.underlying32 (B + 2) k gc sc rfl hM (by unfold maxLen; omega) _ _ _ rfl rfl (kS_key hlen) (kS_ok _) ?_; intro w2 hM2 ht2; have HM2 := hid hM2; have HT2 := hid ht2; clear hM2 ht2)
      go_roundw
      case rel =>
        refine ⟨k + 1, by omega, by go_num, HSt.out.below (L := B + 2) (Nat.le_refl _) (turned_below HT2.out (Nat.le_refl _) hM.lt), Nat.le_trans hsz HT2.out.grown.size, _, _, HM2.out, fun i hi => ?_⟩
        by_cases e : kS (S i) = kS (S k)
        · rw [e, putF_same (kS_ok _)]; rfl
        · rw [putF_other e]; exact HG.out i (by by_cases q : i = k; { subst q; exact absurd rfl e }; omega)
      case measure => simp [intOf]; omega
    · obtain rfl : nn = k := by omega
      have HM1 := hid hM
      clear hM hkn
      obtain ⟨pm, hpm⟩ : ∃ p, wr.heap.size = p := ⟨_, rfl⟩
      have Hpm := hid hpm
      rw [hpm] at hsz
      go_wp2_with fail
      have hP0 : MapFn Yba.prog 9 (wr.alloc (.map #[] 0)) pm 0 (fun _ => none) 0 := by rw [← Hpm.out]; exact MapFn.made _ _ _
      have hBl0 : Below wr.heap.size wr (wr.alloc (.map #[] 0)) := (Below.refl _ _).alloc (Nat.le_refl _) _
      have hS1 : St B w (wr.alloc (.map #[] 0)) 0 0 := HSt.out.below HSt.out.size hBl0
      have hM1 : MapFn Yba.prog 9 (wr.alloc (.map #[] 0)) (B + 2) nn gc sc := HM1.out.below hBl0
      have hsz1 : pm + 1 ≤ (wr.alloc (.map #[] 0)).heap.size := by simp [Hpm.out]
      clear hpm
      go_loopw [118] (fun s118 wq => ∃ j : Nat, j ≤ np ∧ s118 = .int .i64 (j : Nat) ∧ St B w wq 0 0 ∧ pm + 1 ≤ wq.heap.size ∧ MapFn Yba.prog 9 wq (B + 2) nn gc sc ∧ ∃ g sz, MapFn Yba.prog 9 wq pm j g sz ∧ Ints g ∧ ∀ i, i < j → (g (kS (PN i))).isSome = true) (fun i _ => np - (intOf i).toNat)
      case atStart => exact ⟨0, Nat.zero_le _, rfl, hS1, hsz1, hM1, _, _, hP0, fun kl => .inl rfl, fun i hi => absurd hi (Nat.not_lt_zero _)⟩
      case round =>
        obtain ⟨j, hj, rfl, hSq, hsq, hMq, gp, sp, hPq, hIn, hall⟩ := hrel
        have HSq := hid hSq
        have HIn := hid hIn
        have HAll := hid hall
        clear hSq hall hIn hP0 hBl0 hS1 hM1 hsz1
        by_cases hjn : j < np
        · obtain ⟨b, off, rfl, hb, hc0, hc1, hlen⟩ := H1.out j hjn
          have hcr0 : wr.cell? ⟨b, off + j * 2, none⟩ = some (.string (PN j)) := by rw [HSq.out.bel.cell (by exact hb)]; exact hc0
          have hcr1 : wr.cell? ⟨b, off + j * 2 + 1, none⟩ = some (.int .i64 (PB j)) := by rw [HSq.out.bel.cell (by exact hb)]; exact hc1
          have hjn' : (j : Int) < (np : Int) := by omega
          clear hc0 hc1
          have HMq := hid hMq
          clear hMq
          go_wp2_with (at_mapUpdate; refine wpList_mstore _ rfl (.tmp 122) (.tmp 124) (.tmp 126) 33 rfl 9 3 law Yba.underlying33 pm j gp sp rfl (hPq.below ((Below.refl _ _).alloc (Nat.le_refl _) _)) (by unfold maxLen; omega) _ _ _ rfl rfl (kS_key hlen) (kS_ok _) ?_; intro w2 hP2 ht2; have HP2 := hid hP2; have HT2 := hid ht2; clear hP2 ht2)
          go_roundw
          case rel =>
            have hb1 : Below wr.heap.size wr (wr.alloc (.cells #[.string (PN j), .int .i64 (PB j)] 26)) := (Below.refl _ _).alloc (Nat.le_refl _) _
            have hb2 := turned_below HT2.out (Nat.le_refl _) (Nat.lt_of_lt_of_le hPq.lt hb1.size)
            refine ⟨j + 1, by omega, by go_num, (HSq.out.below HSq.out.size hb1).below (L := pm) (by omega) hb2, ?_, (HMq.out.below hb1).turn HT2.out (by omega), _, _, HP2.out, HIn.out.put _ _, fun i hi => ?_⟩
            · have := HT2.out.grown.size; have := hb1.size; omega
            · by_cases e : kS (PN i) = kS (PN j)
              · rw [e, putF_same (kS_ok _)]; rfl
              · rw [putF_other e]; exact HAll.out i (by by_cases q : i = j; { subst q; exact absurd rfl e }; omega)
          case measure => simp [intOf]; omega
        · obtain rfl : np = j := by omega
          have HMq := hid hMq
          have HPq := hid hPq
          clear hMq hPq
          go_upto_region 29 with fail
          rename_i Ka hKa
          exact part13 a0 a1 nn c0 np c1 S PN PB clear kept ver w B T hnn hnp hT HB.out H0.out H1.out pm sc sp gc gp hsz HG.out HIn.out HAll.out fv HF.out wr HSq.out HMq.out HPq.out Ka _ rfl hKa

end Go.Proofs.Ybulkblti

import Derived.Test.YbulkbltiP17
import Derived.Deep.DeepCutAuto
import Derived.Deep.MidRow
import Derived.Deep.CutBlock
import Derived.Deep.LoopGhost
namespace Go.Proofs.Ybulkblti
open Go.RowKit Go.Maps Go.WideMaps
set_option linter.unusedVariables false

set_option maxRecDepth 100000 in
set_option maxHeartbeats 4000000 in
theorem part13 (a0 a1 : Option Addr) (nn c0 np c1 : Nat) (S PN : Nat → ByteArray) (PB : Nat → Int) (clear : Bool) (kept ver : Int) (w : World) (B : Nat) (T : ByteArray)
    (hnn : nn ≤ 1024) (hnp : np ≤ 1024) (hT : T.size ≤ maxLen) (HB : w.heap.size = B)
    (H0 : ∀ k, k < nn → ∃ b off, a0 = some ⟨b, off, none⟩ ∧ b < B ∧ w.cell? ⟨b, off + k, none⟩ = some (.string (S k)) ∧ (S k).size ≤ maxLen)
    (H1 : ∀ k, k < np → ∃ b off, a1 = some ⟨b, off, none⟩ ∧ b < B ∧ w.cell? ⟨b, off + k * 2, none⟩ = some (.string (PN k)) ∧ w.cell? ⟨b, off + k * 2 + 1, none⟩ = some (.int .i64 (PB k)) ∧ (PN k).size ≤ maxLen)
    (pm sc sp : Nat) (gc gp : Lit → Option Value) (l2 : B + 3 ≤ pm) (HG : ∀ i, i < nn → gc (kS (S i)) = some (oldV B)) (HIn : Ints gp) (HAll : ∀ i, i < np → (gp (kS (PN i))).isSome = true) (fv : Value) (HF : newV clear (B + 1) = fv)
    {x2 x3 x7 x8 x9 x10 x11 x12 x13 x14 x17 x21 x22 x24 x25 x26 x27 x28 x29 x30 x31 x32 x33 x34 x35 x36 x37 x38 x39 x40 x41 x42 x43 x44 x45 x46 x47 x48 x49 x50 x51 x52 x53 x54 x55 x56 x57 x58 x59 x60 x61 x62 x63 x64 x65 x66 x67 x68 x69 x70 x71 x72 x73 x74 x75 x76 x77 x78 x79 x80 x81 x82 x83 x84 x85 x86 x87 x88 x89 x90 x91 x92 x93 x94 x95 x96 x97 x98 x99 x100 x101 x102 x103 x104 x105 x106 x107 x108 x109 x110 x111 x112 x113 x114 x115 x116 x117 x118 x119 x120 x121 x122 x123 x124 x125 x126 x127 x128 x129 x130 x131 x132 x133 x134 x135 x136 x137 x138 x139 x140 x141 x142 x143 x144 x145 x146 x147 x148 x149 x150 x151 x152 x153 x154 x155 x156 x157 x158 x159 x160 x161 x162 x163 x164 x165 x166 x167 x168 x169 x170 x171 x172 x173 x174 x175 x176 x177 x178 x179 x180 x181 x182 x183 x184 x185 x186 x187 x188 x189 x190 x191 x192 x193 x194 x195 x196 x197 x198 x199 x200 x201 x202 x203 x204 x205 x206 x207 x208 x209 x210 x211 x212 x213 x214 x215 x216 x217 x218 x219 x220 x221 x222 x223 x224 x225 x226 x227 x228 x229 x230 x231 x232 x233 x234 x235 x236 x237 x238 x239 x240 x241 x242 x243 x244 x245 x246 x247 x248 x249 x250 x251 x252 x253 x254 x255 x256 x257 x258 x259 x260 x261 x262 x263 x264 x265 x266 x267 x268 x269 x270 x271 x272 x273 x274 x275 x276 x277 x278 x279 x280 x281 x282 x283 x284 x285 x286 x287 x288 x289 x290 x291 x292 x293 x294 x295 x296 x297 x298 x299 x300 x301 x302 x303 x304 x305 x306 x307 x308 x309 x310 x311 x312 x313 x314 x315 x316 x317 x318 x319 x320 x321 x322 x323 x324 x325 x326 x327 x328 x329 x330 x331 x332 x333 x334 x335 x336 x337 x338 x339 x340 x341 x342 x343 x344 x345 : Value} (wx : World) (HSq : St B w wx 0 0) (HMq : MapFn Yba.prog 9 wx (B + 2) nn gc sc) (HPq : MapFn Yba.prog 9 wx pm np gp sp) (K1 : Act → World → Prop) (Q' : Exit → Act → World → Prop) (hQ' : Q' = bodyPost Yba.prog Yba.f3 (fun e w' => e = .returned (.bool true) ∧ Below w.heap.size w w'))
    (hK1 : ∀ a w, Code.wp Yba.prog (dropC 14 (Yba.f3.body.getD .skip)) Q' a w → K1 a w) :
    Code.wp Yba.prog (headC (dropC 13 (Yba.f3.body.getD .skip))) (Exit.then K1 Q') { tmps := #[.slice a0 nn c0, .slice a1 np c1, x2, x3, .bool clear, .int .i64 kept, .int .u64 ver, x7, x8, x9, x10, x11, x12, x13, x14, .string T, .pointer (some ⟨B, 0, none⟩), x17, .pointer (some ⟨B + 1, 0, none⟩), fv, .map (some (B + 2)), x21, x22, .map (some pm), x24, x25, x26, x27, x28, x29, x30, x31, x32, x33, x34, x35, x36, x37, x38, x39, x40, x41, x42, x43, x44, x45, x46, x47, x48, x49, x50, x51, x52, x53, x54, x55, x56, x57, x58, x59, x60, x61, x62, x63, x64, x65, x66, x67, x68, x69, x70, x71, x72, x73, x74, x75, x76, x77, x78, x79, x80, x81, x82, x83, x84, x85, x86, x87, x88, x89, x90, x91, x92, x93, x94, x95, x96, x97, x98, x99, x100, x101, x102, x103, x104, x105, x106, x107, x108, x109, x110, x111, x112, x113, x114, x115, x116, x117, x118, x119, x120, x121, x122, x123, x124, x125, x126, x127, x128, x129, x130, x131, x132, x133, x134, x135, x136, x137, x138, x139, x140, x141, x142, x143, x144, x145, x146, x147, x148, x149, x150, x151, x152, x153, x154, x155, x156, x157, x158, x159, x160, x161, x162, x163, x164, x165, x166, x167, x168, x169, x170, x171, x172, x173, x174, x175, x176, x177, x178, x179, x180, x181, x182, x183, x184, x185, x186, x187, x188, x189, x190, x191, x192, x193, x194, x195, x196, x197, x198, x199, x200, x201, x202, x203, x204, x205, x206, x207, x208, x209, x210, x211, x212, x213, x214, x215, x216, x217, x218, x219, x220, x221, x222, x223, x224, x225, x226, x227, x228, x229, x230, x231, x232, x233, x234, x235, x236, x237, x238, x239, x240, x241, x242, x243, x244, x245, x246, x247, x248, x249, x250, x251, x252, x253, x254, x255, x256, x257, x258, x259, x260, x261, x262, x263, x264, x265, x266, x267, x268, x269, x270, x271, x272, x273, x274, x275, x276, x277, x278, x279, x280, x281, x282, x283, x284, x285, x286, x287, x288, x289, x290, x291, x292, x293, x294, x295, x296, x297, x298, x299, x300, x301, x302, x303, x304, x305, x306, x307, x308, x309, x310, x311, x312, x313, x314, x315, x316, x317, x318, x319, x320, x321, x322, x323, x324, x325, x326, x327, x328, x329, x330, x331, x332, x333, x334, x335, x336, x337, x338, x339, x340, x341, x342, x343, x344, x345], defers := [] } wx := by
  subst hQ'
  replace HB := hid HB
  replace H0 := hid H0
  replace H1 := hid H1
  simp only [Yba.f3, Option.getD, dropC, headC] at hK1 ⊢
  replace HG := hid HG
  replace HIn := hid HIn
  replace HAll := hid HAll
  replace HF := hid HF
  have hsq : pm + 1 ≤ wx.heap.size := HPq.lt
  replace HSq := hid HSq
  replace HMq := hid HMq
  replace HPq := hid HPq
  obtain ⟨vT, hvT⟩ : ∃ v, (gc (kS T)).getD .nilFunc = v := ⟨_, rfl⟩
  obtain ⟨hadC, hhadC⟩ : ∃ v, (gc (kS T)).isSome = v := ⟨_, rfl⟩
  obtain ⟨hadP, hhadP⟩ : ∃ v, (gp (kS T)).isSome = v := ⟨_, rfl⟩
  obtain ⟨nP, hnP⟩ : ∃ v, numO (gp (kS T)) = v := ⟨_, rfl⟩
  have HvT := hid hvT
  have HhadC := hid hhadC
  have HhadP := hid hhadP
  have HnP := hid hnP
  clear hvT hhadC hhadP hnP
  obtain ⟨i3, hi3, hz3, hs3, hb3⟩ := info_parts info3
  go_wp2_with (first | (at_lookup; refine wpList_look_ok _ rfl (.tmp 129) (.tmp 130) 33 rfl 9 3 law Yba.underlying33 _ (zero3 _) pm np gp sp rfl HPq.out _ _ rfl (kS_key hT) (kS_ok _) (.int .i64 nP) hadP (by rw [← HnP.out]; exact HIn.out.num _) HhadP.out ?_) | (at_lookup; refine wpList_look_ok _ rfl (.tmp 135) (.tmp 136) 32 rfl 9 28 law Yba.underlying32 _ (zero28 _) (B + 2) nn gc sc rfl HMq.out _ _ rfl (kS_key hT) (kS_ok _) vT hadC HvT.out HhadC.out ?_) | (at_make; refine wpList_make_full _ rfl (.tmp 141) (.tmp 141) 36 rfl wx.heap.size 3 i3 (.int .i64 0) 1 Yba.underlying36 hi3 hz3 hs3 .i64 .i64 _ _ np rfl rfl rfl rfl (by rw [hb3]; omega) (by unfold maxLen; omega) (Nat.le_refl _) ?_; intro w3 hown3 hgr3; have HO3 := hid hown3; have HG3 := hid hgr3; clear hown3 hgr3))
  have hb3' := below_of_grown_none HG3.out
  obtain ⟨Pb, hPb⟩ : ∃ p, wx.heap.size = p := ⟨_, rfl⟩
  have hL0 : L3 B Pb pm nn np w w3 gc gp sc sp PN 0 := ⟨HSq.out.below HSq.out.size hb3', HMq.out.below hb3', HPq.out.below hb3', by rw [← hPb]; exact there_of_own1 HO3.out, fun i hi => absurd hi (Nat.not_lt_zero _), by rw [← hPb]; exact own_lt HO3.out⟩
  have hPb3 : pm + 1 ≤ Pb := by omega
  rw [hPb]
  clear hPb hb3' HG3 HO3
  go_loopw [145] (fun s145 wz => ∃ m : Nat, m ≤ np ∧ s145 = .int .i64 (m : Nat) ∧ L3 B Pb pm nn np w wz gc gp sc sp PN m) (fun i _ => np - (intOf i).toNat)
  case atStart => exact ⟨0, Nat.zero_le _, rfl, hL0⟩
  case round =>
    obtain ⟨m, hm, rfl, hL⟩ := hrel
    have HL := hid hL
    clear hL hL0
    have hlP : Pb < wr.heap.size := HL.out.lPb
    by_cases hmj : m < np
    · obtain ⟨b, off, rfl, hb, hc0, hc1, hlen⟩ := H1.out m hmj
      have hcr0 : wr.cell? ⟨b, off + m * 2, none⟩ = some (.string (PN m)) := by rw [HL.out.st.bel.cell (by exact hb)]; exact hc0
      have hcr1 : wr.cell? ⟨b, off + m * 2 + 1, none⟩ = some (.int .i64 (PB m)) := by rw [HL.out.st.bel.cell (by exact hb)]; exact hc1
      have hmj' : (m : Int) < (np : Int) := by omega
      obtain ⟨x, hx, hfx⟩ := there_at HL.out.th hmj
      obtain ⟨nm, hnm⟩ := num_yes HIn.out (HAll.out m hmj)
      have Hnm := hid hnm
      clear hnm hc0 hc1
      go_wp2_with (at_lookup; refine wpList_look _ rfl (.tmp 152) (.tmp 154) 33 rfl 9 3 law Yba.underlying33 _ (zero3 _) pm np gp sp rfl (HL.out.mp.below ((Below.refl _ _).alloc (Nat.le_refl _) _)) _ _ rfl (kS_key hlen) (kS_ok _) (.int .i64 nm) (by rw [Hnm.out]; rfl) ?_)
      go_roundw
      case rel => exact ⟨m + 1, by omega, by go_num, (HL.out.put hmj Hnm.out (by omega) (by omega)).below ((Below.refl _ _).alloc (Nat.le_refl _) _)⟩
      case measure => simp [intOf]; omega
    · obtain rfl : np = m := by omega
      go_upto_region 37 with fail
      rename_i Ka hKa
      exact part17 a0 a1 nn c0 np c1 S PN PB clear kept ver w B T hnn hnp hT HB.out H0.out H1.out Pb pm sc sp gc gp l2 hPb3 HG.out HIn.out HAll.out hadC hadP nP HhadC.out HhadP.out HnP.out fv HF.out wr HL.out Ka _ rfl hKa

end Go.Proofs.Ybulkblti

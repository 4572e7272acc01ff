import Derived.Test.YbulkbltiP20
import Derived.Deep.DeepCutAuto
import Derived.Deep.MidRow
import Derived.Deep.CutBlock
import Derived.Deep.LoopGhost
namespace Go.Proofs.Ybulkblti
open Go.RowKit Go.Maps Go.WideMaps
set_option linter.unusedVariables false

set_option maxRecDepth 100000 in
set_option maxHeartbeats 4000000 in
theorem part17 (a0 a1 : Option Addr) (nn c0 np c1 : Nat) (S PN : Nat → ByteArray) (PB : Nat → Int) (clear : Bool) (kept ver : Int) (w : World) (B : Nat) (T : ByteArray)
    (hnn : nn ≤ 1024) (hnp : np ≤ 1024) (hT : T.size ≤ maxLen) (HB : w.heap.size = B)
    (H0 : ∀ k, k < nn → ∃ b off, a0 = some ⟨b, off, none⟩ ∧ b < B ∧ w.cell? ⟨b, off + k, none⟩ = some (.string (S k)) ∧ (S k).size ≤ maxLen)
    (H1 : ∀ k, k < np → ∃ b off, a1 = some ⟨b, off, none⟩ ∧ b < B ∧ w.cell? ⟨b, off + k * 2, none⟩ = some (.string (PN k)) ∧ w.cell? ⟨b, off + k * 2 + 1, none⟩ = some (.int .i64 (PB k)) ∧ (PN k).size ≤ maxLen)
    (Pb pm sc sp : Nat) (gc gp : Lit → Option Value) (l2 : B + 3 ≤ pm) (l3 : pm + 1 ≤ Pb) (HG : ∀ i, i < nn → gc (kS (S i)) = some (oldV B)) (HIn : Ints gp) (HAll : ∀ i, i < np → (gp (kS (PN i))).isSome = true) (hadC hadP : Bool) (nP : Int) (HhadC : (gc (kS T)).isSome = hadC) (HhadP : (gp (kS T)).isSome = hadP) (HnP : numO (gp (kS T)) = nP) (fv : Value) (HF : newV clear (B + 1) = fv)
    {x2 x3 x7 x8 x9 x10 x11 x12 x13 x14 x17 x21 x22 x24 x25 x28 x31 x32 x33 x34 x35 x36 x37 x38 x39 x40 x41 x42 x43 x44 x45 x46 x47 x48 x49 x50 x51 x52 x53 x54 x55 x56 x57 x58 x59 x60 x61 x62 x63 x64 x65 x66 x67 x68 x69 x70 x71 x72 x73 x74 x75 x76 x77 x78 x79 x80 x81 x82 x83 x84 x85 x86 x87 x88 x89 x90 x91 x92 x93 x94 x95 x96 x97 x98 x99 x100 x101 x102 x103 x104 x105 x106 x107 x108 x109 x110 x111 x112 x113 x114 x115 x116 x117 x118 x119 x120 x121 x122 x123 x124 x125 x126 x127 x128 x129 x130 x131 x132 x133 x134 x135 x136 x137 x138 x139 x140 x141 x142 x143 x144 x145 x146 x147 x148 x149 x150 x151 x152 x153 x154 x155 x156 x157 x158 x159 x160 x161 x162 x163 x164 x165 x166 x167 x168 x169 x170 x171 x172 x173 x174 x175 x176 x177 x178 x179 x180 x181 x182 x183 x184 x185 x186 x187 x188 x189 x190 x191 x192 x193 x194 x195 x196 x197 x198 x199 x200 x201 x202 x203 x204 x205 x206 x207 x208 x209 x210 x211 x212 x213 x214 x215 x216 x217 x218 x219 x220 x221 x222 x223 x224 x225 x226 x227 x228 x229 x230 x231 x232 x233 x234 x235 x236 x237 x238 x239 x240 x241 x242 x243 x244 x245 x246 x247 x248 x249 x250 x251 x252 x253 x254 x255 x256 x257 x258 x259 x260 x261 x262 x263 x264 x265 x266 x267 x268 x269 x270 x271 x272 x273 x274 x275 x276 x277 x278 x279 x280 x281 x282 x283 x284 x285 x286 x287 x288 x289 x290 x291 x292 x293 x294 x295 x296 x297 x298 x299 x300 x301 x302 x303 x304 x305 x306 x307 x308 x309 x310 x311 x312 x313 x314 x315 x316 x317 x318 x319 x320 x321 x322 x323 x324 x325 x326 x327 x328 x329 x330 x331 x332 x333 x334 x335 x336 x337 x338 x339 x340 x341 x342 x343 x344 x345 : Value} (wx : World) (hL : L3 B Pb pm nn np w wx gc gp sc sp PN np) (K1 : Act → World → Prop) (Q' : Exit → Act → World → Prop) (hQ' : Q' = bodyPost Yba.prog Yba.f3 (fun e w' => e = .returned (.bool true) ∧ Below w.heap.size w w'))
    (hK1 : ∀ a w, Code.wp Yba.prog (dropC 18 (Yba.f3.body.getD .skip)) Q' a w → K1 a w) :
    Code.wp Yba.prog (headC (dropC 17 (Yba.f3.body.getD .skip))) (Exit.then K1 Q') { tmps := #[.slice a0 nn c0, .slice a1 np c1, x2, x3, .bool clear, .int .i64 kept, .int .u64 ver, x7, x8, x9, x10, x11, x12, x13, x14, .string T, .pointer (some ⟨B, 0, none⟩), x17, .pointer (some ⟨B + 1, 0, none⟩), fv, .map (some (B + 2)), x21, x22, .map (some pm), x24, x25, .int .i64 nP, .bool hadP, x28, .bool hadC, .slice (some ⟨Pb, 0, none⟩) np np, x31, x32, x33, x34, x35, x36, x37, x38, x39, x40, x41, x42, x43, x44, x45, x46, x47, x48, x49, x50, x51, x52, x53, x54, x55, x56, x57, x58, x59, x60, x61, x62, x63, x64, x65, x66, x67, x68, x69, x70, x71, x72, x73, x74, x75, x76, x77, x78, x79, x80, x81, x82, x83, x84, x85, x86, x87, x88, x89, x90, x91, x92, x93, x94, x95, x96, x97, x98, x99, x100, x101, x102, x103, x104, x105, x106, x107, x108, x109, x110, x111, x112, x113, x114, x115, x116, x117, x118, x119, x120, x121, x122, x123, x124, x125, x126, x127, x128, x129, x130, x131, x132, x133, x134, x135, x136, x137, x138, x139, x140, x141, x142, x143, x144, x145, x146, x147, x148, x149, x150, x151, x152, x153, x154, x155, x156, x157, x158, x159, x160, x161, x162, x163, x164, x165, x166, x167, x168, x169, x170, x171, x172, x173, x174, x175, x176, x177, x178, x179, x180, x181, x182, x183, x184, x185, x186, x187, x188, x189, x190, x191, x192, x193, x194, x195, x196, x197, x198, x199, x200, x201, x202, x203, x204, x205, x206, x207, x208, x209, x210, x211, x212, x213, x214, x215, x216, x217, x218, x219, x220, x221, x222, x223, x224, x225, x226, x227, x228, x229, x230, x231, x232, x233, x234, x235, x236, x237, x238, x239, x240, x241, x242, x243, x244, x245, x246, x247, x248, x249, x250, x251, x252, x253, x254, x255, x256, x257, x258, x259, x260, x261, x262, x263, x264, x265, x266, x267, x268, x269, x270, x271, x272, x273, x274, x275, x276, x277, x278, x279, x280, x281, x282, x283, x284, x285, x286, x287, x288, x289, x290, x291, x292, x293, x294, x295, x296, x297, x298, x299, x300, x301, x302, x303, x304, x305, x306, x307, x308, x309, x310, x311, x312, x313, x314, x315, x316, x317, x318, x319, x320, x321, x322, x323, x324, x325, x326, x327, x328, x329, x330, x331, x332, x333, x334, x335, x336, x337, x338, x339, x340, x341, x342, x343, x344, x345], defers := [] } wx := by
  subst hQ'
  replace HB := hid HB
  replace H0 := hid H0
  replace H1 := hid H1
  simp only [Yba.f3, Option.getD, dropC, headC] at hK1 ⊢
  replace HG := hid HG
  replace HIn := hid HIn
  replace HAll := hid HAll
  replace HhadC := hid HhadC
  replace HhadP := hid HhadP
  replace HnP := hid HnP
  replace HF := hid HF
  have HL := hid hL
  clear hL
  have hl1 := HL.out.mc.len Yba.underlying32 3
  have hl2 := HL.out.mp.len Yba.underlying33 3
  go_wp2_with fail
  clear hl1 hl2
  have hsc : sc ≤ 1024 := Nat.le_trans HL.out.mc.le hnn
  have hsp : sp ≤ 1024 := Nat.le_trans HL.out.mp.le hnp
  have hbl := HL.out.st.size
  have hpl := HL.out.mp.lt
  have hlP := HL.out.lPb
  have hset := fun (wy : World) (hI : IC wx.heap.size (B + 2) pm kept ver wy) (hc : MapFn Yba.prog 9 wy (B + 2) nn gc sc) (hp : MapFn Yba.prog 9 wy pm np gp sp) => set_all wx.heap.size (B + 2) pm nn np sc sp kept ver gc gp T clear (B + 1) wy hT hI hc hp (by omega) (by omega) (by omega) (by unfold maxLen; omega) HIn.out
  rw [HF.out] at hset
  refine (hset _ ?ic (HL.out.mc.below ((Below.refl _ _).alloc (Nat.le_refl _) _)) (HL.out.mp.below ((Below.refl _ _).alloc (Nat.le_refl _) _))).mono ?_
  case ic => constructor <;> simp
  clear hset
  rintro e w4 ⟨rfl, nc', hD⟩
  have hFi := fin_of HL.out (Nat.le_refl _) ((Below.refl _ _).alloc (Nat.le_refl _) _) (Nat.le_refl _) (by omega) (by omega) (by omega) hD
  have HFi := hid hFi
  have HPosC := hid (fun h : hadC = true => HL.out.mc.pos (kS_ok T) (by rw [HhadC.out]; exact h))
  have HPos := hid (fun h : hadP = true => HL.out.mp.pos (kS_ok T) (by rw [HhadP.out]; exact h))
  clear hD HL hFi
  go_upto_region 40 with fail
  rename_i Ka hKa Kb hKb
  exact part20 a0 a1 nn c0 np c1 S PN PB clear kept ver w B T hnn hnp hT HB.out H0.out H1.out Pb wx.heap.size pm nc' _ _ _ gc gp _ _ (by omega) (by omega) (by omega) HG.out (fun x hx => putF_other hx) (putF_same (kS_ok _)) hadC sc hsc rfl HhadC.out HPosC.out (putF_same (kS_ok _)) (fun x hx => putF_other hx) HIn.out HAll.out hadP nP sp hsp HhadP.out HnP.out rfl rfl HPos.out w4 HFi.out Ka Kb _ rfl hKa hKb

end Go.Proofs.Ybulkblti

import Derived.Test.YbulkbltiNav
import Derived.Deep.DeepCutAuto
import Derived.Deep.MidRow
import Derived.Deep.CutBlock
import Derived.Deep.LoopGhost
namespace Go.Proofs.Ybulkblti
open Go.RowKit Go.Maps Go.WideMaps
set_option linter.unusedVariables false

set_option maxRecDepth 100000 in
set_option maxHeartbeats 4000000 in
theorem part34 (a0 a1 : Option Addr) (nn c0 np c1 : Nat) (S PN : Nat → ByteArray) (PB : Nat → Int) (clear : Bool) (kept ver : Int) (w : World) (B : Nat) (T : ByteArray)
    (hnn : nn ≤ 1024) (hnp : np ≤ 1024) (hT : T.size ≤ maxLen) (HB : w.heap.size = B)
    (H0 : ∀ k, k < nn → ∃ b off, a0 = some ⟨b, off, none⟩ ∧ b < B ∧ w.cell? ⟨b, off + k, none⟩ = some (.string (S k)) ∧ (S k).size ≤ maxLen)
    (H1 : ∀ k, k < np → ∃ b off, a1 = some ⟨b, off, none⟩ ∧ b < B ∧ w.cell? ⟨b, off + k * 2, none⟩ = some (.string (PN k)) ∧ w.cell? ⟨b, off + k * 2 + 1, none⟩ = some (.int .i64 (PB k)) ∧ (PN k).size ≤ maxLen)
    (Pb N pm nc' Sc Sp : Nat) (Kp : Int) (gc gp gc' gp' : Lit → Option Value) (nN : Int) (l1 : B + 2 ≤ N) (l2 : B + 2 ≤ pm) (l3 : B + 2 ≤ Pb) (HG : ∀ i, i < nn → gc (kS (S i)) = some (oldV B)) (HcO : ∀ x, x ≠ kS T → gc' x = gc x)
    {x2 x3 x7 x8 x9 x10 x11 x12 x13 x14 x17 x19 x20 x21 x22 x23 x24 x25 x26 x27 x28 x29 x30 x31 x32 x33 x34 x36 x37 x38 x39 x40 x41 x42 x43 x44 x45 x46 x47 x48 x49 x50 x51 x52 x53 x54 x55 x56 x57 x58 x59 x60 x61 x62 x63 x64 x65 x66 x67 x68 x69 x70 x71 x72 x73 x74 x75 x76 x77 x78 x79 x80 x81 x82 x83 x84 x85 x86 x87 x88 x89 x90 x91 x92 x93 x94 x95 x96 x97 x98 x99 x100 x101 x102 x103 x104 x105 x106 x107 x108 x109 x110 x111 x112 x113 x114 x115 x116 x117 x118 x119 x120 x121 x122 x123 x124 x125 x126 x127 x128 x129 x130 x131 x132 x133 x134 x135 x136 x137 x138 x139 x140 x141 x142 x143 x144 x145 x146 x147 x148 x149 x150 x151 x152 x153 x154 x155 x156 x157 x158 x159 x160 x161 x162 x163 x164 x165 x166 x167 x168 x169 x170 x171 x172 x173 x174 x175 x176 x177 x178 x179 x180 x181 x182 x183 x184 x185 x186 x187 x188 x189 x190 x191 x192 x193 x194 x195 x196 x197 x198 x199 x200 x201 x202 x203 x204 x205 x206 x207 x208 x209 x210 x211 x212 x213 x214 x215 x216 x217 x218 x219 x220 x221 x222 x223 x224 x225 x226 x227 x228 x229 x230 x231 x232 x233 x234 x235 x236 x237 x238 x239 x240 x241 x242 x243 x244 x245 x246 x247 x248 x249 x250 x251 x252 x253 x254 x255 x256 x257 x258 x259 x260 x261 x262 x263 x264 x265 x266 x267 x268 x269 x270 x271 x272 x273 x274 x275 x276 x277 x278 x279 x280 x281 x282 x283 x284 x285 x286 x287 x288 x289 x290 x291 x292 x293 x294 x295 x296 x297 x298 x299 x300 x301 x302 x303 x304 x305 x306 x307 x308 x309 x310 x311 x312 x313 x314 x315 x316 x317 x318 x319 x320 x321 x322 x323 x324 x325 x326 x327 x328 x329 x330 x331 x332 x333 x334 x335 x336 x337 x338 x339 x340 x341 x342 x343 x344 x345 : Value} (wx : World) (HFn : Fin' B Pb N (B + 2) pm w wx 0 nN Kp (IntKind.u64.wrap (ver + 1)) nc' np gc' gp' Sc Sp np (fun i => gp (kS (PN i)))) (K1 K2 : Act → World → Prop) (Q' : Exit → Act → World → Prop) (hQ' : Q' = bodyPost Yba.prog Yba.f3 (fun e w' => e = .returned (.bool true) ∧ Below w.heap.size w w'))
    (hK1 : ∀ a w, Code.wp Yba.prog (dropC 35 (Yba.f3.body.getD .skip)) Q' a w → K1 a w) (hK2 : ∀ a w, Code.wp Yba.prog (tailC (headC (dropC 34 (Yba.f3.body.getD .skip)))) (Exit.then K1 Q') a w → K2 a w) :
    Code.wp Yba.prog (headC (headC (dropC 34 (Yba.f3.body.getD .skip)))) (Exit.then K2 (Exit.then K1 Q')) { tmps := #[.slice a0 nn c0, .slice a1 np c1, x2, x3, .bool clear, .int .i64 kept, .int .u64 ver, x7, x8, x9, x10, x11, x12, x13, x14, .string T, .pointer (some ⟨B, 0, none⟩), x17, .pointer (some ⟨B + 1, 0, none⟩), x19, x20, x21, x22, x23, x24, x25, x26, x27, x28, x29, x30, x31, x32, x33, x34, .pointer (some ⟨N, 0, none⟩), x36, x37, x38, x39, x40, x41, x42, x43, x44, x45, x46, x47, x48, x49, x50, x51, x52, x53, x54, x55, x56, x57, x58, x59, x60, x61, x62, x63, x64, x65, x66, x67, x68, x69, x70, x71, x72, x73, x74, x75, x76, x77, x78, x79, x80, x81, x82, x83, x84, x85, x86, x87, x88, x89, x90, x91, x92, x93, x94, x95, x96, x97, x98, x99, x100, x101, x102, x103, x104, x105, x106, x107, x108, x109, x110, x111, x112, x113, x114, x115, x116, x117, x118, x119, x120, x121, x122, x123, x124, x125, x126, x127, x128, x129, x130, x131, x132, x133, x134, x135, x136, x137, x138, x139, x140, x141, x142, x143, x144, x145, x146, x147, x148, x149, x150, x151, x152, x153, x154, x155, x156, x157, x158, x159, x160, x161, x162, x163, x164, x165, x166, x167, x168, x169, x170, x171, x172, x173, x174, x175, x176, x177, x178, x179, x180, x181, x182, x183, x184, x185, x186, x187, x188, x189, x190, x191, x192, x193, x194, x195, x196, x197, x198, x199, x200, x201, x202, x203, x204, x205, x206, x207, x208, x209, x210, x211, x212, x213, x214, x215, x216, x217, x218, x219, x220, x221, x222, x223, x224, x225, x226, x227, x228, x229, x230, x231, x232, x233, x234, x235, x236, x237, x238, x239, x240, x241, x242, x243, x244, x245, x246, x247, x248, x249, x250, x251, x252, x253, x254, x255, x256, x257, x258, x259, x260, x261, x262, x263, x264, x265, x266, x267, x268, x269, x270, x271, x272, x273, x274, x275, x276, x277, x278, x279, x280, x281, x282, x283, x284, x285, x286, x287, x288, x289, x290, x291, x292, x293, x294, x295, x296, x297, x298, x299, x300, x301, x302, x303, x304, x305, x306, x307, x308, x309, x310, x311, x312, x313, x314, x315, x316, x317, x318, x319, x320, x321, x322, x323, x324, x325, x326, x327, x328, x329, x330, x331, x332, x333, x334, x335, x336, x337, x338, x339, x340, x341, x342, x343, x344, x345], defers := [] } wx := by
  subst hQ'
  replace HB := hid HB
  replace H0 := hid H0
  replace H1 := hid H1
  simp only [Yba.f3, Option.getD, dropC, headC, tailC] at hK1 hK2 ⊢
  replace HG := hid HG
  replace HcO := hid HcO
  replace HFn := hid HFn
  have hq1 := eq_nil
  have hq2 := eq_func
  go_wp2_with fail
  go_loopw [316] (fun s316 wq => ∃ q : Nat, q ≤ nn ∧ s316 = .int .i64 (q : Nat) ∧ ∃ nO, Fin' B Pb N (B + 2) pm w wq nO nN Kp (IntKind.u64.wrap (ver + 1)) nc' np gc' gp' Sc Sp np (fun i => gp (kS (PN i)))) (fun i _ => nn - (intOf i).toNat)
  case atStart => exact ⟨0, Nat.zero_le _, rfl, 0, HFn.out⟩
  case round =>
    obtain ⟨q, hq, rfl, nO, hFq⟩ := hrel
    have HFq := hid hFq
    have c8 := hFq.ic.c8
    clear hFq HFn
    by_cases hqk : q < nn
    · obtain ⟨b, off, rfl, hb, hc0, hlen⟩ := H0.out q hqk
      have hcr0 : wr.cell? ⟨b, off + q, none⟩ = some (.string (S q)) := by rw [HFq.out.st.bel.cell (by exact hb)]; exact hc0
      have hqk' : (q : Int) < (nn : Int) := by omega
      have Hold := hid (HG.out q hqk)
      clear hc0 hq
      cases e : ((S q).toList == T.toList) with
      | true =>
        go_wp2_with fail
        go_roundw
        case rel => exact ⟨q + 1, by omega, by go_num, nO, HFq.out⟩
        case measure => simp [intOf]; omega
      | false =>
        have HgI : Hid (gc' (kS (S q)) = some (oldV B)) := hid (by rw [HcO.out _ (kS_ne_of e)]; exact Hold.out)
        go_wp2_with ((at_lookup; refine wpList_look_ok _ rfl (.tmp 327) (.tmp 328) 32 rfl 9 28 law Yba.underlying32 _ (zero28 _) (B + 2) nc' gc' Sc rfl HFq.out.mc _ _ rfl (kS_key hlen) (kS_ok _) (.func (.func 4) #[] #[.pointer (some ⟨B, 0, none⟩)]) true (by rw [HgI.out]; rfl) (by rw [HgI.out]; rfl) ?_))
        refine (old_call B w wr nO nN HFq.out.st).mono ?_
        rintro e w5 ⟨rfl, rfl⟩
        go_wp2_with fail
        go_roundw
        case rel => exact ⟨q + 1, by omega, by go_num, _, HFq.out.setO l1 (by omega) l2 l3 _⟩
        case measure => simp [intOf]; omega
    · obtain rfl : q = nn := by omega
      go_wp2_with fail
      go_ret
      exact ⟨rfl, by rw [HB.out]; exact HFq.out.st.bel⟩

end Go.Proofs.Ybulkblti

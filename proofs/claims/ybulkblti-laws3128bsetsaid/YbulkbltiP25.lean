import Derived.Test.YbulkbltiP29
import Derived.Deep.DeepCutAuto
import Derived.Deep.MidRow
import Derived.Deep.CutBlock
import Derived.Deep.LoopGhost
namespace Go.Proofs.Ybulkblti
open Go.RowKit Go.Maps Go.WideMaps
set_option linter.unusedVariables false

set_option maxRecDepth 100000 in
set_option maxHeartbeats 4000000 in
theorem part25 (a0 a1 : Option Addr) (nn c0 np c1 : Nat) (S PN : Nat → ByteArray) (PB : Nat → Int) (clear : Bool) (kept ver : Int) (w : World) (B : Nat) (T : ByteArray)
    (hnn : nn ≤ 1024) (hnp : np ≤ 1024) (hT : T.size ≤ maxLen) (HB : w.heap.size = B)
    (H0 : ∀ k, k < nn → ∃ b off, a0 = some ⟨b, off, none⟩ ∧ b < B ∧ w.cell? ⟨b, off + k, none⟩ = some (.string (S k)) ∧ (S k).size ≤ maxLen)
    (H1 : ∀ k, k < np → ∃ b off, a1 = some ⟨b, off, none⟩ ∧ b < B ∧ w.cell? ⟨b, off + k * 2, none⟩ = some (.string (PN k)) ∧ w.cell? ⟨b, off + k * 2 + 1, none⟩ = some (.int .i64 (PB k)) ∧ (PN k).size ≤ maxLen)
    (Pb N pm nc' Sc Sp : Nat) (Kp : Int) (gc gp gc' gp' : Lit → Option Value) (l1 : B + 2 ≤ N) (l2 : B + 2 ≤ pm) (l3 : B + 2 ≤ Pb) (HG : ∀ i, i < nn → gc (kS (S i)) = some (oldV B)) (HcO : ∀ x, x ≠ kS T → gc' x = gc x) (HcT : gc' (kS T) = newO clear (B + 1)) (hadC : Bool) (sc : Nat) (hsc : sc ≤ 1024) (HSc : szNew clear (gc (kS T)) sc = Sc) (HhadC : (gc (kS T)).isSome = hadC) (HPosC : hadC = true → 1 ≤ sc) (HpT : gp' (kS T) = none) (HpO : ∀ x, x ≠ kS T → gp' x = gp x) (HIn : Ints gp) (HAll : ∀ i, i < np → (gp (kS (PN i))).isSome = true) (v36 v37 : Value) (h36 : v36 = .int .i64 Kp) (h37 : v37 = .int .i64 (Sp : Nat))
    {x2 x3 x7 x8 x9 x10 x11 x12 x13 x14 x17 x19 x20 x21 x22 x23 x24 x25 x26 x27 x28 x31 x32 x34 x38 x39 x40 x41 x42 x43 x44 x45 x46 x47 x48 x49 x50 x51 x52 x53 x54 x55 x56 x57 x58 x59 x60 x61 x62 x63 x64 x65 x66 x67 x68 x69 x70 x71 x72 x73 x74 x75 x76 x77 x78 x79 x80 x81 x82 x83 x84 x85 x86 x87 x88 x89 x90 x91 x92 x93 x94 x95 x96 x97 x98 x99 x100 x101 x102 x103 x104 x105 x106 x107 x108 x109 x110 x111 x112 x113 x114 x115 x116 x117 x118 x119 x120 x121 x122 x123 x124 x125 x126 x127 x128 x129 x130 x131 x132 x133 x134 x135 x136 x137 x138 x139 x140 x141 x142 x143 x144 x145 x146 x147 x148 x149 x150 x151 x152 x153 x154 x155 x156 x157 x158 x159 x160 x161 x162 x163 x164 x165 x166 x167 x168 x169 x170 x171 x172 x173 x174 x175 x176 x177 x178 x179 x180 x181 x182 x183 x184 x185 x186 x187 x188 x189 x190 x191 x192 x193 x194 x195 x196 x197 x198 x199 x200 x201 x202 x203 x204 x205 x206 x207 x208 x209 x210 x211 x212 x213 x214 x215 x216 x217 x218 x219 x220 x221 x222 x223 x224 x225 x226 x227 x228 x229 x230 x231 x232 x233 x234 x235 x236 x237 x238 x239 x240 x241 x242 x243 x244 x245 x246 x247 x248 x249 x250 x251 x252 x253 x254 x255 x256 x257 x258 x259 x260 x261 x262 x263 x264 x265 x266 x267 x268 x269 x270 x271 x272 x273 x274 x275 x276 x277 x278 x279 x280 x281 x282 x283 x284 x285 x286 x287 x288 x289 x290 x291 x292 x293 x294 x295 x296 x297 x298 x299 x300 x301 x302 x303 x304 x305 x306 x307 x308 x309 x310 x311 x312 x313 x314 x315 x316 x317 x318 x319 x320 x321 x322 x323 x324 x325 x326 x327 x328 x329 x330 x331 x332 x333 x334 x335 x336 x337 x338 x339 x340 x341 x342 x343 x344 x345 : Value} (wx : World) (HFn : Fin' B Pb N (B + 2) pm w wx 0 0 Kp (IntKind.u64.wrap (ver + 1)) nc' np gc' gp' Sc Sp np (fun i => gp (kS (PN i)))) (K1 K2 : Act → World → Prop) (Q' : Exit → Act → World → Prop) (hQ' : Q' = bodyPost Yba.prog Yba.f3 (fun e w' => e = .returned (.bool true) ∧ Below w.heap.size w w'))
    (hK1 : ∀ a w, Code.wp Yba.prog (dropC 26 (Yba.f3.body.getD .skip)) Q' a w → K1 a w) (hK2 : ∀ a w, Code.wp Yba.prog (tailC (headC (dropC 25 (Yba.f3.body.getD .skip)))) (Exit.then K1 Q') a w → K2 a w) :
    Code.wp Yba.prog (headC (headC (dropC 25 (Yba.f3.body.getD .skip)))) (Exit.then K2 (Exit.then K1 Q')) { tmps := #[.slice a0 nn c0, .slice a1 np c1, x2, x3, .bool clear, .int .i64 kept, .int .u64 ver, x7, x8, x9, x10, x11, x12, x13, x14, .string T, .pointer (some ⟨B, 0, none⟩), x17, .pointer (some ⟨B + 1, 0, none⟩), x19, x20, x21, x22, x23, x24, x25, x26, x27, x28, .bool hadC, .slice (some ⟨Pb, 0, none⟩) np np, x31, x32, .int .i64 (sc : Nat), x34, .pointer (some ⟨N, 0, none⟩), v36, v37, x38, x39, x40, x41, x42, x43, x44, x45, x46, x47, x48, x49, x50, x51, x52, x53, x54, x55, x56, x57, x58, x59, x60, x61, x62, x63, x64, x65, x66, x67, x68, x69, x70, x71, x72, x73, x74, x75, x76, x77, x78, x79, x80, x81, x82, x83, x84, x85, x86, x87, x88, x89, x90, x91, x92, x93, x94, x95, x96, x97, x98, x99, x100, x101, x102, x103, x104, x105, x106, x107, x108, x109, x110, x111, x112, x113, x114, x115, x116, x117, x118, x119, x120, x121, x122, x123, x124, x125, x126, x127, x128, x129, x130, x131, x132, x133, x134, x135, x136, x137, x138, x139, x140, x141, x142, x143, x144, x145, x146, x147, x148, x149, x150, x151, x152, x153, x154, x155, x156, x157, x158, x159, x160, x161, x162, x163, x164, x165, x166, x167, x168, x169, x170, x171, x172, x173, x174, x175, x176, x177, x178, x179, x180, x181, x182, x183, x184, x185, x186, x187, x188, x189, x190, x191, x192, x193, x194, x195, x196, x197, x198, x199, x200, x201, x202, x203, x204, x205, x206, x207, x208, x209, x210, x211, x212, x213, x214, x215, x216, x217, x218, x219, x220, x221, x222, x223, x224, x225, x226, x227, x228, x229, x230, x231, x232, x233, x234, x235, x236, x237, x238, x239, x240, x241, x242, x243, x244, x245, x246, x247, x248, x249, x250, x251, x252, x253, x254, x255, x256, x257, x258, x259, x260, x261, x262, x263, x264, x265, x266, x267, x268, x269, x270, x271, x272, x273, x274, x275, x276, x277, x278, x279, x280, x281, x282, x283, x284, x285, x286, x287, x288, x289, x290, x291, x292, x293, x294, x295, x296, x297, x298, x299, x300, x301, x302, x303, x304, x305, x306, x307, x308, x309, x310, x311, x312, x313, x314, x315, x316, x317, x318, x319, x320, x321, x322, x323, x324, x325, x326, x327, x328, x329, x330, x331, x332, x333, x334, x335, x336, x337, x338, x339, x340, x341, x342, x343, x344, x345], defers := [] } wx := by
  subst hQ'
  replace HB := hid HB
  replace H0 := hid H0
  replace H1 := hid H1
  simp only [Yba.f3, Option.getD, dropC, headC, tailC] at hK1 hK2 ⊢
  subst h36 h37
  replace HG := hid HG
  replace HcO := hid HcO
  replace HSc := hid HSc
  replace HhadC := hid HhadC
  replace HPosC := hid HPosC
  replace HcT := hid HcT
  replace HpT := hid HpT
  replace HpO := hid HpO
  replace HIn := hid HIn
  replace HAll := hid HAll
  have Hw4 := hid HFn
  clear HFn
  have c24 := Hw4.out.ic.c24
  have c25 := Hw4.out.ic.c25
  have c26 := Hw4.out.ic.c26
  have c27 := Hw4.out.ic.c27
  have hl3 := Hw4.out.mp.len Yba.underlying33 3
  go_wp2_with ((at_lookup; refine wpList_look_ok _ rfl (.tmp 228) (.tmp 229) 33 rfl 9 3 law Yba.underlying33 _ (zero3 _) pm np gp' Sp rfl Hw4.out.mp _ _ rfl (kS_key hT) (kS_ok _) (.int .i64 0) false (by rw [HpT.out]; rfl) (by rw [HpT.out]; rfl) ?_))
  clear hl3 c24 c25 c26 c27
  go_loopw [236] (fun s236 wq => ∃ i : Nat, i ≤ np ∧ s236 = .int .i64 (i : Nat) ∧ Fin' B Pb N (B + 2) pm w wq 0 0 Kp (IntKind.u64.wrap (ver + 1)) nc' np gc' gp' Sc Sp np (fun i => gp (kS (PN i)))) (fun i _ => np - (intOf i).toNat)
  case atStart => exact ⟨0, Nat.zero_le _, rfl, Hw4.out⟩
  case round =>
    obtain ⟨i, hi, rfl, hFq⟩ := hrel
    have HFq := hid hFq
    have c27 := hFq.ic.c27
    have hNl := hFq.ic.lt
    have hPl := hFq.lPb
    clear hFq Hw4
    by_cases him : i < np
    · obtain ⟨b, off, rfl, hb, hc0, hc1, hlen⟩ := H1.out i him
      have hcr0 : wr.cell? ⟨b, off + i * 2, none⟩ = some (.string (PN i)) := by rw [HFq.out.st.bel.cell (by exact hb)]; exact hc0
      have hcr1 : wr.cell? ⟨b, off + i * 2 + 1, none⟩ = some (.int .i64 (PB i)) := by rw [HFq.out.st.bel.cell (by exact hb)]; exact hc1
      have him' : (i : Int) < (np : Int) := by omega
      obtain ⟨nm, hnm⟩ := num_yes HIn.out (HAll.out i him)
      have hpre : wr.cell? ⟨Pb, i, none⟩ = some (.int .i64 nm) := by rw [HFq.out.pr i him]; exact hnm
      have Hnm := hid hnm
      clear hnm hc0 hc1 hi
      cases e : ((PN i).toList == T.toList) with
      | true =>
        go_wp2_with fail
        go_roundw
        case rel => exact ⟨i + 1, by omega, by go_num, HFq.out.below ((Below.refl _ _).alloc (Nat.le_refl _) _)⟩
        case measure => simp [intOf]; omega
      | false =>
        have HgI : Hid (gp' (kS (PN i)) = some (.int .i64 nm)) := hid (by rw [HpO.out _ (kS_ne_of e)]; exact Hnm.out)
        have hlk1 : ∀ ob, (Instr.lookup 33 (.map (some pm)) (.string (PN i)) true).run Yba.prog (wr.alloc ob).drew = .ok (.tuple #[.int .i64 nm, .bool true]) (wr.alloc ob).drew := fun ob => by
          rw [(HFq.out.mp.below (((Below.refl _ _).alloc (Nat.le_refl _) ob).drew)).look_ok law Yba.underlying33 (zero3 _) (kS_key hlen) (kS_ok _), HgI.out]; rfl
        go_wp2_with fail
        go_region
        all_goals
          go_wp2_with fail
          go_roundw
          case rel => exact ⟨i + 1, by omega, by go_num, HFq.out.below (((Below.refl _ _).alloc (Nat.le_refl _) _).drew)⟩
          case measure => simp [intOf]; omega
    · obtain rfl : np = i := by omega
      go_upto_region 64 with fail
      rename_i Ka hKa
      exact part29 a0 a1 nn c0 np c1 S PN PB clear kept ver w B T hnn hnp hT HB.out H0.out H1.out Pb N pm nc' Sc Sp Kp gc gp gc' gp' l1 l2 l3 HG.out HcO.out HcT.out hadC sc hsc HSc.out HhadC.out HPosC.out wr HFq.out Ka _ rfl hKa

end Go.Proofs.Ybulkblti

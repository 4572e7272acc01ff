import Derived.Test.YbulkblsgFmtDec7
namespace Go.Proofs.YbulkblsgFmt
open Go.RowKit Go.Extern.Stop Go.Stop Go.Extern
set_option linter.unusedVariables false
set_option linter.unusedSimpArgs false
noncomputable def l5 : Code := Ybaf.f5.body.getD .skip
noncomputable def lB : Code := thnC (tailC (headC (dropC 11 l5)))
def byt (G : Nat → Nat) (n : Nat) : List Value := (List.range n).map (fun k => .int .u8 ((G k : Nat) : Int))
theorem byt_len (G : Nat → Nat) (n : Nat) : (byt G n).length = n := by simp [byt]
theorem byt_at (G : Nat → Nat) (n k : Nat) (h : k < n) : (byt G n)[k]? = some (.int .u8 ((G k : Nat) : Int)) := by simp [byt, h]
theorem byt_one (G : Nat → Nat) (n : Nat) : ∀ u ∈ byt G n, u.oneCell' = true := by
  intro u hu
  simp only [byt, List.mem_map] at hu
  obtain ⟨k, _, rfl⟩ := hu
  rfl
/-- A block of bytes. -/
def Buf (w : World) (g n : Nat) (C : Nat → Nat) : Prop := ∃ cur : Array Value, w.heap[g]? = some (.cells cur 5 (0, 0)) ∧ n ≤ cur.size ∧ ∀ k, k < n → cur[k]? = some (.int .u8 ((C k : Nat) : Int))
theorem Buf.lt {w : World} {g n : Nat} {C : Nat → Nat} (h : Buf w g n C) : g < w.heap.size := by
  obtain ⟨cur, h1, _⟩ := h
  exact (Array.getElem?_eq_some_iff.1 h1).1
theorem Buf.cell {w : World} {g n k : Nat} {C : Nat → Nat} (h : Buf w g n C) (hk : k < n) : w.cell? ⟨g, k, none⟩ = some (.int .u8 ((C k : Nat) : Int)) := by
  obtain ⟨cur, h1, h2, h3⟩ := h
  rw [cell_of_row w g k cur 5 (0, 0) h1]; exact h3 k hk
theorem Buf.frozen {w : World} {g n k : Nat} {C : Nat → Nat} (h : Buf w g n C) : w.frozen? ⟨g, k, none⟩ = false := by
  obtain ⟨cur, h1, h2, h3⟩ := h
  unfold World.frozen?; rw [show (World.heap _)[(⟨g, k, none⟩ : Addr).block]? = _ from h1]; simp
theorem Buf.of_block {w w' : World} {g n : Nat} {C : Nat → Nat} (h : Buf w g n C) (e : w'.heap[g]? = w.heap[g]?) : Buf w' g n C := by
  obtain ⟨cur, h1, h2, h3⟩ := h
  exact ⟨cur, by rw [e]; exact h1, h2, h3⟩
theorem Buf.set {w : World} {g n v : Nat} {C : Nat → Nat} (h : Buf w g n C) (hn : 0 < n) : Buf (w.setCell ⟨g, 0, none⟩ (.int .u8 ((v : Nat) : Int))) g n (fun k => if k = 0 then v else C k) := by
  obtain ⟨cur, h1, h2, h3⟩ := h
  refine ⟨_, row_set h1, by simp; omega, fun k hk => ?_⟩
  by_cases e : k = 0
  · subst e
    show (cur.setIfInBounds 0 _)[0]? = _
    rw [Array.getElem?_setIfInBounds_self_of_lt (by omega)]; rfl
  · rw [Array.getElem?_setIfInBounds_ne (by omega)]
    show _ = some (Value.int .u8 (((if k = 0 then v else C k : Nat)) : Int))
    rw [if_neg e]; exact h3 k hk
theorem Buf.of_own {w : World} {base g n cap : Nat} {G : Nat → Nat} (h : w.ownsRow base 5 1 (.slice (some ⟨g, 0, none⟩) n cap) n (byt G n)) (hn : 0 < n) : Buf w g n G ∧ n ≤ cap ∧ base ≤ g := by
  obtain ⟨h1, ⟨h2, h3⟩ | ⟨g', cap', cur, hv, hb, hh, hc, hm, hs, ht⟩⟩ := h
  · omega
  · injection hv with e1 e2 e3
    injection e1 with e1
    injection e1 with e1
    subst e1; subst e3
    refine ⟨⟨cur, hh, by omega, fun k hk => ?_⟩, hc, hb⟩
    have e := byt_at G n k hk
    rw [← ht, List.getElem?_take, if_pos (by omega)] at e
    simpa using e
theorem info5 : (Ybaf.prog.info? 5).map (fun i => (i.zero, i.size, i.bytes)) = some (some (.int .u8 0), 1, 1) := by kernel_rfl
theorem iparts {P : Program} {t : TypeId} {v : Value} {n b : Nat} (h : (P.info? t).map (fun i => (i.zero, i.size, i.bytes)) = some (some v, n, b)) : ∃ i, P.info? t = some i ∧ i.zero = some v ∧ i.size = n ∧ i.bytes = b := by
  cases hq : P.info? t with
  | none => simp [hq] at h
  | some i => simp [hq] at h; exact ⟨i, rfl, h.1, h.2.1, h.2.2⟩

set_option maxRecDepth 100000 in
set_option maxHeartbeats 1000000 in
theorem e0 (wa : World) {x0 x1 x2 x3 x4 x5 x6 x7 x8 x9 x10 x11 x12 x13 x14 x15 x16 x17 x18 x19 x20 x21 x22 x23 x24 x25 x26 x27 x28 x29 x30 x31 x32 x33 x34 x35 x36 x37 x38 x39 x40 x41 x42 x43 x44 x45 x46 x47 x48 x49 x50 x51 x52 x53 x54 x55 x56 x57 x58 x59 x60 x61 x62 x63 x64 x65 x66 x67 x68 x69 x70 x71 x72 x73 x74 x75 x76 x77 x78 x79 x80 x81 x82 x83 x84 x85 x86 x87 x88 x89 x90 x91 x92 x93 x94 x95 x96 x97 x98 x99 x100 x101 x102 x103 x104 x105 x106 x107 x108 x109 x110 x111 x112 x113 x114 x115 x116 x117 x118 x119 x120 x121 x122 x123 x124 x125 x126 x127 : Value} (K : Act → World → Prop)
    (hK : K { tmps := #[x0, x1, x2, x3, .bool false, x5, x6, x7, x8, x9, x10, x11, x12, x13, x14, x15, x16, x17, x18, x19, x20, x21, x22, x23, x24, x25, x26, x27, x28, x29, x30, x31, x32, x33, x34, x35, x36, x37, x38, x39, x40, x41, x42, x43, x44, x45, x46, x47, x48, x49, x50, x51, x52, x53, x54, x55, x56, x57, x58, x59, x60, x61, x62, x63, x64, x65, x66, x67, x68, x69, x70, x71, x72, x73, x74, x75, x76, x77, x78, x79, x80, x81, x82, x83, x84, x85, x86, x87, x88, x89, x90, x91, x92, x93, x94, x95, x96, x97, x98, x99, x100, x101, x102, x103, x104, x105, x106, x107, x108, x109, x110, x111, x112, x113, x114, x115, x116, x117, x118, x119, x120, x121, x122, x123, x124, x125, x126, x127], defers := [] } (wa)) :
    Code.wp Ybaf.prog (headC l5) (only K) { tmps := #[x0, x1, x2, x3, x4, x5, x6, x7, x8, x9, x10, x11, x12, x13, x14, x15, x16, x17, x18, x19, x20, x21, x22, x23, x24, x25, x26, x27, x28, x29, x30, x31, x32, x33, x34, x35, x36, x37, x38, x39, x40, x41, x42, x43, x44, x45, x46, x47, x48, x49, x50, x51, x52, x53, x54, x55, x56, x57, x58, x59, x60, x61, x62, x63, x64, x65, x66, x67, x68, x69, x70, x71, x72, x73, x74, x75, x76, x77, x78, x79, x80, x81, x82, x83, x84, x85, x86, x87, x88, x89, x90, x91, x92, x93, x94, x95, x96, x97, x98, x99, x100, x101, x102, x103, x104, x105, x106, x107, x108, x109, x110, x111, x112, x113, x114, x115, x116, x117, x118, x119, x120, x121, x122, x123, x124, x125, x126, x127], defers := [] } wa := by
  have HK := hid hK
  clear hK
  simp only [l5, lB, Ybaf.f5, Option.getD, dropC, headC, tailC, blkC, lupC, thnC, elsC]
  go_wp2_with fail
  exact HK.out 

set_option maxRecDepth 100000 in
set_option maxHeartbeats 1000000 in
theorem e1 (a0 : Option Addr) (n c : Nat) (wa : World) (h : n ≤ 4096) {x1 x2 x3 x4 x5 x6 x7 x8 x9 x10 x11 x12 x13 x14 x15 x16 x17 x18 x19 x20 x21 x22 x23 x24 x25 x26 x27 x28 x29 x30 x31 x32 x33 x34 x35 x36 x37 x38 x39 x40 x41 x42 x43 x44 x45 x46 x47 x48 x49 x50 x51 x52 x53 x54 x55 x56 x57 x58 x59 x60 x61 x62 x63 x64 x65 x66 x67 x68 x69 x70 x71 x72 x73 x74 x75 x76 x77 x78 x79 x80 x81 x82 x83 x84 x85 x86 x87 x88 x89 x90 x91 x92 x93 x94 x95 x96 x97 x98 x99 x100 x101 x102 x103 x104 x105 x106 x107 x108 x109 x110 x111 x112 x113 x114 x115 x116 x117 x118 x119 x120 x121 x122 x123 x124 x125 x126 x127 : Value} (K : Act → World → Prop)
    (hK : ∀ (y12 y13 : Value), K { tmps := #[.slice a0 n c, x1, x2, x3, x4, x5, x6, x7, x8, x9, x10, x11, y12, y13, .bool false, x15, x16, x17, x18, x19, x20, x21, x22, x23, x24, x25, x26, x27, x28, x29, x30, x31, x32, x33, x34, x35, x36, x37, x38, x39, x40, x41, x42, x43, x44, x45, x46, x47, x48, x49, x50, x51, x52, x53, x54, x55, x56, x57, x58, x59, x60, x61, x62, x63, x64, x65, x66, x67, x68, x69, x70, x71, x72, x73, x74, x75, x76, x77, x78, x79, x80, x81, x82, x83, x84, x85, x86, x87, x88, x89, x90, x91, x92, x93, x94, x95, x96, x97, x98, x99, x100, x101, x102, x103, x104, x105, x106, x107, x108, x109, x110, x111, x112, x113, x114, x115, x116, x117, x118, x119, x120, x121, x122, x123, x124, x125, x126, x127], defers := [] } (wa)) :
    Code.wp Ybaf.prog (headC (headC (dropC 1 l5))) (only K) { tmps := #[.slice a0 n c, x1, x2, x3, x4, x5, x6, x7, x8, x9, x10, x11, x12, x13, x14, x15, x16, x17, x18, x19, x20, x21, x22, x23, x24, x25, x26, x27, x28, x29, x30, x31, x32, x33, x34, x35, x36, x37, x38, x39, x40, x41, x42, x43, x44, x45, x46, x47, x48, x49, x50, x51, x52, x53, x54, x55, x56, x57, x58, x59, x60, x61, x62, x63, x64, x65, x66, x67, x68, x69, x70, x71, x72, x73, x74, x75, x76, x77, x78, x79, x80, x81, x82, x83, x84, x85, x86, x87, x88, x89, x90, x91, x92, x93, x94, x95, x96, x97, x98, x99, x100, x101, x102, x103, x104, x105, x106, x107, x108, x109, x110, x111, x112, x113, x114, x115, x116, x117, x118, x119, x120, x121, x122, x123, x124, x125, x126, x127], defers := [] } wa := by
  have d0 : decide ((4096 : Int) < (n : Int)) = false := by simp; omega
  have HK := hid hK
  clear hK
  simp only [l5, lB, Ybaf.f5, Option.getD, dropC, headC, tailC, blkC, lupC, thnC, elsC]
  go_wp2_with fail
  exact HK.out _ _ 

set_option maxRecDepth 100000 in
set_option maxHeartbeats 1000000 in
theorem e3 (b off n c : Nat) (G : Nat → Nat) (wa : World) (hn : 0 < n) (hn2 : n ≤ 4096) (hG : ∀ k, k < n → wa.cell? ⟨b, off + k, none⟩ = some (.int .u8 ((G k : Nat) : Int))) {x1 x2 x3 x4 x5 x6 x7 x8 x9 x10 x11 x12 x13 x14 x15 x16 x17 x18 x19 x20 x21 x22 x23 x24 x25 x26 x27 x28 x29 x30 x31 x32 x33 x34 x35 x36 x37 x38 x39 x40 x41 x42 x43 x44 x45 x46 x47 x48 x49 x50 x51 x52 x53 x54 x55 x56 x57 x58 x59 x60 x61 x62 x63 x64 x65 x66 x67 x68 x69 x70 x71 x72 x73 x74 x75 x76 x77 x78 x79 x80 x81 x82 x83 x84 x85 x86 x87 x88 x89 x90 x91 x92 x93 x94 x95 x96 x97 x98 x99 x100 x101 x102 x103 x104 x105 x106 x107 x108 x109 x110 x111 x112 x113 x114 x115 x116 x117 x118 x119 x120 x121 x122 x123 x124 x125 x126 x127 : Value} (K : Act → World → Prop)
    (hK : ∀ (y15 y16 : Value) (g2 cap2 : Nat) (wy : World), wy.ownsRow wa.heap.size 5 1 (.slice (some ⟨g2, 0, none⟩) n cap2) n (byt G n) → Below wa.heap.size wa wy → K { tmps := #[.slice (some ⟨b, off, none⟩) n c, x1, x2, x3, x4, .slice (some ⟨g2, 0, none⟩) n cap2, x6, x7, x8, x9, x10, x11, x12, x13, x14, y15, y16, x17, x18, x19, x20, x21, x22, x23, x24, x25, x26, x27, x28, x29, x30, x31, x32, x33, x34, x35, x36, x37, x38, x39, x40, x41, x42, x43, x44, x45, x46, x47, x48, x49, x50, x51, x52, x53, x54, x55, x56, x57, x58, x59, x60, x61, x62, x63, x64, x65, x66, x67, x68, x69, x70, x71, x72, x73, x74, x75, x76, x77, x78, x79, x80, x81, x82, x83, x84, x85, x86, x87, x88, x89, x90, x91, x92, x93, x94, x95, x96, x97, x98, x99, x100, x101, x102, x103, x104, x105, x106, x107, x108, x109, x110, x111, x112, x113, x114, x115, x116, x117, x118, x119, x120, x121, x122, x123, x124, x125, x126, x127], defers := [] } (wy)) :
    Code.wp Ybaf.prog (headC (dropC 2 l5)) (only K) { tmps := #[.slice (some ⟨b, off, none⟩) n c, x1, x2, x3, x4, x5, x6, x7, x8, x9, x10, x11, x12, x13, x14, x15, x16, x17, x18, x19, x20, x21, x22, x23, x24, x25, x26, x27, x28, x29, x30, x31, x32, x33, x34, x35, x36, x37, x38, x39, x40, x41, x42, x43, x44, x45, x46, x47, x48, x49, x50, x51, x52, x53, x54, x55, x56, x57, x58, x59, x60, x61, x62, x63, x64, x65, x66, x67, x68, x69, x70, x71, x72, x73, x74, x75, x76, x77, x78, x79, x80, x81, x82, x83, x84, x85, x86, x87, x88, x89, x90, x91, x92, x93, x94, x95, x96, x97, x98, x99, x100, x101, x102, x103, x104, x105, x106, x107, x108, x109, x110, x111, x112, x113, x114, x115, x116, x117, x118, x119, x120, x121, x122, x123, x124, x125, x126, x127], defers := [] } wa := by
  obtain ⟨i5, hi5, hz5, hs5, hb5⟩ := iparts info5
  simp only [l5, lB, Ybaf.f5, Option.getD, dropC, headC, tailC, blkC, lupC, thnC, elsC]
  refine wp_region_lit ?_
  refine plk 15 (.slice (some ⟨b, off, none⟩) n c) rfl rfl (by kernel_rfl) ?_
  simp only [Act.put, List.setIfInBounds_toArray, List.set_cons_zero, List.set_cons_succ]
  refine wpList_plain rfl fun K2 hK2 => ?_
  refine wp_append_lies _ (.const (.slice none 0 0)) (.tmp 15) 53 rfl wa.heap.size 5 i5 _ 1 1 Ybaf.underlying53 hi5 hz5 hs5 hb5 rfl (by omega) (.slice none 0 0) 0 [] (by kernel_rfl) ⟨rfl, Or.inl ⟨rfl, rfl⟩⟩ ⟨b, off, none⟩ n c (byt G n) (by kernel_rfl) (by rw [byt_len]; omega) (fun j u hu => by
    have hj : j < n := by have := (List.getElem?_eq_some_iff.1 hu).1; rw [byt_len] at this; exact this
    rw [byt_at G n j hj] at hu
    rw [Addr.add_mid, hG j hj]; exact hu) (byt_one G n) hn (by unfold maxLen; omega) (by omega) (Nat.le_refl _) wa.heap.size rfl ?_
  intro g2 cap2 w2 hown2 hgrow2 hat2 hlt2
  refine hK2 _ _ ?_
  simp only [Act.put, List.setIfInBounds_toArray, List.set_cons_zero, List.set_cons_succ]
  refine plk 5 (.slice (some ⟨g2, 0, none⟩) (0 + n) cap2) rfl rfl (by kernel_rfl) ?_
  simp only [Act.put, List.setIfInBounds_toArray, List.set_cons_zero, List.set_cons_succ]
  have hb2 : Below wa.heap.size wa w2 := (Below.refl _ _).grown hgrow2 (Nat.le_refl _) (fun k hk => by cases hk)
  rw [Nat.zero_add] at hown2
  rw [Nat.zero_add, List.nil_append] at *
  exact wpList_nil (hK _ _ g2 cap2 w2 hown2 hb2)

set_option maxRecDepth 100000 in
set_option maxHeartbeats 1000000 in
theorem e6 (b off n c : Nat) (G : Nat → Nat) (wa : World) (hn : 0 < n) (hn2 : n ≤ 4096) (hG : ∀ k, k < n → wa.cell? ⟨b, off + k, none⟩ = some (.int .u8 ((G k : Nat) : Int))) {x0 x1 x2 x3 x4 x6 x7 x8 x9 x10 x11 x12 x13 x14 x15 x16 x17 x18 x19 x20 x21 x22 x23 x24 x25 x26 x27 x28 x29 x30 x31 x32 x33 x34 x35 x36 x37 x38 x39 x40 x41 x42 x43 x44 x45 x46 x47 x48 x49 x50 x51 x52 x53 x54 x55 x56 x57 x58 x59 x60 x61 x62 x63 x64 x65 x66 x67 x68 x69 x70 x71 x72 x73 x74 x75 x76 x77 x78 x79 x80 x81 x82 x83 x84 x85 x86 x87 x88 x89 x90 x91 x92 x93 x94 x95 x96 x97 x98 x99 x100 x101 x102 x103 x104 x105 x106 x107 x108 x109 x110 x111 x112 x113 x114 x115 x116 x117 x118 x119 x120 x121 x122 x123 x124 x125 x126 x127 : Value} (K : Act → World → Prop)
    (hK : ∀ (y30 y31 : Value) (g2 cap2 : Nat) (wy : World), wy.ownsRow wa.heap.size 5 1 (.slice (some ⟨g2, 0, none⟩) n cap2) n (byt G n) → Below wa.heap.size wa wy → K { tmps := #[x0, x1, x2, x3, x4, .slice (some ⟨b, off, none⟩) n c, .slice (some ⟨g2, 0, none⟩) n cap2, x7, x8, x9, x10, x11, x12, x13, x14, x15, x16, x17, x18, x19, x20, x21, x22, x23, x24, x25, x26, x27, x28, x29, y30, y31, x32, x33, x34, x35, x36, x37, x38, x39, x40, x41, x42, x43, x44, x45, x46, x47, x48, x49, x50, x51, x52, x53, x54, x55, x56, x57, x58, x59, x60, x61, x62, x63, x64, x65, x66, x67, x68, x69, x70, x71, x72, x73, x74, x75, x76, x77, x78, x79, x80, x81, x82, x83, x84, x85, x86, x87, x88, x89, x90, x91, x92, x93, x94, x95, x96, x97, x98, x99, x100, x101, x102, x103, x104, x105, x106, x107, x108, x109, x110, x111, x112, x113, x114, x115, x116, x117, x118, x119, x120, x121, x122, x123, x124, x125, x126, x127], defers := [] } (wy)) :
    Code.wp Ybaf.prog (headC (dropC 4 l5)) (only K) { tmps := #[x0, x1, x2, x3, x4, .slice (some ⟨b, off, none⟩) n c, x6, x7, x8, x9, x10, x11, x12, x13, x14, x15, x16, x17, x18, x19, x20, x21, x22, x23, x24, x25, x26, x27, x28, x29, x30, x31, x32, x33, x34, x35, x36, x37, x38, x39, x40, x41, x42, x43, x44, x45, x46, x47, x48, x49, x50, x51, x52, x53, x54, x55, x56, x57, x58, x59, x60, x61, x62, x63, x64, x65, x66, x67, x68, x69, x70, x71, x72, x73, x74, x75, x76, x77, x78, x79, x80, x81, x82, x83, x84, x85, x86, x87, x88, x89, x90, x91, x92, x93, x94, x95, x96, x97, x98, x99, x100, x101, x102, x103, x104, x105, x106, x107, x108, x109, x110, x111, x112, x113, x114, x115, x116, x117, x118, x119, x120, x121, x122, x123, x124, x125, x126, x127], defers := [] } wa := by
  obtain ⟨i5, hi5, hz5, hs5, hb5⟩ := iparts info5
  simp only [l5, lB, Ybaf.f5, Option.getD, dropC, headC, tailC, blkC, lupC, thnC, elsC]
  refine wp_region_lit ?_
  refine plk 30 (.slice (some ⟨b, off, none⟩) n c) rfl rfl (by kernel_rfl) ?_
  simp only [Act.put, List.setIfInBounds_toArray, List.set_cons_zero, List.set_cons_succ]
  refine wpList_plain rfl fun K2 hK2 => ?_
  refine wp_append_lies _ (.const (.slice none 0 0)) (.tmp 30) 53 rfl wa.heap.size 5 i5 _ 1 1 Ybaf.underlying53 hi5 hz5 hs5 hb5 rfl (by omega) (.slice none 0 0) 0 [] (by kernel_rfl) ⟨rfl, Or.inl ⟨rfl, rfl⟩⟩ ⟨b, off, none⟩ n c (byt G n) (by kernel_rfl) (by rw [byt_len]; omega) (fun j u hu => by
    have hj : j < n := by have := (List.getElem?_eq_some_iff.1 hu).1; rw [byt_len] at this; exact this
    rw [byt_at G n j hj] at hu
    rw [Addr.add_mid, hG j hj]; exact hu) (byt_one G n) hn (by unfold maxLen; omega) (by omega) (Nat.le_refl _) wa.heap.size rfl ?_
  intro g2 cap2 w2 hown2 hgrow2 hat2 hlt2
  refine hK2 _ _ ?_
  simp only [Act.put, List.setIfInBounds_toArray, List.set_cons_zero, List.set_cons_succ]
  refine plk 6 (.slice (some ⟨g2, 0, none⟩) (0 + n) cap2) rfl rfl (by kernel_rfl) ?_
  simp only [Act.put, List.setIfInBounds_toArray, List.set_cons_zero, List.set_cons_succ]
  have hb2 : Below wa.heap.size wa w2 := (Below.refl _ _).grown hgrow2 (Nat.le_refl _) (fun k hk => by cases hk)
  rw [Nat.zero_add] at hown2
  rw [Nat.zero_add, List.nil_append] at *
  exact wpList_nil (hK _ _ g2 cap2 w2 hown2 hb2)

set_option maxRecDepth 100000 in
set_option maxHeartbeats 1000000 in
theorem e3z (a0 : Option Addr) (c : Nat) (wa : World) {x1 x2 x3 x4 x5 x6 x7 x8 x9 x10 x11 x12 x13 x14 x15 x16 x17 x18 x19 x20 x21 x22 x23 x24 x25 x26 x27 x28 x29 x30 x31 x32 x33 x34 x35 x36 x37 x38 x39 x40 x41 x42 x43 x44 x45 x46 x47 x48 x49 x50 x51 x52 x53 x54 x55 x56 x57 x58 x59 x60 x61 x62 x63 x64 x65 x66 x67 x68 x69 x70 x71 x72 x73 x74 x75 x76 x77 x78 x79 x80 x81 x82 x83 x84 x85 x86 x87 x88 x89 x90 x91 x92 x93 x94 x95 x96 x97 x98 x99 x100 x101 x102 x103 x104 x105 x106 x107 x108 x109 x110 x111 x112 x113 x114 x115 x116 x117 x118 x119 x120 x121 x122 x123 x124 x125 x126 x127 : Value} (K : Act → World → Prop)
    (hK : ∀ (y15 y16 : Value), K { tmps := #[.slice a0 0 c, x1, x2, x3, x4, .slice none 0 0, x6, x7, x8, x9, x10, x11, x12, x13, x14, y15, y16, x17, x18, x19, x20, x21, x22, x23, x24, x25, x26, x27, x28, x29, x30, x31, x32, x33, x34, x35, x36, x37, x38, x39, x40, x41, x42, x43, x44, x45, x46, x47, x48, x49, x50, x51, x52, x53, x54, x55, x56, x57, x58, x59, x60, x61, x62, x63, x64, x65, x66, x67, x68, x69, x70, x71, x72, x73, x74, x75, x76, x77, x78, x79, x80, x81, x82, x83, x84, x85, x86, x87, x88, x89, x90, x91, x92, x93, x94, x95, x96, x97, x98, x99, x100, x101, x102, x103, x104, x105, x106, x107, x108, x109, x110, x111, x112, x113, x114, x115, x116, x117, x118, x119, x120, x121, x122, x123, x124, x125, x126, x127], defers := [] } (wa)) :
    Code.wp Ybaf.prog (headC (dropC 2 l5)) (only K) { tmps := #[.slice a0 0 c, x1, x2, x3, x4, x5, x6, x7, x8, x9, x10, x11, x12, x13, x14, x15, x16, x17, x18, x19, x20, x21, x22, x23, x24, x25, x26, x27, x28, x29, x30, x31, x32, x33, x34, x35, x36, x37, x38, x39, x40, x41, x42, x43, x44, x45, x46, x47, x48, x49, x50, x51, x52, x53, x54, x55, x56, x57, x58, x59, x60, x61, x62, x63, x64, x65, x66, x67, x68, x69, x70, x71, x72, x73, x74, x75, x76, x77, x78, x79, x80, x81, x82, x83, x84, x85, x86, x87, x88, x89, x90, x91, x92, x93, x94, x95, x96, x97, x98, x99, x100, x101, x102, x103, x104, x105, x106, x107, x108, x109, x110, x111, x112, x113, x114, x115, x116, x117, x118, x119, x120, x121, x122, x123, x124, x125, x126, x127], defers := [] } wa := by
  cases a0 with
  | none =>
    have HK := hid hK
    clear hK
    simp only [l5, lB, Ybaf.f5, Option.getD, dropC, headC, tailC, blkC, lupC, thnC, elsC]
    go_wp2_with fail
    exact HK.out _ _ 
  | some a0 =>
    have HK := hid hK
    clear hK
    simp only [l5, lB, Ybaf.f5, Option.getD, dropC, headC, tailC, blkC, lupC, thnC, elsC]
    go_wp2_with fail
    exact HK.out _ _ 

set_option maxRecDepth 100000 in
set_option maxHeartbeats 1000000 in
theorem e6z (wa : World) {x0 x1 x2 x3 x4 x6 x7 x8 x9 x10 x11 x12 x13 x14 x15 x16 x17 x18 x19 x20 x21 x22 x23 x24 x25 x26 x27 x28 x29 x30 x31 x32 x33 x34 x35 x36 x37 x38 x39 x40 x41 x42 x43 x44 x45 x46 x47 x48 x49 x50 x51 x52 x53 x54 x55 x56 x57 x58 x59 x60 x61 x62 x63 x64 x65 x66 x67 x68 x69 x70 x71 x72 x73 x74 x75 x76 x77 x78 x79 x80 x81 x82 x83 x84 x85 x86 x87 x88 x89 x90 x91 x92 x93 x94 x95 x96 x97 x98 x99 x100 x101 x102 x103 x104 x105 x106 x107 x108 x109 x110 x111 x112 x113 x114 x115 x116 x117 x118 x119 x120 x121 x122 x123 x124 x125 x126 x127 : Value} (K : Act → World → Prop)
    (hK : ∀ (y30 y31 : Value), K { tmps := #[x0, x1, x2, x3, x4, .slice none 0 0, .slice none 0 0, x7, x8, x9, x10, x11, x12, x13, x14, x15, x16, x17, x18, x19, x20, x21, x22, x23, x24, x25, x26, x27, x28, x29, y30, y31, x32, x33, x34, x35, x36, x37, x38, x39, x40, x41, x42, x43, x44, x45, x46, x47, x48, x49, x50, x51, x52, x53, x54, x55, x56, x57, x58, x59, x60, x61, x62, x63, x64, x65, x66, x67, x68, x69, x70, x71, x72, x73, x74, x75, x76, x77, x78, x79, x80, x81, x82, x83, x84, x85, x86, x87, x88, x89, x90, x91, x92, x93, x94, x95, x96, x97, x98, x99, x100, x101, x102, x103, x104, x105, x106, x107, x108, x109, x110, x111, x112, x113, x114, x115, x116, x117, x118, x119, x120, x121, x122, x123, x124, x125, x126, x127], defers := [] } (wa)) :
    Code.wp Ybaf.prog (headC (dropC 4 l5)) (only K) { tmps := #[x0, x1, x2, x3, x4, .slice none 0 0, x6, x7, x8, x9, x10, x11, x12, x13, x14, x15, x16, x17, x18, x19, x20, x21, x22, x23, x24, x25, x26, x27, x28, x29, x30, x31, x32, x33, x34, x35, x36, x37, x38, x39, x40, x41, x42, x43, x44, x45, x46, x47, x48, x49, x50, x51, x52, x53, x54, x55, x56, x57, x58, x59, x60, x61, x62, x63, x64, x65, x66, x67, x68, x69, x70, x71, x72, x73, x74, x75, x76, x77, x78, x79, x80, x81, x82, x83, x84, x85, x86, x87, x88, x89, x90, x91, x92, x93, x94, x95, x96, x97, x98, x99, x100, x101, x102, x103, x104, x105, x106, x107, x108, x109, x110, x111, x112, x113, x114, x115, x116, x117, x118, x119, x120, x121, x122, x123, x124, x125, x126, x127], defers := [] } wa := by
  have HK := hid hK
  clear hK
  simp only [l5, lB, Ybaf.f5, Option.getD, dropC, headC, tailC, blkC, lupC, thnC, elsC]
  go_wp2_with fail
  exact HK.out _ _ 

set_option maxRecDepth 100000 in
set_option maxHeartbeats 1000000 in
theorem e4 (v6 : Bool) (a0 : Option Addr) (n c : Nat) (wa : World) {x0 x2 x3 x4 x6 x7 x8 x9 x10 x11 x12 x13 x14 x15 x16 x17 x18 x19 x20 x21 x22 x23 x24 x25 x26 x27 x28 x29 x30 x31 x32 x33 x34 x35 x36 x37 x38 x39 x40 x41 x42 x43 x44 x45 x46 x47 x48 x49 x50 x51 x52 x53 x54 x55 x56 x57 x58 x59 x60 x61 x62 x63 x64 x65 x66 x67 x68 x69 x70 x71 x72 x73 x74 x75 x76 x77 x78 x79 x80 x81 x82 x83 x84 x85 x86 x87 x88 x89 x90 x91 x92 x93 x94 x95 x96 x97 x98 x99 x100 x101 x102 x103 x104 x105 x106 x107 x108 x109 x110 x111 x112 x113 x114 x115 x116 x117 x118 x119 x120 x121 x122 x123 x124 x125 x126 x127 : Value} (K : Act → World → Prop)
    (hK : ∀ (y17 y18 y19 y20 y21 : Value), K { tmps := #[x0, .bool v6, x2, x3, x4, .slice a0 n c, x6, x7, x8, x9, x10, x11, x12, x13, x14, x15, x16, y17, y18, y19, y20, y21, .bool (v6 && decide (0 < n)), x23, x24, x25, x26, x27, x28, x29, x30, x31, x32, x33, x34, x35, x36, x37, x38, x39, x40, x41, x42, x43, x44, x45, x46, x47, x48, x49, x50, x51, x52, x53, x54, x55, x56, x57, x58, x59, x60, x61, x62, x63, x64, x65, x66, x67, x68, x69, x70, x71, x72, x73, x74, x75, x76, x77, x78, x79, x80, x81, x82, x83, x84, x85, x86, x87, x88, x89, x90, x91, x92, x93, x94, x95, x96, x97, x98, x99, x100, x101, x102, x103, x104, x105, x106, x107, x108, x109, x110, x111, x112, x113, x114, x115, x116, x117, x118, x119, x120, x121, x122, x123, x124, x125, x126, x127], defers := [] } (wa)) :
    Code.wp Ybaf.prog (headC (headC (dropC 3 l5))) (only K) { tmps := #[x0, .bool v6, x2, x3, x4, .slice a0 n c, x6, x7, x8, x9, x10, x11, x12, x13, x14, x15, x16, x17, x18, x19, x20, x21, x22, x23, x24, x25, x26, x27, x28, x29, x30, x31, x32, x33, x34, x35, x36, x37, x38, x39, x40, x41, x42, x43, x44, x45, x46, x47, x48, x49, x50, x51, x52, x53, x54, x55, x56, x57, x58, x59, x60, x61, x62, x63, x64, x65, x66, x67, x68, x69, x70, x71, x72, x73, x74, x75, x76, x77, x78, x79, x80, x81, x82, x83, x84, x85, x86, x87, x88, x89, x90, x91, x92, x93, x94, x95, x96, x97, x98, x99, x100, x101, x102, x103, x104, x105, x106, x107, x108, x109, x110, x111, x112, x113, x114, x115, x116, x117, x118, x119, x120, x121, x122, x123, x124, x125, x126, x127], defers := [] } wa := by
  cases v6 with
  | true =>
    rw [Bool.true_and] at hK
    have HK := hid hK
    clear hK
    simp only [l5, lB, Ybaf.f5, Option.getD, dropC, headC, tailC, blkC, lupC, thnC, elsC]
    go_wp2_with fail
    exact HK.out _ _ _ _ _ 
  | false =>
    rw [Bool.false_and] at hK
    have HK := hid hK
    clear hK
    simp only [l5, lB, Ybaf.f5, Option.getD, dropC, headC, tailC, blkC, lupC, thnC, elsC]
    go_wp2_with fail
    exact HK.out _ _ _ _ _ 

set_option maxRecDepth 100000 in
set_option maxHeartbeats 1000000 in
theorem e5 (gb n cap x : Nat) (wa : World) (hn : 0 < n) (h0 : wa.cell? ⟨gb, 0, none⟩ = some (.int .u8 (x : Nat))) (hf : wa.frozen? ⟨gb, 0, none⟩ = false) (hx : x ≤ 255) {x0 x1 x2 x3 x4 x6 x7 x8 x9 x10 x11 x12 x13 x14 x15 x16 x17 x18 x19 x20 x21 x22 x23 x24 x25 x26 x27 x28 x29 x30 x31 x32 x33 x34 x35 x36 x37 x38 x39 x40 x41 x42 x43 x44 x45 x46 x47 x48 x49 x50 x51 x52 x53 x54 x55 x56 x57 x58 x59 x60 x61 x62 x63 x64 x65 x66 x67 x68 x69 x70 x71 x72 x73 x74 x75 x76 x77 x78 x79 x80 x81 x82 x83 x84 x85 x86 x87 x88 x89 x90 x91 x92 x93 x94 x95 x96 x97 x98 x99 x100 x101 x102 x103 x104 x105 x106 x107 x108 x109 x110 x111 x112 x113 x114 x115 x116 x117 x118 x119 x120 x121 x122 x123 x124 x125 x126 x127 : Value} (K : Act → World → Prop)
    (hK : ∀ (y23 y24 y25 y26 y27 y28 y29 : Value), K { tmps := #[x0, x1, x2, x3, x4, .slice (some ⟨gb, 0, none⟩) n cap, x6, x7, x8, x9, x10, x11, x12, x13, x14, x15, x16, x17, x18, x19, x20, x21, x22, y23, y24, y25, y26, y27, y28, y29, x30, x31, x32, x33, x34, x35, x36, x37, x38, x39, x40, x41, x42, x43, x44, x45, x46, x47, x48, x49, x50, x51, x52, x53, x54, x55, x56, x57, x58, x59, x60, x61, x62, x63, x64, x65, x66, x67, x68, x69, x70, x71, x72, x73, x74, x75, x76, x77, x78, x79, x80, x81, x82, x83, x84, x85, x86, x87, x88, x89, x90, x91, x92, x93, x94, x95, x96, x97, x98, x99, x100, x101, x102, x103, x104, x105, x106, x107, x108, x109, x110, x111, x112, x113, x114, x115, x116, x117, x118, x119, x120, x121, x122, x123, x124, x125, x126, x127], defers := [] } (wa.setCell ⟨gb, 0, none⟩ (.int .u8 (bits .or .u8 96 ((x : Int) % 16))))) :
    Code.wp Ybaf.prog (thnC (tailC (headC (dropC 3 l5)))) (only K) { tmps := #[x0, x1, x2, x3, x4, .slice (some ⟨gb, 0, none⟩) n cap, x6, x7, x8, x9, x10, x11, x12, x13, x14, x15, x16, x17, x18, x19, x20, x21, x22, x23, x24, x25, x26, x27, x28, x29, x30, x31, x32, x33, x34, x35, x36, x37, x38, x39, x40, x41, x42, x43, x44, x45, x46, x47, x48, x49, x50, x51, x52, x53, x54, x55, x56, x57, x58, x59, x60, x61, x62, x63, x64, x65, x66, x67, x68, x69, x70, x71, x72, x73, x74, x75, x76, x77, x78, x79, x80, x81, x82, x83, x84, x85, x86, x87, x88, x89, x90, x91, x92, x93, x94, x95, x96, x97, x98, x99, x100, x101, x102, x103, x104, x105, x106, x107, x108, x109, x110, x111, x112, x113, x114, x115, x116, x117, x118, x119, x120, x121, x122, x123, x124, x125, x126, x127], defers := [] } wa := by
  have hn0 : (0 : Int) < (n : Int) := by omega
  have lb : gb < wa.heap.size := World.block_lt_of_cell? wa _ h0
  have HK := hid hK
  clear hK
  simp only [l5, lB, Ybaf.f5, Option.getD, dropC, headC, tailC, blkC, lupC, thnC, elsC]
  go_wp2_with fail
  exact HK.out _ _ _ _ _ _ _ 
end Go.Proofs.YbulkblsgFmt

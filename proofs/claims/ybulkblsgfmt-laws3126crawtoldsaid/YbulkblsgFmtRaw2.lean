import Derived.Test.YbulkblsgFmtRaw1
namespace Go.Proofs.YbulkblsgFmt
open Go.RowKit Go.Extern.Stop Go.Stop Go.Extern
set_option linter.unusedVariables false
set_option linter.unusedSimpArgs false
section
variable {P : Program} {ops : Array Oper} {Q : Exit → Act → World → Prop}
/-- A plain region's call, guarded or not. -/
theorem plcg (d : Nat) {o : Oper} {rest : List Oper} {a : Act} {w : World} {f : FuncId} {args : Array Value} {R : Value → World → Prop} (hw : Region.wanted o (yielded ops a.tmps) = true) (hd : o.dst = some d) (hrun : (execOp a.eval o).run P w = .ok (.enter f args) w)
    (hc : Calls P f args w fun e w' => ∃ v, e = .returned v ∧ R v w') (h : ∀ v w', R v w' → wpList P ops Q rest (a.put (some d) v) w') : wpList P ops Q (o :: rest) a w :=
  wpList_step fun K hK => step_call d hw hd hrun hc (fun v w' hR => hK _ _ (h v w' hR))
end
theorem Res.form {b off n c : Nat} {C : Nat → Nat} {zp : Option Addr} {ev : Value} {X0 : Nat} {pk : Array Value} {ok : Bool} {er : Value} (h : Res b off n c C zp ev X0 pk ok er) : ∃ (h1 l1 : Int) (p : Option Addr) (h2 l2 : Int) (q t : Option Addr) (tn tc : Nat) (len : Int), pk = pkt h1 l1 p h2 l2 q t tn tc len := by
  have tf : ∀ o len, ∃ (h1 l1 : Int) (p : Option Addr) (h2 l2 : Int) (q t : Option Addr) (tn tc : Nat) (len' : Int), tcpk b off n c C zp o len = pkt h1 l1 p h2 l2 q t tn tc len' := fun o len => by
    unfold tcpk
    split
    · exact ⟨_, _, _, _, _, _, _, _, _, _, rfl⟩
    · exact ⟨_, _, _, _, _, _, _, _, _, _, rfl⟩
  unfold Res at h
  split at h
  · exact ⟨_, _, _, _, _, _, _, _, _, _, h.1⟩
  · split at h
    · exact ⟨_, _, _, _, _, _, _, _, _, _, h.1⟩
    · exact ⟨_, _, _, _, _, _, _, _, _, _, h.1⟩
    · split at h
      · rw [h.1]; exact tf _ _
      · split at h
        · rw [h.1]; exact tf _ _
        · split at h
          · rw [h.1]; exact tf _ _
          · rw [h.1]; exact tf _ _
theorem lp_ge {n : Nat} {C : Nat → Nat} : ∀ (f nx o : Nat) (fg : Bool) (o' : Nat) (fg' : Bool), lp n C f nx o fg = .fin o' fg' → o ≤ o'
  | 0, _, _, _, _, _, h => by simp [lp] at h
  | f + 1, nx, o, fg, o', fg', h => by
    unfold lp at h
    split at h
    · injection h with h1 h2; omega
    · split at h
      · cases h
      · cases h
      · have := lp_ge _ _ _ _ _ _ h; omega
theorem eqR {v1 v2 : Value} {s : ByteArray} {w : World} (h1 : (convert 53 9 v1).run Ybaf.prog w = .ok (.string s) w) (h2 : (convert 53 9 v2).run Ybaf.prog w = .ok (.string s) w) : Calls Ybaf.prog 18 #[v1, v2] w fun e w' => ∃ v, e = .returned v ∧ (v = .bool true ∧ w' = w) :=
  (equal_any v1 v2 s w h1 h2).mono fun _ _ ⟨h1, h2⟩ => ⟨_, h1, rfl, h2⟩
theorem zeroR {w : World} : Calls Ybaf.prog 15 #[.agg zpk] w fun e w' => ∃ v, e = .returned v ∧ (v = .bool true ∧ Below w.heap.size w w') :=
  (zero_any w).mono fun _ _ ⟨h1, h2⟩ => ⟨_, h1, rfl, h2⟩
theorem decR {F : Interp} {a0 : Option Addr} {b off n c : Nat} {C : Nat → Nat} {zp : Option Addr} {ev : Value} {w : World} (hF : F.answers w.tape) (ha : 40 ≤ n → a0 = some ⟨b, off, none⟩)
    (hC : ∀ k, k < n → w.cell? ⟨b, off + k, none⟩ = some (.int .u8 ((C k : Nat) : Int)) ∧ C k ≤ 255) (hn : n ≤ 1000000) (hcap : n ≤ c) (hg0 : w.cell? ⟨0, 0, none⟩ = some ev) (hg3 : w.cell? ⟨3, 0, none⟩ = some (.pointer zp)) :
    Calls Ybaf.prog 14 #[.slice a0 n c] w fun e w' => ∃ v, e = .returned v ∧ (∃ pk ok er, v = .tuple #[.agg pk, .bool ok, er] ∧ Below w.heap.size w w' ∧ Res b off n c C zp ev w.heap.size pk ok er) :=
  (decode_any F a0 b off n c C zp ev w hF ha hC hn hcap hg0 hg3).mono fun _ _ ⟨pk, ok, er, h1, h2, h3⟩ => ⟨_, h1, pk, ok, er, rfl, h2, h3⟩

set_option maxRecDepth 100000 in
set_option maxHeartbeats 1000000 in
theorem e7 (F : Interp) (a0 : Option Addr) (b off n c : Nat) (C : Nat → Nat) (zp : Option Addr) (ev : Value) (wa : World) (hF : F.answers wa.tape) (ha : 40 ≤ n → a0 = some ⟨b, off, none⟩) (hC : ∀ k, k < n → wa.cell? ⟨b, off + k, none⟩ = some (.int .u8 ((C k : Nat) : Int)) ∧ C k ≤ 255) (hn : n ≤ 1000000) (hcap : n ≤ c) (hg0 : wa.cell? ⟨0, 0, none⟩ = some ev) (hg3 : wa.cell? ⟨3, 0, none⟩ = some (.pointer zp)) {x0 x1 x2 x3 x4 x6 x7 x8 x9 x10 x11 x12 x13 x14 x15 x16 x17 x18 x19 x20 x21 x22 x23 x24 x25 x26 x27 x28 x29 x30 x31 x32 x33 x34 x35 x36 x37 x38 x39 x40 x41 x42 x43 x44 x45 x46 x47 x48 x49 x50 x51 x52 x53 x54 x55 x56 x57 x58 x59 x60 x61 x62 x63 x64 x65 x66 x67 x68 x69 x70 x71 x72 x73 x74 x75 x76 x77 x78 x79 x80 x81 x82 x83 x84 x85 x86 x87 x88 x89 x90 x91 x92 x93 x94 x95 x96 x97 x98 x99 x100 x101 x102 x103 x104 x105 x106 x107 x108 x109 x110 x111 x112 x113 x114 x115 x116 x117 x118 x119 x120 x121 x122 x123 x124 x125 x126 x127 : Value} (K : Act → World → Prop)
    (hK : ∀ (y32 y33 y34 y35 y36 y37 : Value) (NP : Nat) (ok : Bool) (er : Value) (pk : Array Value) (wy : World), Res b off n c C zp ev wa.heap.size pk ok er → Below wa.heap.size wa wy → wa.heap.size ≤ NP → wy.heap[NP]? = some (.cells pk 67 (0, 0)) → K { tmps := #[x0, x1, x2, x3, x4, .slice a0 n c, x6, .pointer (some ⟨NP, 0, none⟩), .bool ok, er, x10, x11, x12, x13, x14, x15, x16, x17, x18, x19, x20, x21, x22, x23, x24, x25, x26, x27, x28, x29, x30, x31, y32, y33, y34, y35, y36, y37, x38, x39, x40, x41, x42, x43, x44, x45, x46, x47, x48, x49, x50, x51, x52, x53, x54, x55, x56, x57, x58, x59, x60, x61, x62, x63, x64, x65, x66, x67, x68, x69, x70, x71, x72, x73, x74, x75, x76, x77, x78, x79, x80, x81, x82, x83, x84, x85, x86, x87, x88, x89, x90, x91, x92, x93, x94, x95, x96, x97, x98, x99, x100, x101, x102, x103, x104, x105, x106, x107, x108, x109, x110, x111, x112, x113, x114, x115, x116, x117, x118, x119, x120, x121, x122, x123, x124, x125, x126, x127], defers := [] } (wy)) :
    Code.wp Ybaf.prog (headC (dropC 5 l5)) (only K) { tmps := #[x0, x1, x2, x3, x4, .slice a0 n c, x6, x7, x8, x9, x10, x11, x12, x13, x14, x15, x16, x17, x18, x19, x20, x21, x22, x23, x24, x25, x26, x27, x28, x29, x30, x31, x32, x33, x34, x35, x36, x37, x38, x39, x40, x41, x42, x43, x44, x45, x46, x47, x48, x49, x50, x51, x52, x53, x54, x55, x56, x57, x58, x59, x60, x61, x62, x63, x64, x65, x66, x67, x68, x69, x70, x71, x72, x73, x74, x75, x76, x77, x78, x79, x80, x81, x82, x83, x84, x85, x86, x87, x88, x89, x90, x91, x92, x93, x94, x95, x96, x97, x98, x99, x100, x101, x102, x103, x104, x105, x106, x107, x108, x109, x110, x111, x112, x113, x114, x115, x116, x117, x118, x119, x120, x121, x122, x123, x124, x125, x126, x127], defers := [] } wa := by
  simp only [l5, lB, Ybaf.f5, Option.getD, dropC, headC, tailC, blkC, lupC, thnC, elsC]
  refine wp_region_lit ?_
  refine plk 33 (.slice a0 n c) rfl rfl (by kernel_rfl) ?_
  simp only [Act.put, List.setIfInBounds_toArray, List.set_cons_zero, List.set_cons_succ]
  refine plc 34 (f := 14) (args := #[.slice a0 n c]) rfl rfl (by kernel_rfl) (decR hF ha hC hn hcap hg0 hg3) ?_
  rintro v x ⟨pk, ok, er, rfl, bx, hres⟩
  obtain ⟨h1, l1, p, h2, l2, q, t, tn, tc, len, rfl⟩ := hres.form
  simp only [Act.put, List.setIfInBounds_toArray, List.set_cons_zero, List.set_cons_succ]
  refine plk 32 (.tuple #[.agg (pkt h1 l1 p h2 l2 q t tn tc len), .bool ok, er]) rfl rfl (by kernel_rfl) ?_
  simp only [Act.put, List.setIfInBounds_toArray, List.set_cons_zero, List.set_cons_succ]
  refine plk 35 (.agg (pkt h1 l1 p h2 l2 q t tn tc len)) rfl rfl (by kernel_rfl) ?_
  simp only [Act.put, List.setIfInBounds_toArray, List.set_cons_zero, List.set_cons_succ]
  refine plk 36 (.bool ok) rfl rfl (by kernel_rfl) ?_
  simp only [Act.put, List.setIfInBounds_toArray, List.set_cons_zero, List.set_cons_succ]
  refine plk 37 (er) rfl rfl (by kernel_rfl) ?_
  simp only [Act.put, List.setIfInBounds_toArray, List.set_cons_zero, List.set_cons_succ]
  refine pl 7 rfl rfl (ex_alloc (t := 67) (by kernel_rfl) (al67 _)) ?_
  simp only [Act.put, List.setIfInBounds_toArray, List.set_cons_zero, List.set_cons_succ]
  refine pls (x := .tmp 7) (y := .tmp 35) (t := 67) rfl rfl (by kernel_rfl) (by kernel_rfl) (by kernel_rfl) (run_storeAt_new x 67 zpk (pkt h1 l1 p h2 l2 q t tn tc len) (by kernel_rfl) rfl (by kernel_rfl)) ?_
  refine plk 8 (.bool ok) rfl rfl (by kernel_rfl) ?_
  simp only [Act.put, List.setIfInBounds_toArray, List.set_cons_zero, List.set_cons_succ]
  refine plk 9 (er) rfl rfl (by kernel_rfl) ?_
  simp only [Act.put, List.setIfInBounds_toArray, List.set_cons_zero, List.set_cons_succ]
  exact wpList_nil (hK _ _ _ _ _ _  x.heap.size ok er _ _ hres (al bx _) bx.size (heap_alloc_new _ _))

set_option maxRecDepth 100000 in
set_option maxHeartbeats 1000000 in
theorem e8 (v1 v2 : Value) (s : ByteArray) (wa : World) (h1 : (convert 53 9 v1).run Ybaf.prog wa = .ok (.string s) wa) (h2 : (convert 53 9 v2).run Ybaf.prog wa = .ok (.string s) wa) {x0 x1 x2 x3 x4 x7 x8 x9 x10 x11 x12 x13 x14 x15 x16 x17 x18 x19 x20 x21 x22 x23 x24 x25 x26 x27 x28 x29 x30 x31 x32 x33 x34 x35 x36 x37 x38 x39 x40 x41 x42 x43 x44 x45 x46 x47 x48 x49 x50 x51 x52 x53 x54 x55 x56 x57 x58 x59 x60 x61 x62 x63 x64 x65 x66 x67 x68 x69 x70 x71 x72 x73 x74 x75 x76 x77 x78 x79 x80 x81 x82 x83 x84 x85 x86 x87 x88 x89 x90 x91 x92 x93 x94 x95 x96 x97 x98 x99 x100 x101 x102 x103 x104 x105 x106 x107 x108 x109 x110 x111 x112 x113 x114 x115 x116 x117 x118 x119 x120 x121 x122 x123 x124 x125 x126 x127 : Value} (K : Act → World → Prop)
    (hK : ∀ (y38 y39 y40 : Value), K { tmps := #[x0, x1, x2, x3, x4, v1, v2, x7, x8, x9, x10, x11, x12, x13, x14, x15, x16, x17, x18, x19, x20, x21, x22, x23, x24, x25, x26, x27, x28, x29, x30, x31, x32, x33, x34, x35, x36, x37, y38, y39, y40, .bool false, x42, x43, x44, x45, x46, x47, x48, x49, x50, x51, x52, x53, x54, x55, x56, x57, x58, x59, x60, x61, x62, x63, x64, x65, x66, x67, x68, x69, x70, x71, x72, x73, x74, x75, x76, x77, x78, x79, x80, x81, x82, x83, x84, x85, x86, x87, x88, x89, x90, x91, x92, x93, x94, x95, x96, x97, x98, x99, x100, x101, x102, x103, x104, x105, x106, x107, x108, x109, x110, x111, x112, x113, x114, x115, x116, x117, x118, x119, x120, x121, x122, x123, x124, x125, x126, x127], defers := [] } (wa)) :
    Code.wp Ybaf.prog (headC (headC (dropC 6 l5))) (only K) { tmps := #[x0, x1, x2, x3, x4, v1, v2, x7, x8, x9, x10, x11, x12, x13, x14, x15, x16, x17, x18, x19, x20, x21, x22, x23, x24, x25, x26, x27, x28, x29, x30, x31, x32, x33, x34, x35, x36, x37, x38, x39, x40, x41, x42, x43, x44, x45, x46, x47, x48, x49, x50, x51, x52, x53, x54, x55, x56, x57, x58, x59, x60, x61, x62, x63, x64, x65, x66, x67, x68, x69, x70, x71, x72, x73, x74, x75, x76, x77, x78, x79, x80, x81, x82, x83, x84, x85, x86, x87, x88, x89, x90, x91, x92, x93, x94, x95, x96, x97, x98, x99, x100, x101, x102, x103, x104, x105, x106, x107, x108, x109, x110, x111, x112, x113, x114, x115, x116, x117, x118, x119, x120, x121, x122, x123, x124, x125, x126, x127], defers := [] } wa := by
  simp only [l5, lB, Ybaf.f5, Option.getD, dropC, headC, tailC, blkC, lupC, thnC, elsC]
  refine wp_region_lit ?_
  refine plk 38 (v1) rfl rfl (by kernel_rfl) ?_
  simp only [Act.put, List.setIfInBounds_toArray, List.set_cons_zero, List.set_cons_succ]
  refine plk 39 (v2) rfl rfl (by kernel_rfl) ?_
  simp only [Act.put, List.setIfInBounds_toArray, List.set_cons_zero, List.set_cons_succ]
  refine plc 40 (f := 18) (args := #[v1, v2]) rfl rfl (by kernel_rfl) (eqR h1 h2) ?_
  rintro v x ⟨rfl, rfl⟩
  simp only [Act.put, List.setIfInBounds_toArray, List.set_cons_zero, List.set_cons_succ]
  refine plk 41 (.bool false) rfl rfl (by kernel_rfl) ?_
  simp only [Act.put, List.setIfInBounds_toArray, List.set_cons_zero, List.set_cons_succ]
  exact wpList_nil (hK _ _ _ )

set_option maxRecDepth 100000 in
set_option maxHeartbeats 1000000 in
theorem e10 (a0 : Option Addr) (gb n c x : Nat) (wa : World) (ha : 40 ≤ n → a0 = some ⟨gb, 0, none⟩) (h0 : 40 ≤ n → wa.cell? ⟨gb, 0, none⟩ = some (.int .u8 (x : Nat))) (hx : x ≤ 255) {x0 x1 x2 x3 x4 x6 x7 x8 x9 x10 x11 x12 x13 x14 x15 x16 x17 x18 x19 x20 x21 x22 x23 x24 x25 x26 x27 x28 x29 x30 x31 x32 x33 x34 x35 x36 x37 x38 x39 x40 x41 x42 x43 x44 x45 x46 x47 x48 x49 x50 x51 x52 x53 x54 x55 x56 x57 x58 x59 x60 x61 x62 x63 x64 x65 x66 x67 x68 x69 x70 x71 x72 x73 x74 x75 x76 x77 x78 x79 x80 x81 x82 x83 x84 x85 x86 x87 x88 x89 x90 x91 x92 x93 x94 x95 x96 x97 x98 x99 x100 x101 x102 x103 x104 x105 x106 x107 x108 x109 x110 x111 x112 x113 x114 x115 x116 x117 x118 x119 x120 x121 x122 x123 x124 x125 x126 x127 : Value} (K : Act → World → Prop)
    (hK : ∀ (y42 y43 y44 y45 y46 y47 y48 y49 y50 : Value), K { tmps := #[x0, x1, x2, x3, x4, .slice a0 n c, x6, x7, x8, x9, x10, x11, x12, x13, x14, x15, x16, x17, x18, x19, x20, x21, x22, x23, x24, x25, x26, x27, x28, x29, x30, x31, x32, x33, x34, x35, x36, x37, x38, x39, x40, x41, y42, y43, y44, y45, y46, y47, y48, y49, y50, .bool (decide (n < 40) || !((x : Int) / 16 == 6)), x52, x53, x54, x55, x56, x57, x58, x59, x60, x61, x62, x63, x64, x65, x66, x67, x68, x69, x70, x71, x72, x73, x74, x75, x76, x77, x78, x79, x80, x81, x82, x83, x84, x85, x86, x87, x88, x89, x90, x91, x92, x93, x94, x95, x96, x97, x98, x99, x100, x101, x102, x103, x104, x105, x106, x107, x108, x109, x110, x111, x112, x113, x114, x115, x116, x117, x118, x119, x120, x121, x122, x123, x124, x125, x126, x127], defers := [] } (wa)) :
    Code.wp Ybaf.prog (headC (headC (dropC 7 l5))) (only K) { tmps := #[x0, x1, x2, x3, x4, .slice a0 n c, x6, x7, x8, x9, x10, x11, x12, x13, x14, x15, x16, x17, x18, x19, x20, x21, x22, x23, x24, x25, x26, x27, x28, x29, x30, x31, x32, x33, x34, x35, x36, x37, x38, x39, x40, x41, x42, x43, x44, x45, x46, x47, x48, x49, x50, x51, x52, x53, x54, x55, x56, x57, x58, x59, x60, x61, x62, x63, x64, x65, x66, x67, x68, x69, x70, x71, x72, x73, x74, x75, x76, x77, x78, x79, x80, x81, x82, x83, x84, x85, x86, x87, x88, x89, x90, x91, x92, x93, x94, x95, x96, x97, x98, x99, x100, x101, x102, x103, x104, x105, x106, x107, x108, x109, x110, x111, x112, x113, x114, x115, x116, x117, x118, x119, x120, x121, x122, x123, x124, x125, x126, x127], defers := [] } wa := by
  by_cases h40 : n < 40
  · have d0 : decide ((n : Int) < 40) = true := by simp; omega
    clear ha h0
    rw [decide_eq_true h40, Bool.true_or] at hK
    have HK := hid hK
    clear hK
    simp only [l5, lB, Ybaf.f5, Option.getD, dropC, headC, tailC, blkC, lupC, thnC, elsC]
    go_wp2_with fail
    exact HK.out _ _ _ _ _ _ _ _ _ 
  · have d0 : decide ((n : Int) < 40) = false := by simp; omega
    have hn0 : (0 : Int) < (n : Int) := by omega
    obtain rfl := ha (by omega)
    have h0' := h0 (by omega)
    clear ha h0
    rw [decide_eq_false h40, Bool.false_or] at hK
    have HK := hid hK
    clear hK
    simp only [l5, lB, Ybaf.f5, Option.getD, dropC, headC, tailC, blkC, lupC, thnC, elsC]
    go_wp2_with fail
    exact HK.out _ _ _ _ _ _ _ _ _ 

set_option maxRecDepth 100000 in
set_option maxHeartbeats 1000000 in
theorem e11 (ad : Value) (NP : Nat) (wa : World) (hp : wa.heap[NP]? = some (.cells zpk 67 (0, 0))) {x0 x1 x2 x3 x4 x5 x6 x10 x11 x12 x13 x14 x15 x16 x17 x18 x19 x20 x21 x22 x23 x24 x25 x26 x27 x28 x29 x30 x31 x32 x33 x34 x35 x36 x37 x38 x39 x40 x41 x42 x43 x44 x45 x46 x47 x48 x49 x50 x51 x52 x53 x54 x55 x56 x57 x58 x59 x60 x61 x62 x63 x64 x65 x66 x67 x68 x69 x70 x71 x72 x73 x74 x75 x76 x77 x78 x79 x80 x81 x82 x83 x84 x85 x86 x87 x88 x89 x90 x91 x92 x93 x94 x95 x96 x97 x98 x99 x100 x101 x102 x103 x104 x105 x106 x107 x108 x109 x110 x111 x112 x113 x114 x115 x116 x117 x118 x119 x120 x121 x122 x123 x124 x125 x126 x127 : Value} (K : Act → World → Prop)
    (hK : ∀ (y52 y53 y54 y55 y56 y57 y58 y59 y60 y61 : Value) (wy : World), Below wa.heap.size wa wy → K { tmps := #[x0, x1, x2, x3, .bool true, x5, x6, .pointer (some ⟨NP, 0, none⟩), .bool false, .iface 108 ad, x10, x11, x12, x13, x14, x15, x16, x17, x18, x19, x20, x21, x22, x23, x24, x25, x26, x27, x28, x29, x30, x31, x32, x33, x34, x35, x36, x37, x38, x39, x40, x41, x42, x43, x44, x45, x46, x47, x48, x49, x50, x51, y52, y53, y54, y55, y56, y57, y58, y59, y60, y61, x62, x63, x64, x65, x66, x67, x68, x69, x70, x71, x72, x73, x74, x75, x76, x77, x78, x79, x80, x81, x82, x83, x84, x85, x86, x87, x88, x89, x90, x91, x92, x93, x94, x95, x96, x97, x98, x99, x100, x101, x102, x103, x104, x105, x106, x107, x108, x109, x110, x111, x112, x113, x114, x115, x116, x117, x118, x119, x120, x121, x122, x123, x124, x125, x126, x127], defers := [] } (wy)) :
    Code.wp Ybaf.prog (headC (thnC (tailC (headC (dropC 7 l5))))) (only K) { tmps := #[x0, x1, x2, x3, x4, x5, x6, .pointer (some ⟨NP, 0, none⟩), .bool false, .iface 108 ad, x10, x11, x12, x13, x14, x15, x16, x17, x18, x19, x20, x21, x22, x23, x24, x25, x26, x27, x28, x29, x30, x31, x32, x33, x34, x35, x36, x37, x38, x39, x40, x41, x42, x43, x44, x45, x46, x47, x48, x49, x50, x51, x52, x53, x54, x55, x56, x57, x58, x59, x60, x61, x62, x63, x64, x65, x66, x67, x68, x69, x70, x71, x72, x73, x74, x75, x76, x77, x78, x79, x80, x81, x82, x83, x84, x85, x86, x87, x88, x89, x90, x91, x92, x93, x94, x95, x96, x97, x98, x99, x100, x101, x102, x103, x104, x105, x106, x107, x108, x109, x110, x111, x112, x113, x114, x115, x116, x117, x118, x119, x120, x121, x122, x123, x124, x125, x126, x127], defers := [] } wa := by
  simp only [l5, lB, Ybaf.f5, Option.getD, dropC, headC, tailC, blkC, lupC, thnC, elsC]
  refine wp_region_lit ?_
  refine plgk 52 (.bool false) (by kernel_rfl) (by kernel_rfl) (by kernel_rfl) ?_
  simp only [Act.put, List.setIfInBounds_toArray, List.set_cons_zero, List.set_cons_succ]
  refine plgk 53 (.bool true) (by kernel_rfl) (by kernel_rfl) (by kernel_rfl) ?_
  simp only [Act.put, List.setIfInBounds_toArray, List.set_cons_zero, List.set_cons_succ]
  refine plgk 54 (.bool true) (by kernel_rfl) (by kernel_rfl) (by kernel_rfl) ?_
  simp only [Act.put, List.setIfInBounds_toArray, List.set_cons_zero, List.set_cons_succ]
  refine plgk 55 (.iface 108 ad) (by kernel_rfl) (by kernel_rfl) (by kernel_rfl) ?_
  simp only [Act.put, List.setIfInBounds_toArray, List.set_cons_zero, List.set_cons_succ]
  refine plgk 56 (.bool true) (by kernel_rfl) (by kernel_rfl) (by kernel_rfl) ?_
  simp only [Act.put, List.setIfInBounds_toArray, List.set_cons_zero, List.set_cons_succ]
  refine plgk 57 (.bool true) (by kernel_rfl) (by kernel_rfl) (by kernel_rfl) ?_
  simp only [Act.put, List.setIfInBounds_toArray, List.set_cons_zero, List.set_cons_succ]
  refine plgk 58 (.bool true) (by kernel_rfl) (by kernel_rfl) (by kernel_rfl) ?_
  simp only [Act.put, List.setIfInBounds_toArray, List.set_cons_zero, List.set_cons_succ]
  refine plg 59 (by kernel_rfl) (by kernel_rfl) (ex_load (x := .tmp 7) (t := 67) (by kernel_rfl) (by kernel_rfl) (ld67 hp)) ?_
  simp only [Act.put, List.setIfInBounds_toArray, List.set_cons_zero, List.set_cons_succ]
  refine plcg 60 (f := 15) (args := #[.agg zpk]) (by kernel_rfl) (by kernel_rfl) (by kernel_rfl) zeroR ?_
  rintro v x ⟨rfl, bx⟩
  simp only [Act.put, List.setIfInBounds_toArray, List.set_cons_zero, List.set_cons_succ]
  refine plgk 61 (.bool true) (by kernel_rfl) (by kernel_rfl) (by kernel_rfl) ?_
  simp only [Act.put, List.setIfInBounds_toArray, List.set_cons_zero, List.set_cons_succ]
  refine plgk 4 (.bool true) (by kernel_rfl) (by kernel_rfl) (by kernel_rfl) ?_
  simp only [Act.put, List.setIfInBounds_toArray, List.set_cons_zero, List.set_cons_succ]
  exact wpList_nil (hK _ _ _ _ _ _ _ _ _ _  x bx)

set_option maxRecDepth 100000 in
set_option maxHeartbeats 1000000 in
theorem e12a (er : Value) (wa : World) {x0 x1 x2 x3 x4 x5 x6 x7 x10 x11 x12 x13 x14 x15 x16 x17 x18 x19 x20 x21 x22 x23 x24 x25 x26 x27 x28 x29 x30 x31 x32 x33 x34 x35 x36 x37 x38 x39 x40 x41 x42 x43 x44 x45 x46 x47 x48 x49 x50 x51 x52 x53 x54 x55 x56 x57 x58 x59 x60 x61 x62 x63 x64 x65 x66 x67 x68 x69 x70 x71 x72 x73 x74 x75 x76 x77 x78 x79 x80 x81 x82 x83 x84 x85 x86 x87 x88 x89 x90 x91 x92 x93 x94 x95 x96 x97 x98 x99 x100 x101 x102 x103 x104 x105 x106 x107 x108 x109 x110 x111 x112 x113 x114 x115 x116 x117 x118 x119 x120 x121 x122 x123 x124 x125 x126 x127 : Value} (K : Act → World → Prop)
    (hK : ∀ (y62 y63 y64 y65 : Value), K { tmps := #[x0, x1, x2, x3, x4, x5, x6, x7, .bool false, er, x10, x11, x12, x13, x14, x15, x16, x17, x18, x19, x20, x21, x22, x23, x24, x25, x26, x27, x28, x29, x30, x31, x32, x33, x34, x35, x36, x37, x38, x39, x40, x41, x42, x43, x44, x45, x46, x47, x48, x49, x50, x51, x52, x53, x54, x55, x56, x57, x58, x59, x60, x61, y62, y63, y64, y65, .bool false, x67, x68, x69, x70, x71, x72, x73, x74, x75, x76, x77, x78, x79, x80, x81, x82, x83, x84, x85, x86, x87, x88, x89, x90, x91, x92, x93, x94, x95, x96, x97, x98, x99, x100, x101, x102, x103, x104, x105, x106, x107, x108, x109, x110, x111, x112, x113, x114, x115, x116, x117, x118, x119, x120, x121, x122, x123, x124, x125, x126, x127], defers := [] } (wa)) :
    Code.wp Ybaf.prog (headC (headC (dropC 8 l5))) (only K) { tmps := #[x0, x1, x2, x3, x4, x5, x6, x7, .bool false, er, x10, x11, x12, x13, x14, x15, x16, x17, x18, x19, x20, x21, x22, x23, x24, x25, x26, x27, x28, x29, x30, x31, x32, x33, x34, x35, x36, x37, x38, x39, x40, x41, x42, x43, x44, x45, x46, x47, x48, x49, x50, x51, x52, x53, x54, x55, x56, x57, x58, x59, x60, x61, x62, x63, x64, x65, x66, x67, x68, x69, x70, x71, x72, x73, x74, x75, x76, x77, x78, x79, x80, x81, x82, x83, x84, x85, x86, x87, x88, x89, x90, x91, x92, x93, x94, x95, x96, x97, x98, x99, x100, x101, x102, x103, x104, x105, x106, x107, x108, x109, x110, x111, x112, x113, x114, x115, x116, x117, x118, x119, x120, x121, x122, x123, x124, x125, x126, x127], defers := [] } wa := by
  have HK := hid hK
  clear hK
  simp only [l5, lB, Ybaf.f5, Option.getD, dropC, headC, tailC, blkC, lupC, thnC, elsC]
  go_wp2_with fail
  exact HK.out _ _ _ _ 

set_option maxRecDepth 100000 in
set_option maxHeartbeats 1000000 in
theorem e12b (er : Value) (wa : World) {x0 x1 x2 x3 x4 x5 x6 x7 x10 x11 x12 x13 x14 x15 x16 x17 x18 x19 x20 x21 x22 x23 x24 x25 x26 x27 x28 x29 x30 x31 x32 x33 x34 x35 x36 x37 x38 x39 x40 x41 x42 x43 x44 x45 x46 x47 x48 x49 x50 x51 x52 x53 x54 x55 x56 x57 x58 x59 x60 x61 x62 x63 x64 x65 x66 x67 x68 x69 x70 x71 x72 x73 x74 x75 x76 x77 x78 x79 x80 x81 x82 x83 x84 x85 x86 x87 x88 x89 x90 x91 x92 x93 x94 x95 x96 x97 x98 x99 x100 x101 x102 x103 x104 x105 x106 x107 x108 x109 x110 x111 x112 x113 x114 x115 x116 x117 x118 x119 x120 x121 x122 x123 x124 x125 x126 x127 : Value} (K : Act → World → Prop)
    (hK : ∀ (y62 y63 y64 y65 : Value), K { tmps := #[x0, x1, x2, x3, x4, x5, x6, x7, .bool true, .nilIface, x10, x11, x12, x13, x14, x15, x16, x17, x18, x19, x20, x21, x22, x23, x24, x25, x26, x27, x28, x29, x30, x31, x32, x33, x34, x35, x36, x37, x38, x39, x40, x41, x42, x43, x44, x45, x46, x47, x48, x49, x50, x51, x52, x53, x54, x55, x56, x57, x58, x59, x60, x61, y62, y63, y64, y65, .bool false, x67, x68, x69, x70, x71, x72, x73, x74, x75, x76, x77, x78, x79, x80, x81, x82, x83, x84, x85, x86, x87, x88, x89, x90, x91, x92, x93, x94, x95, x96, x97, x98, x99, x100, x101, x102, x103, x104, x105, x106, x107, x108, x109, x110, x111, x112, x113, x114, x115, x116, x117, x118, x119, x120, x121, x122, x123, x124, x125, x126, x127], defers := [] } (wa)) :
    Code.wp Ybaf.prog (headC (headC (dropC 8 l5))) (only K) { tmps := #[x0, x1, x2, x3, x4, x5, x6, x7, .bool true, .nilIface, x10, x11, x12, x13, x14, x15, x16, x17, x18, x19, x20, x21, x22, x23, x24, x25, x26, x27, x28, x29, x30, x31, x32, x33, x34, x35, x36, x37, x38, x39, x40, x41, x42, x43, x44, x45, x46, x47, x48, x49, x50, x51, x52, x53, x54, x55, x56, x57, x58, x59, x60, x61, x62, x63, x64, x65, x66, x67, x68, x69, x70, x71, x72, x73, x74, x75, x76, x77, x78, x79, x80, x81, x82, x83, x84, x85, x86, x87, x88, x89, x90, x91, x92, x93, x94, x95, x96, x97, x98, x99, x100, x101, x102, x103, x104, x105, x106, x107, x108, x109, x110, x111, x112, x113, x114, x115, x116, x117, x118, x119, x120, x121, x122, x123, x124, x125, x126, x127], defers := [] } wa := by
  have HK := hid hK
  clear hK
  simp only [l5, lB, Ybaf.f5, Option.getD, dropC, headC, tailC, blkC, lupC, thnC, elsC]
  go_wp2_with fail
  exact HK.out _ _ _ _ 

set_option maxRecDepth 100000 in
set_option maxHeartbeats 1000000 in
theorem e14a (er : Value) (wa : World) {x0 x1 x2 x3 x4 x5 x6 x7 x10 x11 x12 x13 x14 x15 x16 x17 x18 x19 x20 x21 x22 x23 x24 x25 x26 x27 x28 x29 x30 x31 x32 x33 x34 x35 x36 x37 x38 x39 x40 x41 x42 x43 x44 x45 x46 x47 x48 x49 x50 x51 x52 x53 x54 x55 x56 x57 x58 x59 x60 x61 x62 x63 x64 x65 x66 x67 x68 x69 x70 x71 x72 x73 x74 x75 x76 x77 x78 x79 x80 x81 x82 x83 x84 x85 x86 x87 x88 x89 x90 x91 x92 x93 x94 x95 x96 x97 x98 x99 x100 x101 x102 x103 x104 x105 x106 x107 x108 x109 x110 x111 x112 x113 x114 x115 x116 x117 x118 x119 x120 x121 x122 x123 x124 x125 x126 x127 : Value} (K : Act → World → Prop)
    (hK : ∀ (y67 y68 y69 y70 y71 : Value), K { tmps := #[x0, x1, x2, x3, x4, x5, x6, x7, .bool true, er, x10, x11, x12, x13, x14, x15, x16, x17, x18, x19, x20, x21, x22, x23, x24, x25, x26, x27, x28, x29, x30, x31, x32, x33, x34, x35, x36, x37, x38, x39, x40, x41, x42, x43, x44, x45, x46, x47, x48, x49, x50, x51, x52, x53, x54, x55, x56, x57, x58, x59, x60, x61, x62, x63, x64, x65, x66, y67, y68, y69, y70, y71, .bool false, x73, x74, x75, x76, x77, x78, x79, x80, x81, x82, x83, x84, x85, x86, x87, x88, x89, x90, x91, x92, x93, x94, x95, x96, x97, x98, x99, x100, x101, x102, x103, x104, x105, x106, x107, x108, x109, x110, x111, x112, x113, x114, x115, x116, x117, x118, x119, x120, x121, x122, x123, x124, x125, x126, x127], defers := [] } (wa)) :
    Code.wp Ybaf.prog (headC (headC (dropC 9 l5))) (only K) { tmps := #[x0, x1, x2, x3, x4, x5, x6, x7, .bool true, er, x10, x11, x12, x13, x14, x15, x16, x17, x18, x19, x20, x21, x22, x23, x24, x25, x26, x27, x28, x29, x30, x31, x32, x33, x34, x35, x36, x37, x38, x39, x40, x41, x42, x43, x44, x45, x46, x47, x48, x49, x50, x51, x52, x53, x54, x55, x56, x57, x58, x59, x60, x61, x62, x63, x64, x65, x66, x67, x68, x69, x70, x71, x72, x73, x74, x75, x76, x77, x78, x79, x80, x81, x82, x83, x84, x85, x86, x87, x88, x89, x90, x91, x92, x93, x94, x95, x96, x97, x98, x99, x100, x101, x102, x103, x104, x105, x106, x107, x108, x109, x110, x111, x112, x113, x114, x115, x116, x117, x118, x119, x120, x121, x122, x123, x124, x125, x126, x127], defers := [] } wa := by
  have HK := hid hK
  clear hK
  simp only [l5, lB, Ybaf.f5, Option.getD, dropC, headC, tailC, blkC, lupC, thnC, elsC]
  go_wp2_with fail
  exact HK.out _ _ _ _ _ 

set_option maxRecDepth 100000 in
set_option maxHeartbeats 1000000 in
theorem e14b (er : Value) (wa : World) {x0 x1 x2 x3 x4 x5 x6 x7 x10 x11 x12 x13 x14 x15 x16 x17 x18 x19 x20 x21 x22 x23 x24 x25 x26 x27 x28 x29 x30 x31 x32 x33 x34 x35 x36 x37 x38 x39 x40 x41 x42 x43 x44 x45 x46 x47 x48 x49 x50 x51 x52 x53 x54 x55 x56 x57 x58 x59 x60 x61 x62 x63 x64 x65 x66 x67 x68 x69 x70 x71 x72 x73 x74 x75 x76 x77 x78 x79 x80 x81 x82 x83 x84 x85 x86 x87 x88 x89 x90 x91 x92 x93 x94 x95 x96 x97 x98 x99 x100 x101 x102 x103 x104 x105 x106 x107 x108 x109 x110 x111 x112 x113 x114 x115 x116 x117 x118 x119 x120 x121 x122 x123 x124 x125 x126 x127 : Value} (K : Act → World → Prop)
    (hK : ∀ (y67 y68 y69 y70 y71 : Value), K { tmps := #[x0, x1, x2, x3, x4, x5, x6, x7, .bool false, .nilIface, x10, x11, x12, x13, x14, x15, x16, x17, x18, x19, x20, x21, x22, x23, x24, x25, x26, x27, x28, x29, x30, x31, x32, x33, x34, x35, x36, x37, x38, x39, x40, x41, x42, x43, x44, x45, x46, x47, x48, x49, x50, x51, x52, x53, x54, x55, x56, x57, x58, x59, x60, x61, x62, x63, x64, x65, x66, y67, y68, y69, y70, y71, .bool true, x73, x74, x75, x76, x77, x78, x79, x80, x81, x82, x83, x84, x85, x86, x87, x88, x89, x90, x91, x92, x93, x94, x95, x96, x97, x98, x99, x100, x101, x102, x103, x104, x105, x106, x107, x108, x109, x110, x111, x112, x113, x114, x115, x116, x117, x118, x119, x120, x121, x122, x123, x124, x125, x126, x127], defers := [] } (wa)) :
    Code.wp Ybaf.prog (headC (headC (dropC 9 l5))) (only K) { tmps := #[x0, x1, x2, x3, x4, x5, x6, x7, .bool false, .nilIface, x10, x11, x12, x13, x14, x15, x16, x17, x18, x19, x20, x21, x22, x23, x24, x25, x26, x27, x28, x29, x30, x31, x32, x33, x34, x35, x36, x37, x38, x39, x40, x41, x42, x43, x44, x45, x46, x47, x48, x49, x50, x51, x52, x53, x54, x55, x56, x57, x58, x59, x60, x61, x62, x63, x64, x65, x66, x67, x68, x69, x70, x71, x72, x73, x74, x75, x76, x77, x78, x79, x80, x81, x82, x83, x84, x85, x86, x87, x88, x89, x90, x91, x92, x93, x94, x95, x96, x97, x98, x99, x100, x101, x102, x103, x104, x105, x106, x107, x108, x109, x110, x111, x112, x113, x114, x115, x116, x117, x118, x119, x120, x121, x122, x123, x124, x125, x126, x127], defers := [] } wa := by
  simp only [l5, lB, Ybaf.f5, Option.getD, dropC, headC, tailC, blkC, lupC, thnC, elsC]
  refine wp_region_lit ?_
  refine plgk 67 (.bool false) (by kernel_rfl) (by kernel_rfl) (by kernel_rfl) ?_
  simp only [Act.put, List.setIfInBounds_toArray, List.set_cons_zero, List.set_cons_succ]
  refine plgk 68 (.bool true) (by kernel_rfl) (by kernel_rfl) (by kernel_rfl) ?_
  simp only [Act.put, List.setIfInBounds_toArray, List.set_cons_zero, List.set_cons_succ]
  refine plgk 69 (.bool true) (by kernel_rfl) (by kernel_rfl) (by kernel_rfl) ?_
  simp only [Act.put, List.setIfInBounds_toArray, List.set_cons_zero, List.set_cons_succ]
  refine plgk 70 (.nilIface) (by kernel_rfl) (by kernel_rfl) (by kernel_rfl) ?_
  simp only [Act.put, List.setIfInBounds_toArray, List.set_cons_zero, List.set_cons_succ]
  refine plgk 71 (.bool true) (by kernel_rfl) (by kernel_rfl) (by kernel_rfl) ?_
  simp only [Act.put, List.setIfInBounds_toArray, List.set_cons_zero, List.set_cons_succ]
  refine plgk 72 (.bool true) (by kernel_rfl) (by kernel_rfl) (by kernel_rfl) ?_
  simp only [Act.put, List.setIfInBounds_toArray, List.set_cons_zero, List.set_cons_succ]
  exact wpList_nil (hK _ _ _ _ _ )

set_option maxRecDepth 100000 in
set_option maxHeartbeats 1000000 in
theorem e14c (er : Value) (wa : World) {x0 x1 x2 x3 x4 x5 x6 x7 x10 x11 x12 x13 x14 x15 x16 x17 x18 x19 x20 x21 x22 x23 x24 x25 x26 x27 x28 x29 x30 x31 x32 x33 x34 x35 x36 x37 x38 x39 x40 x41 x42 x43 x44 x45 x46 x47 x48 x49 x50 x51 x52 x53 x54 x55 x56 x57 x58 x59 x60 x61 x62 x63 x64 x65 x66 x67 x68 x69 x70 x71 x72 x73 x74 x75 x76 x77 x78 x79 x80 x81 x82 x83 x84 x85 x86 x87 x88 x89 x90 x91 x92 x93 x94 x95 x96 x97 x98 x99 x100 x101 x102 x103 x104 x105 x106 x107 x108 x109 x110 x111 x112 x113 x114 x115 x116 x117 x118 x119 x120 x121 x122 x123 x124 x125 x126 x127 : Value} (K : Act → World → Prop)
    (hK : ∀ (y67 y68 y69 y70 y71 : Value), K { tmps := #[x0, x1, x2, x3, x4, x5, x6, x7, .bool false, .iface 108 er, x10, x11, x12, x13, x14, x15, x16, x17, x18, x19, x20, x21, x22, x23, x24, x25, x26, x27, x28, x29, x30, x31, x32, x33, x34, x35, x36, x37, x38, x39, x40, x41, x42, x43, x44, x45, x46, x47, x48, x49, x50, x51, x52, x53, x54, x55, x56, x57, x58, x59, x60, x61, x62, x63, x64, x65, x66, y67, y68, y69, y70, y71, .bool false, x73, x74, x75, x76, x77, x78, x79, x80, x81, x82, x83, x84, x85, x86, x87, x88, x89, x90, x91, x92, x93, x94, x95, x96, x97, x98, x99, x100, x101, x102, x103, x104, x105, x106, x107, x108, x109, x110, x111, x112, x113, x114, x115, x116, x117, x118, x119, x120, x121, x122, x123, x124, x125, x126, x127], defers := [] } (wa)) :
    Code.wp Ybaf.prog (headC (headC (dropC 9 l5))) (only K) { tmps := #[x0, x1, x2, x3, x4, x5, x6, x7, .bool false, .iface 108 er, x10, x11, x12, x13, x14, x15, x16, x17, x18, x19, x20, x21, x22, x23, x24, x25, x26, x27, x28, x29, x30, x31, x32, x33, x34, x35, x36, x37, x38, x39, x40, x41, x42, x43, x44, x45, x46, x47, x48, x49, x50, x51, x52, x53, x54, x55, x56, x57, x58, x59, x60, x61, x62, x63, x64, x65, x66, x67, x68, x69, x70, x71, x72, x73, x74, x75, x76, x77, x78, x79, x80, x81, x82, x83, x84, x85, x86, x87, x88, x89, x90, x91, x92, x93, x94, x95, x96, x97, x98, x99, x100, x101, x102, x103, x104, x105, x106, x107, x108, x109, x110, x111, x112, x113, x114, x115, x116, x117, x118, x119, x120, x121, x122, x123, x124, x125, x126, x127], defers := [] } wa := by
  simp only [l5, lB, Ybaf.f5, Option.getD, dropC, headC, tailC, blkC, lupC, thnC, elsC]
  refine wp_region_lit ?_
  refine plgk 67 (.bool false) (by kernel_rfl) (by kernel_rfl) (by kernel_rfl) ?_
  simp only [Act.put, List.setIfInBounds_toArray, List.set_cons_zero, List.set_cons_succ]
  refine plgk 68 (.bool true) (by kernel_rfl) (by kernel_rfl) (by kernel_rfl) ?_
  simp only [Act.put, List.setIfInBounds_toArray, List.set_cons_zero, List.set_cons_succ]
  refine plgk 69 (.bool true) (by kernel_rfl) (by kernel_rfl) (by kernel_rfl) ?_
  simp only [Act.put, List.setIfInBounds_toArray, List.set_cons_zero, List.set_cons_succ]
  refine plgk 70 (.iface 108 er) (by kernel_rfl) (by kernel_rfl) (by kernel_rfl) ?_
  simp only [Act.put, List.setIfInBounds_toArray, List.set_cons_zero, List.set_cons_succ]
  refine plgk 71 (.bool false) (by kernel_rfl) (by kernel_rfl) (by kernel_rfl) ?_
  simp only [Act.put, List.setIfInBounds_toArray, List.set_cons_zero, List.set_cons_succ]
  refine plgk 72 (.bool false) (by kernel_rfl) (by kernel_rfl) (by kernel_rfl) ?_
  simp only [Act.put, List.setIfInBounds_toArray, List.set_cons_zero, List.set_cons_succ]
  exact wpList_nil (hK _ _ _ _ _ )

set_option maxRecDepth 100000 in
set_option maxHeartbeats 1000000 in
theorem e15 (NP : Nat) (wa : World) (hp : wa.heap[NP]? = some (.cells zpk 67 (0, 0))) {x0 x1 x2 x3 x4 x5 x6 x8 x9 x10 x11 x12 x13 x14 x15 x16 x17 x18 x19 x20 x21 x22 x23 x24 x25 x26 x27 x28 x29 x30 x31 x32 x33 x34 x35 x36 x37 x38 x39 x40 x41 x42 x43 x44 x45 x46 x47 x48 x49 x50 x51 x52 x53 x54 x55 x56 x57 x58 x59 x60 x61 x62 x63 x64 x65 x66 x67 x68 x69 x70 x71 x72 x73 x74 x75 x76 x77 x78 x79 x80 x81 x82 x83 x84 x85 x86 x87 x88 x89 x90 x91 x92 x93 x94 x95 x96 x97 x98 x99 x100 x101 x102 x103 x104 x105 x106 x107 x108 x109 x110 x111 x112 x113 x114 x115 x116 x117 x118 x119 x120 x121 x122 x123 x124 x125 x126 x127 : Value} (K : Act → World → Prop)
    (hK : ∀ (y73 y74 : Value) (wy : World), Below wa.heap.size wa wy → K { tmps := #[x0, x1, x2, x3, .bool true, x5, x6, .pointer (some ⟨NP, 0, none⟩), x8, x9, x10, x11, x12, x13, x14, x15, x16, x17, x18, x19, x20, x21, x22, x23, x24, x25, x26, x27, x28, x29, x30, x31, x32, x33, x34, x35, x36, x37, x38, x39, x40, x41, x42, x43, x44, x45, x46, x47, x48, x49, x50, x51, x52, x53, x54, x55, x56, x57, x58, x59, x60, x61, x62, x63, x64, x65, x66, x67, x68, x69, x70, x71, x72, y73, y74, x75, x76, x77, x78, x79, x80, x81, x82, x83, x84, x85, x86, x87, x88, x89, x90, x91, x92, x93, x94, x95, x96, x97, x98, x99, x100, x101, x102, x103, x104, x105, x106, x107, x108, x109, x110, x111, x112, x113, x114, x115, x116, x117, x118, x119, x120, x121, x122, x123, x124, x125, x126, x127], defers := [] } (wy)) :
    Code.wp Ybaf.prog (headC (thnC (tailC (headC (dropC 9 l5))))) (only K) { tmps := #[x0, x1, x2, x3, x4, x5, x6, .pointer (some ⟨NP, 0, none⟩), x8, x9, x10, x11, x12, x13, x14, x15, x16, x17, x18, x19, x20, x21, x22, x23, x24, x25, x26, x27, x28, x29, x30, x31, x32, x33, x34, x35, x36, x37, x38, x39, x40, x41, x42, x43, x44, x45, x46, x47, x48, x49, x50, x51, x52, x53, x54, x55, x56, x57, x58, x59, x60, x61, x62, x63, x64, x65, x66, x67, x68, x69, x70, x71, x72, x73, x74, x75, x76, x77, x78, x79, x80, x81, x82, x83, x84, x85, x86, x87, x88, x89, x90, x91, x92, x93, x94, x95, x96, x97, x98, x99, x100, x101, x102, x103, x104, x105, x106, x107, x108, x109, x110, x111, x112, x113, x114, x115, x116, x117, x118, x119, x120, x121, x122, x123, x124, x125, x126, x127], defers := [] } wa := by
  simp only [l5, lB, Ybaf.f5, Option.getD, dropC, headC, tailC, blkC, lupC, thnC, elsC]
  refine wp_region_lit ?_
  refine plg 73 (by kernel_rfl) (by kernel_rfl) (ex_load (x := .tmp 7) (t := 67) (by kernel_rfl) (by kernel_rfl) (ld67 hp)) ?_
  simp only [Act.put, List.setIfInBounds_toArray, List.set_cons_zero, List.set_cons_succ]
  refine plcg 74 (f := 15) (args := #[.agg zpk]) (by kernel_rfl) (by kernel_rfl) (by kernel_rfl) zeroR ?_
  rintro v x ⟨rfl, bx⟩
  simp only [Act.put, List.setIfInBounds_toArray, List.set_cons_zero, List.set_cons_succ]
  refine plgk 4 (.bool true) (by kernel_rfl) (by kernel_rfl) (by kernel_rfl) ?_
  simp only [Act.put, List.setIfInBounds_toArray, List.set_cons_zero, List.set_cons_succ]
  exact wpList_nil (hK _ _  x bx)
theorem adsR {args : Array Value} {w : World} (h : Calls Ybaf.prog 17 args w fun e w' => e = .returned (.bool true) ∧ Below w.heap.size w w') : Calls Ybaf.prog 17 args w fun e w' => ∃ v, e = .returned v ∧ (v = .bool true ∧ Below w.heap.size w w') :=
  h.mono fun _ _ ⟨h1, h2⟩ => ⟨_, h1, rfl, h2⟩

set_option maxRecDepth 100000 in
set_option maxHeartbeats 1000000 in
theorem e16 (C : Nat → Nat) (zp t : Option Addr) (tn tc : Nat) (len : Int) (gb n cap NP : Nat) (wa : World) (h40 : 40 ≤ n) (hcap : n ≤ cap) (hC : ∀ k, k < n → wa.cell? ⟨gb, k, none⟩ = some (.int .u8 ((C k : Nat) : Int)) ∧ C k ≤ 255) (hp : wa.heap[NP]? = some (.cells (hdr C zp t tn tc len) 67 (0, 0))) {x0 x1 x2 x3 x4 x6 x8 x9 x10 x11 x12 x13 x14 x15 x16 x17 x18 x19 x20 x21 x22 x23 x24 x25 x26 x27 x28 x29 x30 x31 x32 x33 x34 x35 x36 x37 x38 x39 x40 x41 x42 x43 x44 x45 x46 x47 x48 x49 x50 x51 x52 x53 x54 x55 x56 x57 x58 x59 x60 x61 x62 x63 x64 x65 x66 x67 x68 x69 x70 x71 x72 x73 x74 x75 x76 x77 x78 x79 x80 x81 x82 x83 x84 x85 x86 x87 x88 x89 x90 x91 x92 x93 x94 x95 x96 x97 x98 x99 x100 x101 x102 x103 x104 x105 x106 x107 x108 x109 x110 x111 x112 x113 x114 x115 x116 x117 x118 x119 x120 x121 x122 x123 x124 x125 x126 x127 : Value} (K : Act → World → Prop)
    (hK : ∀ (y75 y76 y77 y78 y79 y80 : Value) (wy : World), Below wa.heap.size wa wy → K { tmps := #[x0, x1, x2, x3, x4, .slice (some ⟨gb, 0, none⟩) n cap, x6, .pointer (some ⟨NP, 0, none⟩), x8, x9, x10, x11, x12, x13, x14, x15, x16, x17, x18, x19, x20, x21, x22, x23, x24, x25, x26, x27, x28, x29, x30, x31, x32, x33, x34, x35, x36, x37, x38, x39, x40, x41, x42, x43, x44, x45, x46, x47, x48, x49, x50, x51, x52, x53, x54, x55, x56, x57, x58, x59, x60, x61, x62, x63, x64, x65, x66, x67, x68, x69, x70, x71, x72, x73, x74, y75, y76, y77, y78, y79, y80, .bool false, x82, x83, x84, x85, x86, x87, x88, x89, x90, x91, x92, x93, x94, x95, x96, x97, x98, x99, x100, x101, x102, x103, x104, x105, x106, x107, x108, x109, x110, x111, x112, x113, x114, x115, x116, x117, x118, x119, x120, x121, x122, x123, x124, x125, x126, x127], defers := [] } (wy)) :
    Code.wp Ybaf.prog (headC (headC (dropC 10 l5))) (only K) { tmps := #[x0, x1, x2, x3, x4, .slice (some ⟨gb, 0, none⟩) n cap, x6, .pointer (some ⟨NP, 0, none⟩), x8, x9, x10, x11, x12, x13, x14, x15, x16, x17, x18, x19, x20, x21, x22, x23, x24, x25, x26, x27, x28, x29, x30, x31, x32, x33, x34, x35, x36, x37, x38, x39, x40, x41, x42, x43, x44, x45, x46, x47, x48, x49, x50, x51, x52, x53, x54, x55, x56, x57, x58, x59, x60, x61, x62, x63, x64, x65, x66, x67, x68, x69, x70, x71, x72, x73, x74, x75, x76, x77, x78, x79, x80, x81, x82, x83, x84, x85, x86, x87, x88, x89, x90, x91, x92, x93, x94, x95, x96, x97, x98, x99, x100, x101, x102, x103, x104, x105, x106, x107, x108, x109, x110, x111, x112, x113, x114, x115, x116, x117, x118, x119, x120, x121, x122, x123, x124, x125, x126, x127], defers := [] } wa := by
  have hX : ∀ lo, lo + 16 ≤ n → ∀ k, k < 16 → C (lo + k) ≤ 255 := fun lo hlo k hk => (hC (lo + k) (by omega)).2
  simp only [l5, lB, Ybaf.f5, Option.getD, dropC, headC, tailC, blkC, lupC, thnC, elsC]
  refine wp_region_any (by kernel_rfl) ?_
  change wpAny _ _ _ _ _ _ _ (World.drew _)
  refine anyT 76 (i := 1) (v := .slice (some ⟨gb, 0, none⟩) n cap) rfl (by kernel_rfl) (by kernel_rfl) (by kernel_rfl) (fun _ _ _ h => h) (by kernel_rfl) (by kernel_rfl) (fun w => by kernel_rfl) ?_
  simp only [Act.put, List.setIfInBounds_toArray, List.set_cons_zero, List.set_cons_succ]
  refine anyT 77 (i := 2) (v := .slice (some ⟨gb, 0 + 8, none⟩) 16 (cap - 8)) rfl (by kernel_rfl) (by kernel_rfl) (by kernel_rfl) (fun _ _ _ h => h) (by kernel_rfl) (by kernel_rfl) (fun w => ex_slice2 (x := .tmp 76) (l := .const (.int .i64 8)) (h := .const (.int .i64 24)) (t := 53) (by kernel_rfl) (by kernel_rfl) (by kernel_rfl) (by kernel_rfl) (sl53a (b := gb) (off := 0) (n := n) (by omega) w)) ?_
  simp only [Act.put, List.setIfInBounds_toArray, List.set_cons_zero, List.set_cons_succ]
  refine anyT 78 (i := 3) (v := .slice (some ⟨gb, 0, none⟩) n cap) rfl (by kernel_rfl) (by kernel_rfl) (by kernel_rfl) (fun _ _ _ h => h) (by kernel_rfl) (by kernel_rfl) (fun w => by kernel_rfl) ?_
  simp only [Act.put, List.setIfInBounds_toArray, List.set_cons_zero, List.set_cons_succ]
  refine anyT 79 (i := 4) (v := .slice (some ⟨gb, 0 + 24, none⟩) 16 (cap - 24)) rfl (by kernel_rfl) (by kernel_rfl) (by kernel_rfl) (fun _ _ _ h => h) (by kernel_rfl) (by kernel_rfl) (fun w => ex_slice2 (x := .tmp 78) (l := .const (.int .i64 24)) (h := .const (.int .i64 40)) (t := 53) (by kernel_rfl) (by kernel_rfl) (by kernel_rfl) (by kernel_rfl) (sl53b (b := gb) (off := 0) (n := n) (by omega) w)) ?_
  simp only [Act.put, List.setIfInBounds_toArray, List.set_cons_zero, List.set_cons_succ]
  refine any1 75 (i := 0) (by kernel_rfl) rfl (by kernel_rfl) (by kernel_rfl) (ex_load (x := .tmp 7) (t := 67) (by kernel_rfl) (by kernel_rfl) (ld67 (w := wa.drew) hp)) ?_
  simp only [Act.put, List.setIfInBounds_toArray, List.set_cons_zero, List.set_cons_succ]
  refine any1c 80 (i := 5) (f := 17) (args := #[.agg (pkt ((be (fun k => C (8 + k)) : Nat) : Int) ((be (fun k => C (8 + (k + 8))) : Nat) : Int) zp ((be (fun k => C (24 + k)) : Nat) : Int) ((be (fun k => C (24 + (k + 8))) : Nat) : Int) zp t tn tc len), .slice (some ⟨gb, 0 + 8, none⟩) 16 (cap - 8), .slice (some ⟨gb, 0 + 24, none⟩) 16 (cap - 24)]) (by kernel_rfl) rfl (by kernel_rfl) (by kernel_rfl) (by kernel_rfl) (adsR (addrs_any (fun k => C (8 + k)) (fun k => C (24 + k)) zp zp t tn tc len gb (0 + 8) (cap - 8) gb (0 + 24) (cap - 24) wa.drew (hX 8 (by omega)) (hX 24 (by omega)) (fun k hk => by rw [show 0 + 8 + k = 8 + k from by omega]; exact (hC (8 + k) (by omega)).1) (fun k hk => by rw [show 0 + 24 + k = 24 + k from by omega]; exact (hC (24 + k) (by omega)).1))) ?_
  rintro v x ⟨rfl, bx⟩
  simp only [Act.put, List.setIfInBounds_toArray, List.set_cons_zero, List.set_cons_succ]
  refine any1k 81 (.bool false) (i := 6) (by kernel_rfl) rfl (by kernel_rfl) (by kernel_rfl) (by kernel_rfl) ?_
  simp only [Act.put, List.setIfInBounds_toArray, List.set_cons_zero, List.set_cons_succ]
  exact wpAny_done (by kernel_rfl) (hK _ _ _ _ _ _  x ⟨bx.os, bx.tape, bx.output, bx.size, bx.block⟩) _

set_option maxRecDepth 100000 in
set_option maxHeartbeats 1000000 in
theorem e18 (ok : Bool) (wa : World) {x0 x1 x2 x3 x4 x5 x6 x7 x9 x10 x11 x12 x13 x14 x15 x16 x17 x18 x19 x20 x21 x22 x23 x24 x25 x26 x27 x28 x29 x30 x31 x32 x33 x34 x35 x36 x37 x38 x39 x40 x41 x42 x43 x44 x45 x46 x47 x48 x49 x50 x51 x52 x53 x54 x55 x56 x57 x58 x59 x60 x61 x62 x63 x64 x65 x66 x67 x68 x69 x70 x71 x72 x73 x74 x75 x76 x77 x78 x79 x80 x81 x82 x83 x84 x85 x86 x87 x88 x89 x90 x91 x92 x93 x94 x95 x96 x97 x98 x99 x100 x101 x102 x103 x104 x105 x106 x107 x108 x109 x110 x111 x112 x113 x114 x115 x116 x117 x118 x119 x120 x121 x122 x123 x124 x125 x126 x127 : Value} (K : Act → World → Prop)
    (hK : K { tmps := #[x0, x1, x2, x3, x4, x5, x6, x7, .bool ok, x9, x10, x11, x12, x13, x14, x15, x16, x17, x18, x19, x20, x21, x22, x23, x24, x25, x26, x27, x28, x29, x30, x31, x32, x33, x34, x35, x36, x37, x38, x39, x40, x41, x42, x43, x44, x45, x46, x47, x48, x49, x50, x51, x52, x53, x54, x55, x56, x57, x58, x59, x60, x61, x62, x63, x64, x65, x66, x67, x68, x69, x70, x71, x72, x73, x74, x75, x76, x77, x78, x79, x80, x81, .bool ok, x83, x84, x85, x86, x87, x88, x89, x90, x91, x92, x93, x94, x95, x96, x97, x98, x99, x100, x101, x102, x103, x104, x105, x106, x107, x108, x109, x110, x111, x112, x113, x114, x115, x116, x117, x118, x119, x120, x121, x122, x123, x124, x125, x126, x127], defers := [] } (wa)) :
    Code.wp Ybaf.prog (headC (headC (dropC 11 l5))) (only K) { tmps := #[x0, x1, x2, x3, x4, x5, x6, x7, .bool ok, x9, x10, x11, x12, x13, x14, x15, x16, x17, x18, x19, x20, x21, x22, x23, x24, x25, x26, x27, x28, x29, x30, x31, x32, x33, x34, x35, x36, x37, x38, x39, x40, x41, x42, x43, x44, x45, x46, x47, x48, x49, x50, x51, x52, x53, x54, x55, x56, x57, x58, x59, x60, x61, x62, x63, x64, x65, x66, x67, x68, x69, x70, x71, x72, x73, x74, x75, x76, x77, x78, x79, x80, x81, x82, x83, x84, x85, x86, x87, x88, x89, x90, x91, x92, x93, x94, x95, x96, x97, x98, x99, x100, x101, x102, x103, x104, x105, x106, x107, x108, x109, x110, x111, x112, x113, x114, x115, x116, x117, x118, x119, x120, x121, x122, x123, x124, x125, x126, x127], defers := [] } wa := by
  have HK := hid hK
  clear hK
  simp only [l5, lB, Ybaf.f5, Option.getD, dropC, headC, tailC, blkC, lupC, thnC, elsC]
  go_wp2_with fail
  exact HK.out 

set_option maxRecDepth 100000 in
set_option maxHeartbeats 1000000 in
theorem e19 (h1 l1 : Int) (p : Option Addr) (h2 l2 : Int) (q t : Option Addr) (tn tc : Nat) (len : Int) (NP : Nat) (wa : World) (hp : wa.heap[NP]? = some (.cells (pkt h1 l1 p h2 l2 q t tn tc len) 67 (0, 0))) (a0 : Option Addr) (n c : Nat) (h : tn + 40 ≤ n) (hn : n ≤ 4096) {x0 x1 x2 x3 x4 x6 x8 x9 x10 x11 x12 x13 x14 x15 x16 x17 x18 x19 x20 x21 x22 x23 x24 x25 x26 x27 x28 x29 x30 x31 x32 x33 x34 x35 x36 x37 x38 x39 x40 x41 x42 x43 x44 x45 x46 x47 x48 x49 x50 x51 x52 x53 x54 x55 x56 x57 x58 x59 x60 x61 x62 x63 x64 x65 x66 x67 x68 x69 x70 x71 x72 x73 x74 x75 x76 x77 x78 x79 x80 x81 x82 x83 x84 x85 x86 x87 x88 x89 x90 x91 x92 x93 x94 x95 x96 x97 x98 x99 x100 x101 x102 x103 x104 x105 x106 x107 x108 x109 x110 x111 x112 x113 x114 x115 x116 x117 x118 x119 x120 x121 x122 x123 x124 x125 x126 x127 : Value} (K : Act → World → Prop)
    (hK : ∀ (y83 y84 y85 y86 y87 y88 : Value), K { tmps := #[x0, x1, x2, x3, x4, .slice a0 n c, x6, .pointer (some ⟨NP, 0, none⟩), x8, x9, x10, x11, x12, x13, x14, x15, x16, x17, x18, x19, x20, x21, x22, x23, x24, x25, x26, x27, x28, x29, x30, x31, x32, x33, x34, x35, x36, x37, x38, x39, x40, x41, x42, x43, x44, x45, x46, x47, x48, x49, x50, x51, x52, x53, x54, x55, x56, x57, x58, x59, x60, x61, x62, x63, x64, x65, x66, x67, x68, x69, x70, x71, x72, x73, x74, x75, x76, x77, x78, x79, x80, x81, x82, y83, y84, y85, y86, y87, y88, .bool false, x90, x91, x92, x93, x94, x95, x96, x97, x98, x99, x100, x101, x102, x103, x104, x105, x106, x107, x108, x109, x110, x111, x112, x113, x114, x115, x116, x117, x118, x119, x120, x121, x122, x123, x124, x125, x126, x127], defers := [] } (wa)) :
    Code.wp Ybaf.prog (headC (headC lB)) (only K) { tmps := #[x0, x1, x2, x3, x4, .slice a0 n c, x6, .pointer (some ⟨NP, 0, none⟩), x8, x9, x10, x11, x12, x13, x14, x15, x16, x17, x18, x19, x20, x21, x22, x23, x24, x25, x26, x27, x28, x29, x30, x31, x32, x33, x34, x35, x36, x37, x38, x39, x40, x41, x42, x43, x44, x45, x46, x47, x48, x49, x50, x51, x52, x53, x54, x55, x56, x57, x58, x59, x60, x61, x62, x63, x64, x65, x66, x67, x68, x69, x70, x71, x72, x73, x74, x75, x76, x77, x78, x79, x80, x81, x82, x83, x84, x85, x86, x87, x88, x89, x90, x91, x92, x93, x94, x95, x96, x97, x98, x99, x100, x101, x102, x103, x104, x105, x106, x107, x108, x109, x110, x111, x112, x113, x114, x115, x116, x117, x118, x119, x120, x121, x122, x123, x124, x125, x126, x127], defers := [] } wa := by
  have c6 : wa.cell? ⟨NP, 6, none⟩ = some (.slice t tn tc) := by rw [cell_of_row _ _ 6 _ 67 (0, 0) hp]; rfl
  have c7 : wa.cell? ⟨NP, 7, none⟩ = some (.int .i64 len) := by rw [cell_of_row _ _ 7 _ 67 (0, 0) hp]; rfl
  have lp : NP < wa.heap.size := (Array.getElem?_eq_some_iff.1 hp).1
  clear hp
  have d0 : decide ((n : Int) - 40 < (tn : Int)) = false := by simp; omega
  have HK := hid hK
  clear hK
  simp only [l5, lB, Ybaf.f5, Option.getD, dropC, headC, tailC, blkC, lupC, thnC, elsC]
  go_wp2_with fail
  exact HK.out _ _ _ _ _ _ 

set_option maxRecDepth 100000 in
set_option maxHeartbeats 1000000 in
theorem e21 (h1 l1 : Int) (p : Option Addr) (h2 l2 : Int) (q t : Option Addr) (tn tc : Nat) (len : Int) (NP : Nat) (wa : World) (hp : wa.heap[NP]? = some (.cells (pkt h1 l1 p h2 l2 q t tn tc len) 67 (0, 0))) (a0 : Option Addr) (n c o : Nat) (h : tn + o = n) (hn : n ≤ 4096) {x0 x1 x2 x3 x4 x6 x8 x9 x10 x11 x12 x13 x14 x15 x16 x17 x18 x19 x20 x21 x22 x23 x24 x25 x26 x27 x28 x29 x30 x31 x32 x33 x34 x35 x36 x37 x38 x39 x40 x41 x42 x43 x44 x45 x46 x47 x48 x49 x50 x51 x52 x53 x54 x55 x56 x57 x58 x59 x60 x61 x62 x63 x64 x65 x66 x67 x68 x69 x70 x71 x72 x73 x74 x75 x76 x77 x78 x79 x80 x81 x82 x83 x84 x85 x86 x87 x88 x89 x90 x91 x92 x93 x94 x95 x96 x97 x98 x99 x100 x101 x102 x103 x104 x105 x106 x107 x108 x109 x110 x111 x112 x113 x114 x115 x116 x117 x118 x119 x120 x121 x122 x123 x124 x125 x126 x127 : Value} (K : Act → World → Prop)
    (hK : ∀ (y90 y91 y92 y93 y94 y95 : Value), K { tmps := #[x0, x1, x2, x3, x4, .slice a0 n c, x6, .pointer (some ⟨NP, 0, none⟩), x8, x9, .int .i64 ((o : Nat) : Int), x11, x12, x13, x14, x15, x16, x17, x18, x19, x20, x21, x22, x23, x24, x25, x26, x27, x28, x29, x30, x31, x32, x33, x34, x35, x36, x37, x38, x39, x40, x41, x42, x43, x44, x45, x46, x47, x48, x49, x50, x51, x52, x53, x54, x55, x56, x57, x58, x59, x60, x61, x62, x63, x64, x65, x66, x67, x68, x69, x70, x71, x72, x73, x74, x75, x76, x77, x78, x79, x80, x81, x82, x83, x84, x85, x86, x87, x88, x89, y90, y91, y92, y93, y94, y95, x96, x97, x98, x99, x100, x101, x102, x103, x104, x105, x106, x107, x108, x109, x110, x111, x112, x113, x114, x115, x116, x117, x118, x119, x120, x121, x122, x123, x124, x125, x126, x127], defers := [] } (wa)) :
    Code.wp Ybaf.prog (headC (dropC 1 lB)) (only K) { tmps := #[x0, x1, x2, x3, x4, .slice a0 n c, x6, .pointer (some ⟨NP, 0, none⟩), x8, x9, x10, x11, x12, x13, x14, x15, x16, x17, x18, x19, x20, x21, x22, x23, x24, x25, x26, x27, x28, x29, x30, x31, x32, x33, x34, x35, x36, x37, x38, x39, x40, x41, x42, x43, x44, x45, x46, x47, x48, x49, x50, x51, x52, x53, x54, x55, x56, x57, x58, x59, x60, x61, x62, x63, x64, x65, x66, x67, x68, x69, x70, x71, x72, x73, x74, x75, x76, x77, x78, x79, x80, x81, x82, x83, x84, x85, x86, x87, x88, x89, x90, x91, x92, x93, x94, x95, x96, x97, x98, x99, x100, x101, x102, x103, x104, x105, x106, x107, x108, x109, x110, x111, x112, x113, x114, x115, x116, x117, x118, x119, x120, x121, x122, x123, x124, x125, x126, x127], defers := [] } wa := by
  have c6 : wa.cell? ⟨NP, 6, none⟩ = some (.slice t tn tc) := by rw [cell_of_row _ _ 6 _ 67 (0, 0) hp]; rfl
  have c7 : wa.cell? ⟨NP, 7, none⟩ = some (.int .i64 len) := by rw [cell_of_row _ _ 7 _ 67 (0, 0) hp]; rfl
  have lp : NP < wa.heap.size := (Array.getElem?_eq_some_iff.1 hp).1
  clear hp
  have e0 : (n : Int) - (tn : Int) = (o : Int) := by omega
  have HK := hid hK
  clear hK
  simp only [l5, lB, Ybaf.f5, Option.getD, dropC, headC, tailC, blkC, lupC, thnC, elsC]
  go_wp2_with fail
  exact HK.out _ _ _ _ _ _ 

set_option maxRecDepth 100000 in
set_option maxHeartbeats 1000000 in
theorem e22 (h1 l1 : Int) (p : Option Addr) (h2 l2 : Int) (q t : Option Addr) (tn tc : Nat) (len : Int) (NP : Nat) (wa : World) (hp : wa.heap[NP]? = some (.cells (pkt h1 l1 p h2 l2 q t tn tc len) 67 (0, 0))) (gb n cap o : Nat) (ho : o ≤ n) (hcap : n ≤ cap) (s : ByteArray) (q1 : (convert 53 9 (.slice t tn tc)).run Ybaf.prog wa.drew = .ok (.string s) wa.drew) (q2 : (convert 53 9 (.slice (some ⟨gb, 0 + sh cap o, none⟩) (n - o) (cap - o))).run Ybaf.prog wa.drew = .ok (.string s) wa.drew) {x0 x1 x2 x3 x4 x6 x8 x9 x11 x12 x13 x14 x15 x16 x17 x18 x19 x20 x21 x22 x23 x24 x25 x26 x27 x28 x29 x30 x31 x32 x33 x34 x35 x36 x37 x38 x39 x40 x41 x42 x43 x44 x45 x46 x47 x48 x49 x50 x51 x52 x53 x54 x55 x56 x57 x58 x59 x60 x61 x62 x63 x64 x65 x66 x67 x68 x69 x70 x71 x72 x73 x74 x75 x76 x77 x78 x79 x80 x81 x82 x83 x84 x85 x86 x87 x88 x89 x90 x91 x92 x93 x94 x95 x96 x97 x98 x99 x100 x101 x102 x103 x104 x105 x106 x107 x108 x109 x110 x111 x112 x113 x114 x115 x116 x117 x118 x119 x120 x121 x122 x123 x124 x125 x126 x127 : Value} (K : Act → World → Prop)
    (hK : ∀ (y96 y97 y98 y99 y100 y101 : Value), K { tmps := #[x0, x1, x2, x3, x4, .slice (some ⟨gb, 0, none⟩) n cap, x6, .pointer (some ⟨NP, 0, none⟩), x8, x9, .int .i64 ((o : Nat) : Int), x11, x12, x13, x14, x15, x16, x17, x18, x19, x20, x21, x22, x23, x24, x25, x26, x27, x28, x29, x30, x31, x32, x33, x34, x35, x36, x37, x38, x39, x40, x41, x42, x43, x44, x45, x46, x47, x48, x49, x50, x51, x52, x53, x54, x55, x56, x57, x58, x59, x60, x61, x62, x63, x64, x65, x66, x67, x68, x69, x70, x71, x72, x73, x74, x75, x76, x77, x78, x79, x80, x81, x82, x83, x84, x85, x86, x87, x88, x89, x90, x91, x92, x93, x94, x95, y96, y97, y98, y99, y100, y101, .bool false, x103, x104, x105, x106, x107, x108, x109, x110, x111, x112, x113, x114, x115, x116, x117, x118, x119, x120, x121, x122, x123, x124, x125, x126, x127], defers := [] } (wa.drew)) :
    Code.wp Ybaf.prog (headC (headC (dropC 2 lB))) (only K) { tmps := #[x0, x1, x2, x3, x4, .slice (some ⟨gb, 0, none⟩) n cap, x6, .pointer (some ⟨NP, 0, none⟩), x8, x9, .int .i64 ((o : Nat) : Int), x11, x12, x13, x14, x15, x16, x17, x18, x19, x20, x21, x22, x23, x24, x25, x26, x27, x28, x29, x30, x31, x32, x33, x34, x35, x36, x37, x38, x39, x40, x41, x42, x43, x44, x45, x46, x47, x48, x49, x50, x51, x52, x53, x54, x55, x56, x57, x58, x59, x60, x61, x62, x63, x64, x65, x66, x67, x68, x69, x70, x71, x72, x73, x74, x75, x76, x77, x78, x79, x80, x81, x82, x83, x84, x85, x86, x87, x88, x89, x90, x91, x92, x93, x94, x95, x96, x97, x98, x99, x100, x101, x102, x103, x104, x105, x106, x107, x108, x109, x110, x111, x112, x113, x114, x115, x116, x117, x118, x119, x120, x121, x122, x123, x124, x125, x126, x127], defers := [] } wa := by
  have c6 : wa.cell? ⟨NP, 6, none⟩ = some (.slice t tn tc) := by rw [cell_of_row _ _ 6 _ 67 (0, 0) hp]; rfl
  have c7 : wa.cell? ⟨NP, 7, none⟩ = some (.int .i64 len) := by rw [cell_of_row _ _ 7 _ 67 (0, 0) hp]; rfl
  have lp : NP < wa.heap.size := (Array.getElem?_eq_some_iff.1 hp).1
  clear hp
  simp only [l5, lB, Ybaf.f5, Option.getD, dropC, headC, tailC, blkC, lupC, thnC, elsC]
  refine wp_region_any (by kernel_rfl) ?_
  change wpAny _ _ _ _ _ _ _ (World.drew _)
  refine anyT 96 (i := 0) (v := .pointer (some ⟨NP, 6, none⟩)) rfl (by kernel_rfl) (by kernel_rfl) (by kernel_rfl) (fun _ _ _ h => h) (by kernel_rfl) (by kernel_rfl) (fun w => ex_field (x := .tmp 7) (i := 2) (t := 67) (by kernel_rfl) (by kernel_rfl) (fa67_2 NP w)) ?_
  simp only [Act.put, List.setIfInBounds_toArray, List.set_cons_zero, List.set_cons_succ]
  refine anyT 98 (i := 2) (v := .slice (some ⟨gb, 0, none⟩) n cap) rfl (by kernel_rfl) (by kernel_rfl) (by kernel_rfl) (fun _ _ _ h => h) (by kernel_rfl) (by kernel_rfl) (fun w => by kernel_rfl) ?_
  simp only [Act.put, List.setIfInBounds_toArray, List.set_cons_zero, List.set_cons_succ]
  refine anyT 99 (i := 3) (v := .int .i64 ((o : Nat) : Int)) rfl (by kernel_rfl) (by kernel_rfl) (by kernel_rfl) (fun _ _ _ h => h) (by kernel_rfl) (by kernel_rfl) (fun w => by kernel_rfl) ?_
  simp only [Act.put, List.setIfInBounds_toArray, List.set_cons_zero, List.set_cons_succ]
  refine anyT 100 (i := 4) (v := .slice (some ⟨gb, 0 + sh cap o, none⟩) (n - o) (cap - o)) rfl (by kernel_rfl) (by kernel_rfl) (by kernel_rfl) (fun _ _ _ h => h) (by kernel_rfl) (by kernel_rfl) (fun w => ex_slice (x := .tmp 98) (l := .tmp 99) (t := 53) (by kernel_rfl) (by kernel_rfl) (by kernel_rfl) (sl53lo (b := gb) (off := 0) ho hcap w)) ?_
  simp only [Act.put, List.setIfInBounds_toArray, List.set_cons_zero, List.set_cons_succ]
  refine any1 97 (i := 1) (by kernel_rfl) rfl (by kernel_rfl) (by kernel_rfl) (ex_load (x := .tmp 96) (t := 53) (by kernel_rfl) (by kernel_rfl) (ld53 (w := wa.drew) c6)) ?_
  simp only [Act.put, List.setIfInBounds_toArray, List.set_cons_zero, List.set_cons_succ]
  refine any1c 101 (i := 5) (f := 18) (args := #[.slice t tn tc, .slice (some ⟨gb, 0 + sh cap o, none⟩) (n - o) (cap - o)]) (by kernel_rfl) rfl (by kernel_rfl) (by kernel_rfl) (by kernel_rfl) (eqR (w := wa.drew) q1 q2) ?_
  rintro v x ⟨rfl, rfl⟩
  simp only [Act.put, List.setIfInBounds_toArray, List.set_cons_zero, List.set_cons_succ]
  refine any1k 102 (.bool false) (i := 6) (by kernel_rfl) rfl (by kernel_rfl) (by kernel_rfl) (by kernel_rfl) ?_
  simp only [Act.put, List.setIfInBounds_toArray, List.set_cons_zero, List.set_cons_succ]
  exact wpAny_done (by kernel_rfl) (hK _ _ _ _ _ _ ) _

set_option maxRecDepth 100000 in
set_option maxHeartbeats 1000000 in
theorem e24 (gb n cap x y : Nat) (wa : World) (hn : 40 ≤ n) (h4 : wa.cell? ⟨gb, 4, none⟩ = some (.int .u8 (x : Nat))) (h5 : wa.cell? ⟨gb, 5, none⟩ = some (.int .u8 (y : Nat))) (hx : x ≤ 255) (hy : y ≤ 255) {x0 x1 x2 x3 x4 x6 x7 x8 x9 x10 x11 x12 x13 x14 x15 x16 x17 x18 x19 x20 x21 x22 x23 x24 x25 x26 x27 x28 x29 x30 x31 x32 x33 x34 x35 x36 x37 x38 x39 x40 x41 x42 x43 x44 x45 x46 x47 x48 x49 x50 x51 x52 x53 x54 x55 x56 x57 x58 x59 x60 x61 x62 x63 x64 x65 x66 x67 x68 x69 x70 x71 x72 x73 x74 x75 x76 x77 x78 x79 x80 x81 x82 x83 x84 x85 x86 x87 x88 x89 x90 x91 x92 x93 x94 x95 x96 x97 x98 x99 x100 x101 x102 x103 x104 x105 x106 x107 x108 x109 x110 x111 x112 x113 x114 x115 x116 x117 x118 x119 x120 x121 x122 x123 x124 x125 x126 x127 : Value} (K : Act → World → Prop)
    (hK : ∀ (y103 y104 y105 y106 y107 y108 y109 y110 y111 y112 : Value) (nq : Nat), K { tmps := #[x0, x1, x2, x3, x4, .slice (some ⟨gb, 0, none⟩) n cap, x6, x7, x8, x9, x10, .int .i64 ((x * 256 + y : Nat) : Int), x12, x13, x14, x15, x16, x17, x18, x19, x20, x21, x22, x23, x24, x25, x26, x27, x28, x29, x30, x31, x32, x33, x34, x35, x36, x37, x38, x39, x40, x41, x42, x43, x44, x45, x46, x47, x48, x49, x50, x51, x52, x53, x54, x55, x56, x57, x58, x59, x60, x61, x62, x63, x64, x65, x66, x67, x68, x69, x70, x71, x72, x73, x74, x75, x76, x77, x78, x79, x80, x81, x82, x83, x84, x85, x86, x87, x88, x89, x90, x91, x92, x93, x94, x95, x96, x97, x98, x99, x100, x101, x102, y103, y104, y105, y106, y107, y108, y109, y110, y111, y112, x113, x114, x115, x116, x117, x118, x119, x120, x121, x122, x123, x124, x125, x126, x127], defers := [] } (wa.drewN nq)) :
    Code.wp Ybaf.prog (headC (dropC 3 lB)) (only K) { tmps := #[x0, x1, x2, x3, x4, .slice (some ⟨gb, 0, none⟩) n cap, x6, x7, x8, x9, x10, x11, x12, x13, x14, x15, x16, x17, x18, x19, x20, x21, x22, x23, x24, x25, x26, x27, x28, x29, x30, x31, x32, x33, x34, x35, x36, x37, x38, x39, x40, x41, x42, x43, x44, x45, x46, x47, x48, x49, x50, x51, x52, x53, x54, x55, x56, x57, x58, x59, x60, x61, x62, x63, x64, x65, x66, x67, x68, x69, x70, x71, x72, x73, x74, x75, x76, x77, x78, x79, x80, x81, x82, x83, x84, x85, x86, x87, x88, x89, x90, x91, x92, x93, x94, x95, x96, x97, x98, x99, x100, x101, x102, x103, x104, x105, x106, x107, x108, x109, x110, x111, x112, x113, x114, x115, x116, x117, x118, x119, x120, x121, x122, x123, x124, x125, x126, x127], defers := [] } wa := by
  have n4 : (4 : Int) < (n : Int) := by omega
  have n5 : (5 : Int) < (n : Int) := by omega
  have e : bits .or .i64 ((x : Int) * 256) (y : Int) = ((x * 256 + y : Nat) : Int) := by
    rw [bits_join .i64 16 (by decide) (fun k h0 h1 => by simp [IntKind.wrap, IntKind.bits, IntKind.signed]; omega) 8 _ _ (by omega) (by omega) (by omega) (by omega) (by omega) (by omega)]
    omega
  have HK := hid hK
  clear hK
  simp only [l5, lB, Ybaf.f5, Option.getD, dropC, headC, tailC, blkC, lupC, thnC, elsC]
  go_quiet (fail)
  go_wp2_with fail
  exact HK.out _ _ _ _ _ _ _ _ _ _  nq

set_option maxRecDepth 100000 in
set_option maxHeartbeats 1000000 in
theorem e25 (h1 l1 : Int) (p : Option Addr) (h2 l2 : Int) (q t : Option Addr) (tn tc : Nat) (len : Int) (NP : Nat) (wa : World) (hp : wa.heap[NP]? = some (.cells (pkt h1 l1 p h2 l2 q t tn tc len) 67 (0, 0))) (P o : Nat) (hP : P ≤ 65535) (ho : o ≤ 4096) (h40 : 40 ≤ o) (hl : len = (P : Int) + 40 - (o : Int)) (hl0 : 0 ≤ len) {x0 x1 x2 x3 x4 x5 x6 x8 x9 x12 x13 x14 x15 x16 x17 x18 x19 x20 x21 x22 x23 x24 x25 x26 x27 x28 x29 x30 x31 x32 x33 x34 x35 x36 x37 x38 x39 x40 x41 x42 x43 x44 x45 x46 x47 x48 x49 x50 x51 x52 x53 x54 x55 x56 x57 x58 x59 x60 x61 x62 x63 x64 x65 x66 x67 x68 x69 x70 x71 x72 x73 x74 x75 x76 x77 x78 x79 x80 x81 x82 x83 x84 x85 x86 x87 x88 x89 x90 x91 x92 x93 x94 x95 x96 x97 x98 x99 x100 x101 x102 x103 x104 x105 x106 x107 x108 x109 x110 x111 x112 x113 x114 x115 x116 x117 x118 x119 x120 x121 x122 x123 x124 x125 x126 x127 : Value} (K : Act → World → Prop)
    (hK : ∀ (y113 y114 y115 y116 y117 y118 y119 y120 y121 y122 y123 y124 : Value), K { tmps := #[x0, x1, x2, x3, .bool true, x5, x6, .pointer (some ⟨NP, 0, none⟩), x8, x9, .int .i64 ((o : Nat) : Int), .int .i64 ((P : Nat) : Int), x12, x13, x14, x15, x16, x17, x18, x19, x20, x21, x22, x23, x24, x25, x26, x27, x28, x29, x30, x31, x32, x33, x34, x35, x36, x37, x38, x39, x40, x41, x42, x43, x44, x45, x46, x47, x48, x49, x50, x51, x52, x53, x54, x55, x56, x57, x58, x59, x60, x61, x62, x63, x64, x65, x66, x67, x68, x69, x70, x71, x72, x73, x74, x75, x76, x77, x78, x79, x80, x81, x82, x83, x84, x85, x86, x87, x88, x89, x90, x91, x92, x93, x94, x95, x96, x97, x98, x99, x100, x101, x102, x103, x104, x105, x106, x107, x108, x109, x110, x111, x112, y113, y114, y115, y116, y117, y118, y119, y120, y121, y122, y123, y124, x125, x126, x127], defers := [] } (wa)) :
    Code.wp Ybaf.prog (headC (dropC 4 lB)) (only K) { tmps := #[x0, x1, x2, x3, x4, x5, x6, .pointer (some ⟨NP, 0, none⟩), x8, x9, .int .i64 ((o : Nat) : Int), .int .i64 ((P : Nat) : Int), x12, x13, x14, x15, x16, x17, x18, x19, x20, x21, x22, x23, x24, x25, x26, x27, x28, x29, x30, x31, x32, x33, x34, x35, x36, x37, x38, x39, x40, x41, x42, x43, x44, x45, x46, x47, x48, x49, x50, x51, x52, x53, x54, x55, x56, x57, x58, x59, x60, x61, x62, x63, x64, x65, x66, x67, x68, x69, x70, x71, x72, x73, x74, x75, x76, x77, x78, x79, x80, x81, x82, x83, x84, x85, x86, x87, x88, x89, x90, x91, x92, x93, x94, x95, x96, x97, x98, x99, x100, x101, x102, x103, x104, x105, x106, x107, x108, x109, x110, x111, x112, x113, x114, x115, x116, x117, x118, x119, x120, x121, x122, x123, x124, x125, x126, x127], defers := [] } wa := by
  have c6 : wa.cell? ⟨NP, 6, none⟩ = some (.slice t tn tc) := by rw [cell_of_row _ _ 6 _ 67 (0, 0) hp]; rfl
  have c7 : wa.cell? ⟨NP, 7, none⟩ = some (.int .i64 len) := by rw [cell_of_row _ _ 7 _ 67 (0, 0) hp]; rfl
  have lp : NP < wa.heap.size := (Array.getElem?_eq_some_iff.1 hp).1
  clear hp
  have e0 : len = (P : Int) - ((o : Int) - 40) := by omega
  have e1 : (len == (P : Int) - ((o : Int) - 40)) = true := by simp [e0]
  have e2 : decide ((0 : Int) ≤ len) = true := decide_eq_true hl0
  clear hl e0
  have HK := hid hK
  clear hK
  simp only [l5, lB, Ybaf.f5, Option.getD, dropC, headC, tailC, blkC, lupC, thnC, elsC]
  go_wp2_with fail
  exact HK.out _ _ _ _ _ _ _ _ _ _ _ _ 

set_option maxRecDepth 100000 in
set_option maxHeartbeats 1000000 in
theorem e26 (h1 l1 : Int) (p : Option Addr) (h2 l2 : Int) (q t : Option Addr) (tn tc : Nat) (len : Int) (NP : Nat) (wa : World) (hp : wa.heap[NP]? = some (.cells (pkt h1 l1 p h2 l2 q t tn tc len) 67 (0, 0))) (h0 : len = 0) {x0 x1 x2 x3 x4 x5 x6 x8 x9 x10 x11 x12 x13 x14 x15 x16 x17 x18 x19 x20 x21 x22 x23 x24 x25 x26 x27 x28 x29 x30 x31 x32 x33 x34 x35 x36 x37 x38 x39 x40 x41 x42 x43 x44 x45 x46 x47 x48 x49 x50 x51 x52 x53 x54 x55 x56 x57 x58 x59 x60 x61 x62 x63 x64 x65 x66 x67 x68 x69 x70 x71 x72 x73 x74 x75 x76 x77 x78 x79 x80 x81 x82 x83 x84 x85 x86 x87 x88 x89 x90 x91 x92 x93 x94 x95 x96 x97 x98 x99 x100 x101 x102 x103 x104 x105 x106 x107 x108 x109 x110 x111 x112 x113 x114 x115 x116 x117 x118 x119 x120 x121 x122 x123 x124 x125 x126 x127 : Value} (K : Act → World → Prop)
    (hK : ∀ (y125 y126 y127 : Value), K { tmps := #[x0, x1, x2, x3, .bool true, x5, x6, .pointer (some ⟨NP, 0, none⟩), x8, x9, x10, x11, x12, x13, x14, x15, x16, x17, x18, x19, x20, x21, x22, x23, x24, x25, x26, x27, x28, x29, x30, x31, x32, x33, x34, x35, x36, x37, x38, x39, x40, x41, x42, x43, x44, x45, x46, x47, x48, x49, x50, x51, x52, x53, x54, x55, x56, x57, x58, x59, x60, x61, x62, x63, x64, x65, x66, x67, x68, x69, x70, x71, x72, x73, x74, x75, x76, x77, x78, x79, x80, x81, x82, x83, x84, x85, x86, x87, x88, x89, x90, x91, x92, x93, x94, x95, x96, x97, x98, x99, x100, x101, x102, x103, x104, x105, x106, x107, x108, x109, x110, x111, x112, x113, x114, x115, x116, x117, x118, x119, x120, x121, x122, x123, x124, y125, y126, y127], defers := [] } (wa)) :
    Code.wp Ybaf.prog (headC (dropC 12 l5)) (only K) { tmps := #[x0, x1, x2, x3, x4, x5, x6, .pointer (some ⟨NP, 0, none⟩), x8, x9, x10, x11, x12, x13, x14, x15, x16, x17, x18, x19, x20, x21, x22, x23, x24, x25, x26, x27, x28, x29, x30, x31, x32, x33, x34, x35, x36, x37, x38, x39, x40, x41, x42, x43, x44, x45, x46, x47, x48, x49, x50, x51, x52, x53, x54, x55, x56, x57, x58, x59, x60, x61, x62, x63, x64, x65, x66, x67, x68, x69, x70, x71, x72, x73, x74, x75, x76, x77, x78, x79, x80, x81, x82, x83, x84, x85, x86, x87, x88, x89, x90, x91, x92, x93, x94, x95, x96, x97, x98, x99, x100, x101, x102, x103, x104, x105, x106, x107, x108, x109, x110, x111, x112, x113, x114, x115, x116, x117, x118, x119, x120, x121, x122, x123, x124, x125, x126, x127], defers := [] } wa := by
  have c6 : wa.cell? ⟨NP, 6, none⟩ = some (.slice t tn tc) := by rw [cell_of_row _ _ 6 _ 67 (0, 0) hp]; rfl
  have c7 : wa.cell? ⟨NP, 7, none⟩ = some (.int .i64 len) := by rw [cell_of_row _ _ 7 _ 67 (0, 0) hp]; rfl
  have lp : NP < wa.heap.size := (Array.getElem?_eq_some_iff.1 hp).1
  clear hp
  rw [h0] at c7
  have HK := hid hK
  clear hK
  simp only [l5, lB, Ybaf.f5, Option.getD, dropC, headC, tailC, blkC, lupC, thnC, elsC]
  go_wp2_with fail
  exact HK.out _ _ _ 
end Go.Proofs.YbulkblsgFmt

import Derived.Test.YbulkblsgFmtBdc3
namespace Go.Proofs.YbulkblsgFmt
open Go.RowKit Go.Extern.Stop Go.Stop Go.Extern
set_option linter.unusedVariables false
set_option linter.unusedSimpArgs false
/-- The fragment field's high bits; its low bit. -/
def hiF (x : Nat) : Bool := !(bits .and .u16 (x : Int) 65528 == 0)
def loF (x : Nat) : Bool := !(bits .and .u16 (x : Int) 1 == 0)
inductive St where
  | skip
  | cut
  | go (m : Nat) (fg : Bool)
inductive Out where
  | skip
  | cut
  | fin (o : Nat) (fg : Bool)
/-- One header. -/
def stp (n : Nat) (C : Nat → Nat) (nx o : Nat) (fg : Bool) : St :=
  if nx = 0 ∨ nx = 43 ∨ nx = 60 then (if n < o + 2 then .cut else .go ((C (o + 1) + 1) * 8) fg)
  else if nx = 51 then (if n < o + 2 then .cut else .go ((C (o + 1) + 2) * 4) fg)
  else if nx = 44 then (if n < o + 8 then .cut else if hiF (C (o + 2) * 256 + C (o + 3)) = true then .skip else .go 8 (fg || loF (C (o + 2) * 256 + C (o + 3))))
  else .skip
/-- The walk over the headers. -/
def lp (n : Nat) (C : Nat → Nat) : Nat → Nat → Nat → Bool → Out
  | 0, _, _, _ => .cut
  | f + 1, nx, o, fg => if nx = 6 then .fin o fg else match stp n C nx o fg with
    | .skip => .skip
    | .cut => .cut
    | .go m fg' => lp n C f (C o) (o + m) fg'
/-- It may leave by its end, or by a return. -/
def orRet (K R : Act → World → Prop) : Exit → Act → World → Prop
  | .normal, a, w => K a w
  | .ret, a, w => R a w
  | _, _, _ => False
theorem wp_useR {P : Program} {c : Code} {Q : Exit → Act → World → Prop} {a : Act} {w : World} (h : c.wp P (orRet (fun a w => Q .normal a w) (fun a w => Q .ret a w)) a w) : c.wp P Q a w := by
  intro b k cs
  obtain ⟨e, a1, w1, hq, harr⟩ := h b k cs
  cases e with
  | normal => exact ⟨.normal, a1, w1, hq, harr⟩
  | ret => exact ⟨.ret, a1, w1, hq, harr⟩
  | _ => exact hq.elim
/-- A frame from which the function returns. -/
def retA (N : Nat) (ok : Bool) (er : Value) (a : Act) : Prop := a.tmps.getD 2 undef = .pointer (some ⟨N, 0, none⟩) ∧ a.tmps.getD 3 undef = .bool ok ∧ a.tmps.getD 4 undef = er ∧ a.defers = []
theorem ret14 {N : Nat} {ok : Bool} {er : Value} {a : Act} {w : World} {pk : Array Value} {Post : Ending → World → Prop} (ha : retA N ok er a) (hr : w.heap[N]? = some (.cells pk 67 (0, 0))) (hpk : pk.size = 8) (hp : Post (.returned (.tuple #[.agg pk, .bool ok, er])) w) : bodyPost Ybaf.prog Ybaf.f14 Post .ret a w :=
  bodyPost_ret_by (results_ctt (p := 2) (ty := 67) (u := 3) (x := 4) rfl _ _ N 67 pk (0, 0) _ (.bool ok) er ha.1 ha.2.1 ha.2.2.1 hr Ybaf.underlying67 rfl (by rw [hpk]; kernel_rfl)) ha.2.2.2 hp
noncomputable def A1C : Code := thnC (tailC dS)
noncomputable def A2C : Code := thnC (tailC (elsC (tailC dS)))
noncomputable def E2C : Code := elsC (tailC (elsC (tailC dS)))
noncomputable def A3C : Code := thnC (tailC E2C)
theorem sel_eq : headC dS = (headC (headC dS)).seq (Code.cond (.tmp 50) .skip ((headC (elsC (tailC (headC dS)))).seq (Code.cond (.tmp 50) .skip (elsC (tailC (elsC (tailC (headC dS)))))))) := by kernel_rfl
theorem dS_eq : dS = (headC dS).seq (Code.cond (.tmp 50) A1C ((headC (elsC (tailC dS))).seq (Code.cond (.tmp 69) A2C E2C))) := by kernel_rfl
theorem E2_eq : E2C = (headC E2C).seq (Code.cond (.tmp 86) A3C ((headC (elsC (tailC E2C))).seq .ret)) := by kernel_rfl
theorem A1_eq : A1C = ((headC (headC A1C)).seq (Code.cond (.tmp 58) ((headC (thnC (tailC (headC A1C)))).seq .ret) .skip)).seq (tailC A1C) := by kernel_rfl
theorem A2_eq : A2C = ((headC (headC A2C)).seq (Code.cond (.tmp 75) ((headC (thnC (tailC (headC A2C)))).seq .ret) .skip)).seq (tailC A2C) := by kernel_rfl
theorem A3_eq : A3C = ((headC (headC A3C)).seq (Code.cond (.tmp 92) ((headC (thnC (tailC (headC A3C)))).seq .ret) .skip)).seq ((headC (tailC A3C)).seq (((headC (headC (dropC 2 A3C))).seq (Code.cond (.tmp 103) ((headC (thnC (tailC (headC (dropC 2 A3C))))).seq .ret) .skip)).seq ((headC (dropC 3 A3C)).seq (dropC 4 A3C)))) := by kernel_rfl
set_option maxRecDepth 100000 in
set_option maxHeartbeats 1000000 in
theorem dsel (nx : Nat) (wa : World) {x0 x1 x2 x3 x4 x5 x6 x7 x8 x9 x10 x11 x12 x13 x14 x15 x16 x17 x18 x19 x20 x21 x22 x23 x24 x25 x26 x27 x28 x29 x30 x31 x32 x33 x34 x35 x36 x37 x38 x39 x40 x41 x42 x43 x44 x45 x46 x47 x49 x50 x51 x52 x53 x54 x55 x56 x57 x58 x59 x60 x61 x62 x63 x64 x65 x66 x67 x68 x69 x70 x71 x72 x73 x74 x75 x76 x77 x78 x79 x80 x81 x82 x83 x84 x85 x86 x87 x88 x89 x90 x91 x92 x93 x94 x95 x96 x97 x98 x99 x100 x101 x102 x103 x104 x105 x106 x107 x108 x109 x110 x111 x112 x113 x114 x115 x116 x117 x118 x119 x120 x121 x122 x123 x124 x125 x126 x127 x128 x129 x130 x131 x132 x133 x134 x135 x136 x137 x138 x139 x140 x141 x142 x143 x144 x145 x146 x147 : Value} (K : Act → World → Prop)
    (hK : ∀ (y51 y52 y53 : Value), K { tmps := #[x0, x1, x2, x3, x4, x5, x6, x7, x8, x9, x10, x11, x12, x13, x14, x15, x16, x17, x18, x19, x20, x21, x22, x23, x24, x25, x26, x27, x28, x29, x30, x31, x32, x33, x34, x35, x36, x37, x38, x39, x40, x41, x42, x43, x44, x45, x46, x47, .int .u8 ((nx : Nat) : Int), x49, .bool (decide (nx = 0 ∨ nx = 43 ∨ nx = 60)), y51, y52, y53, x54, x55, x56, x57, x58, x59, x60, x61, x62, x63, x64, x65, x66, x67, x68, x69, x70, x71, x72, x73, x74, x75, x76, x77, x78, x79, x80, x81, x82, x83, x84, x85, x86, x87, x88, x89, x90, x91, x92, x93, x94, x95, x96, x97, x98, x99, x100, x101, x102, x103, x104, x105, x106, x107, x108, x109, x110, x111, x112, x113, x114, x115, x116, x117, x118, x119, x120, x121, x122, x123, x124, x125, x126, x127, x128, x129, x130, x131, x132, x133, x134, x135, x136, x137, x138, x139, x140, x141, x142, x143, x144, x145, x146, x147], defers := [] } wa) :
    Code.wp Ybaf.prog (headC dS) (only K) { tmps := #[x0, x1, x2, x3, x4, x5, x6, x7, x8, x9, x10, x11, x12, x13, x14, x15, x16, x17, x18, x19, x20, x21, x22, x23, x24, x25, x26, x27, x28, x29, x30, x31, x32, x33, x34, x35, x36, x37, x38, x39, x40, x41, x42, x43, x44, x45, x46, x47, .int .u8 ((nx : Nat) : Int), x49, x50, x51, x52, x53, x54, x55, x56, x57, x58, x59, x60, x61, x62, x63, x64, x65, x66, x67, x68, x69, x70, x71, x72, x73, x74, x75, x76, x77, x78, x79, x80, x81, x82, x83, x84, x85, x86, x87, x88, x89, x90, x91, x92, x93, x94, x95, x96, x97, x98, x99, x100, x101, x102, x103, x104, x105, x106, x107, x108, x109, x110, x111, x112, x113, x114, x115, x116, x117, x118, x119, x120, x121, x122, x123, x124, x125, x126, x127, x128, x129, x130, x131, x132, x133, x134, x135, x136, x137, x138, x139, x140, x141, x142, x143, x144, x145, x146, x147], defers := [] } wa := by
  rw [sel_eq]
  refine wp_seq (wp_use (d14r nx wa _ ?_))
  intro y51
  refine wp_cond (t := ((nx : Int) == 0)) (by kernel_rfl) ?_
  by_cases h0 : nx = 0
  · have e0 : ((nx : Int) == 0) = true := by rw [h0]; rfl
    rw [decide_eq_true (Or.inl h0)] at hK
    rw [e0, if_pos rfl]
    refine wp_skip ?_
    exact hK _ _ _
  · have e0 : ((nx : Int) == 0) = false := by simp; omega
    rw [e0, if_neg Bool.false_ne_true]
    refine wp_seq (wp_use (d15 nx wa _ ?_))
    intro y52
    refine wp_cond (t := ((nx : Int) == 43)) (by kernel_rfl) ?_
    by_cases h1 : nx = 43
    · have e1 : ((nx : Int) == 43) = true := by rw [h1]; rfl
      rw [decide_eq_true (Or.inr (Or.inl h1))] at hK
      rw [e1, if_pos rfl]
      refine wp_skip ?_
      exact hK _ _ _
    · have e1 : ((nx : Int) == 43) = false := by simp; omega
      rw [e1, if_neg Bool.false_ne_true]
      refine wp_use (d16 nx wa _ ?_)
      intro y53
      by_cases h2 : nx = 60
      · have e2 : ((nx : Int) == 60) = true := by rw [h2]; rfl
        rw [decide_eq_true (Or.inr (Or.inr h2))] at hK
        rw [e2]; exact hK _ _ _
      · have e2 : ((nx : Int) == 60) = false := by simp; omega
        rw [decide_eq_false (by omega)] at hK
        rw [e2]; exact hK _ _ _
set_option maxRecDepth 100000 in
set_option maxHeartbeats 1000000 in
theorem armA1 (F : Interp) (h1 l1 : Int) (p : Option Addr) (h2 l2 : Int) (q t : Option Addr) (tn tc : Nat) (len : Int) (B N N5 : Nat) (w wa : World) (hb : Below B w wa) (hB : B ≤ N) (hN : wa.heap[N]? = some (.cells zpk 67 (0, 0))) (h5 : wa.heap[N5]? = some (.cells (pkt h1 l1 p h2 l2 q t tn tc len) 67 (0, 0))) (hF : F.answers wa.tape) (C : Nat → Nat) (b off n c o : Nat) (hC : ∀ k, k < n → wa.cell? ⟨b, off + k, none⟩ = some (.int .u8 ((C k : Nat) : Int)) ∧ C k ≤ 255) (hn : n ≤ 1000000) (ho : o ≤ 2000000) (fg : Bool) {x1 x3 x4 x6 x7 x10 x11 x12 x13 x14 x15 x16 x17 x18 x19 x20 x21 x22 x23 x24 x25 x26 x27 x28 x29 x30 x31 x32 x33 x34 x35 x36 x37 x38 x39 x40 x41 x42 x43 x44 x45 x46 x47 x48 x49 x50 x51 x52 x53 x54 x55 x56 x57 x58 x59 x60 x61 x62 x63 x64 x65 x66 x67 x68 x69 x70 x71 x72 x73 x74 x75 x76 x77 x78 x79 x80 x81 x82 x83 x84 x85 x86 x87 x88 x89 x90 x91 x92 x93 x94 x95 x96 x97 x98 x99 x100 x101 x102 x103 x104 x105 x106 x107 x108 x109 x110 x111 x112 x113 x114 x115 x116 x117 x118 x119 x120 x121 x122 x123 x124 x125 x126 x127 x128 x129 x130 x131 x132 x133 x134 x135 x136 x137 x138 x139 x140 x141 x142 x143 x144 x145 x146 x147 : Value} (K R : Act → World → Prop) (hcut : (if n < o + 2 then St.cut else St.go ((C (o + 1) + 1) * 8) fg) = .cut → ∀ (a : Act) (er : Value) (wy : World), retA N false er a → newE wa.heap.size wy er → wy.heap[N]? = some (.cells (pkt h1 l1 p h2 l2 q t tn tc len) 67 (0, 0)) → Below B w wy → R a wy)
    (hK : ∀ (y54 y55 y56 y57 y58 y61 y62 y63 y64 y65 y66 y67 y68 : Value) (m : Nat), (if n < o + 2 then St.cut else St.go ((C (o + 1) + 1) * 8) fg) = .go m fg → m = (C (o + 1) + 1) * 8 → o + 2 ≤ n → K { tmps := #[.slice (some ⟨b, off, none⟩) n c, x1, .pointer (some ⟨N, 0, none⟩), x3, x4, .pointer (some ⟨N5, 0, none⟩), x6, x7, .int .i64 ((o : Nat) : Int), .bool fg, .int .i64 ((m : Nat) : Int), x11, x12, x13, x14, x15, x16, x17, x18, x19, x20, x21, x22, x23, x24, x25, x26, x27, x28, x29, x30, x31, x32, x33, x34, x35, x36, x37, x38, x39, x40, x41, x42, x43, x44, x45, x46, x47, x48, x49, x50, x51, x52, x53, y54, y55, y56, y57, y58, x59, x60, y61, y62, y63, y64, y65, y66, y67, y68, x69, x70, x71, x72, x73, x74, x75, x76, x77, x78, x79, x80, x81, x82, x83, x84, x85, x86, x87, x88, x89, x90, x91, x92, x93, x94, x95, x96, x97, x98, x99, x100, x101, x102, x103, x104, x105, x106, x107, x108, x109, x110, x111, x112, x113, x114, x115, x116, x117, x118, x119, x120, x121, x122, x123, x124, x125, x126, x127, x128, x129, x130, x131, x132, x133, x134, x135, x136, x137, x138, x139, x140, x141, x142, x143, x144, x145, x146, x147], defers := [] } wa) :
    Code.wp Ybaf.prog A1C (orRet K R) { tmps := #[.slice (some ⟨b, off, none⟩) n c, x1, .pointer (some ⟨N, 0, none⟩), x3, x4, .pointer (some ⟨N5, 0, none⟩), x6, x7, .int .i64 ((o : Nat) : Int), .bool fg, x10, x11, x12, x13, x14, x15, x16, x17, x18, x19, x20, x21, x22, x23, x24, x25, x26, x27, x28, x29, x30, x31, x32, x33, x34, x35, x36, x37, x38, x39, x40, x41, x42, x43, x44, x45, x46, x47, x48, x49, x50, x51, x52, x53, x54, x55, x56, x57, x58, x59, x60, x61, x62, x63, x64, x65, x66, x67, x68, x69, x70, x71, x72, x73, x74, x75, x76, x77, x78, x79, x80, x81, x82, x83, x84, x85, x86, x87, x88, x89, x90, x91, x92, x93, x94, x95, x96, x97, x98, x99, x100, x101, x102, x103, x104, x105, x106, x107, x108, x109, x110, x111, x112, x113, x114, x115, x116, x117, x118, x119, x120, x121, x122, x123, x124, x125, x126, x127, x128, x129, x130, x131, x132, x133, x134, x135, x136, x137, x138, x139, x140, x141, x142, x143, x144, x145, x146, x147], defers := [] } wa := by
  rw [A1_eq]
  refine wp_seq (wp_seq (wp_use (d17 _ n c o wa ho _ ?_)))
  intro y54 y55 y56 y57
  refine wp_cond (t := decide ((n : Int) < (o : Int) + 2)) (by kernel_rfl) ?_
  by_cases hlt : n < o + 2
  · rw [decide_eq_true (show (n : Int) < (o : Int) + 2 by omega), if_pos rfl]
    rw [if_pos hlt] at hcut
    refine wp_seq (wp_use (d18 F h1 l1 p h2 l2 q t tn tc len B N N5 w wa zpk hb hB hN rfl h5 hF _ ?_))
    intros
    rename_i er wy hr1 hr2 hr3
    exact wp_ret (hcut rfl _ er wy ⟨rfl, rfl, rfl, rfl⟩ hr3 hr1 hr2)
  · rw [decide_eq_false (show ¬ (n : Int) < (o : Int) + 2 by omega), if_neg Bool.false_ne_true]
    rw [if_neg hlt] at hK
    refine wp_skip ?_
    refine wp_use (d19 b off n c o (C (o + 1)) wa (by omega) hn (hC _ (by omega)).1 (hC _ (by omega)).2 _ ?_)
    intros
    exact hK _ _ _ _ _ _ _ _ _ _ _ _ _ _ rfl rfl (by omega)
set_option maxRecDepth 100000 in
set_option maxHeartbeats 1000000 in
theorem armA2 (F : Interp) (h1 l1 : Int) (p : Option Addr) (h2 l2 : Int) (q t : Option Addr) (tn tc : Nat) (len : Int) (B N N5 : Nat) (w wa : World) (hb : Below B w wa) (hB : B ≤ N) (hN : wa.heap[N]? = some (.cells zpk 67 (0, 0))) (h5 : wa.heap[N5]? = some (.cells (pkt h1 l1 p h2 l2 q t tn tc len) 67 (0, 0))) (hF : F.answers wa.tape) (C : Nat → Nat) (b off n c o : Nat) (hC : ∀ k, k < n → wa.cell? ⟨b, off + k, none⟩ = some (.int .u8 ((C k : Nat) : Int)) ∧ C k ≤ 255) (hn : n ≤ 1000000) (ho : o ≤ 2000000) (fg : Bool) {x1 x3 x4 x6 x7 x10 x11 x12 x13 x14 x15 x16 x17 x18 x19 x20 x21 x22 x23 x24 x25 x26 x27 x28 x29 x30 x31 x32 x33 x34 x35 x36 x37 x38 x39 x40 x41 x42 x43 x44 x45 x46 x47 x48 x49 x50 x51 x52 x53 x54 x55 x56 x57 x58 x59 x60 x61 x62 x63 x64 x65 x66 x67 x68 x69 x70 x71 x72 x73 x74 x75 x76 x77 x78 x79 x80 x81 x82 x83 x84 x85 x86 x87 x88 x89 x90 x91 x92 x93 x94 x95 x96 x97 x98 x99 x100 x101 x102 x103 x104 x105 x106 x107 x108 x109 x110 x111 x112 x113 x114 x115 x116 x117 x118 x119 x120 x121 x122 x123 x124 x125 x126 x127 x128 x129 x130 x131 x132 x133 x134 x135 x136 x137 x138 x139 x140 x141 x142 x143 x144 x145 x146 x147 : Value} (K R : Act → World → Prop) (hcut : (if n < o + 2 then St.cut else St.go ((C (o + 1) + 2) * 4) fg) = .cut → ∀ (a : Act) (er : Value) (wy : World), retA N false er a → newE wa.heap.size wy er → wy.heap[N]? = some (.cells (pkt h1 l1 p h2 l2 q t tn tc len) 67 (0, 0)) → Below B w wy → R a wy)
    (hK : ∀ (y71 y72 y73 y74 y75 y78 y79 y80 y81 y82 y83 y84 y85 : Value) (m : Nat), (if n < o + 2 then St.cut else St.go ((C (o + 1) + 2) * 4) fg) = .go m fg → m = (C (o + 1) + 2) * 4 → o + 2 ≤ n → K { tmps := #[.slice (some ⟨b, off, none⟩) n c, x1, .pointer (some ⟨N, 0, none⟩), x3, x4, .pointer (some ⟨N5, 0, none⟩), x6, x7, .int .i64 ((o : Nat) : Int), .bool fg, .int .i64 ((m : Nat) : Int), x11, x12, x13, x14, x15, x16, x17, x18, x19, x20, x21, x22, x23, x24, x25, x26, x27, x28, x29, x30, x31, x32, x33, x34, x35, x36, x37, x38, x39, x40, x41, x42, x43, x44, x45, x46, x47, x48, x49, x50, x51, x52, x53, x54, x55, x56, x57, x58, x59, x60, x61, x62, x63, x64, x65, x66, x67, x68, x69, x70, y71, y72, y73, y74, y75, x76, x77, y78, y79, y80, y81, y82, y83, y84, y85, x86, x87, x88, x89, x90, x91, x92, x93, x94, x95, x96, x97, x98, x99, x100, x101, x102, x103, x104, x105, x106, x107, x108, x109, x110, x111, x112, x113, x114, x115, x116, x117, x118, x119, x120, x121, x122, x123, x124, x125, x126, x127, x128, x129, x130, x131, x132, x133, x134, x135, x136, x137, x138, x139, x140, x141, x142, x143, x144, x145, x146, x147], defers := [] } wa) :
    Code.wp Ybaf.prog A2C (orRet K R) { tmps := #[.slice (some ⟨b, off, none⟩) n c, x1, .pointer (some ⟨N, 0, none⟩), x3, x4, .pointer (some ⟨N5, 0, none⟩), x6, x7, .int .i64 ((o : Nat) : Int), .bool fg, x10, x11, x12, x13, x14, x15, x16, x17, x18, x19, x20, x21, x22, x23, x24, x25, x26, x27, x28, x29, x30, x31, x32, x33, x34, x35, x36, x37, x38, x39, x40, x41, x42, x43, x44, x45, x46, x47, x48, x49, x50, x51, x52, x53, x54, x55, x56, x57, x58, x59, x60, x61, x62, x63, x64, x65, x66, x67, x68, x69, x70, x71, x72, x73, x74, x75, x76, x77, x78, x79, x80, x81, x82, x83, x84, x85, x86, x87, x88, x89, x90, x91, x92, x93, x94, x95, x96, x97, x98, x99, x100, x101, x102, x103, x104, x105, x106, x107, x108, x109, x110, x111, x112, x113, x114, x115, x116, x117, x118, x119, x120, x121, x122, x123, x124, x125, x126, x127, x128, x129, x130, x131, x132, x133, x134, x135, x136, x137, x138, x139, x140, x141, x142, x143, x144, x145, x146, x147], defers := [] } wa := by
  rw [A2_eq]
  refine wp_seq (wp_seq (wp_use (d21 _ n c o wa ho _ ?_)))
  intro y71 y72 y73 y74
  refine wp_cond (t := decide ((n : Int) < (o : Int) + 2)) (by kernel_rfl) ?_
  by_cases hlt : n < o + 2
  · rw [decide_eq_true (show (n : Int) < (o : Int) + 2 by omega), if_pos rfl]
    rw [if_pos hlt] at hcut
    refine wp_seq (wp_use (d22 F h1 l1 p h2 l2 q t tn tc len B N N5 w wa zpk hb hB hN rfl h5 hF _ ?_))
    intros
    rename_i er wy hr1 hr2 hr3
    exact wp_ret (hcut rfl _ er wy ⟨rfl, rfl, rfl, rfl⟩ hr3 hr1 hr2)
  · rw [decide_eq_false (show ¬ (n : Int) < (o : Int) + 2 by omega), if_neg Bool.false_ne_true]
    rw [if_neg hlt] at hK
    refine wp_skip ?_
    refine wp_use (d23 b off n c o (C (o + 1)) wa (by omega) hn (hC _ (by omega)).1 (hC _ (by omega)).2 _ ?_)
    intros
    exact hK _ _ _ _ _ _ _ _ _ _ _ _ _ _ rfl rfl (by omega)
end Go.Proofs.YbulkblsgFmt

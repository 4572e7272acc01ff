import Derived.Test.YbulkblsgFmtBdc5
namespace Go.Proofs.YbulkblsgFmt
open Go.RowKit Go.Extern.Stop Go.Stop Go.Extern
set_option linter.unusedVariables false
set_option linter.unusedSimpArgs false
def pay (C : Nat → Nat) : Nat := C 4 * 256 + C 5
/-- The packet with the header's addresses. -/
def hdr (C : Nat → Nat) (zp t : Option Addr) (tn tc : Nat) (len : Int) : Array Value := pkt ((be (fun k => C (8 + k)) : Nat) : Int) ((be (fun k => C (8 + (k + 8))) : Nat) : Int) zp ((be (fun k => C (24 + k)) : Nat) : Int) ((be (fun k => C (24 + (k + 8))) : Nat) : Int) zp t tn tc len
/-- What lies behind the headers. -/
def tcpk (b off n c : Nat) (C : Nat → Nat) (zp : Option Addr) (o : Nat) (len : Int) : Array Value := if o ≤ n then hdr C zp (some ⟨b, off + sh c o, none⟩) (n - o) (c - o) len else hdr C zp none 0 0 len
/-- decodeIPv6's answer. -/
def Res (b off n c : Nat) (C : Nat → Nat) (zp : Option Addr) (ev : Value) (X0 : Nat) (wy : World) (pk : Array Value) (ok : Bool) (er : Value) : Prop :=
  if n < 40 ∨ ¬ C 0 / 16 = 6 then pk = zpk ∧ ok = false ∧ newE X0 wy er
  else match lp n C (n + 2) (C 6) 40 false with
  | .skip => pk = zpk ∧ ok = false ∧ er = .nilIface
  | .cut => pk = hdr C zp none 0 0 0 ∧ ok = false ∧ newE X0 wy er
  | .fin o fg => if pay C + 40 < o then pk = tcpk b off n c C zp o 0 ∧ ok = false ∧ newE X0 wy er
    else if fg = true then pk = tcpk b off n c C zp o 0 ∧ ok = false ∧ er = ev
    else if n < o then pk = tcpk b off n c C zp o 0 ∧ ok = false ∧ newE X0 wy er
    else pk = tcpk b off n c C zp o ((pay C : Int) + 40 - (o : Int)) ∧ ok = true ∧ er = .nilIface
theorem newE_le {A B : Nat} {w : World} {er : Value} (h : A ≤ B) (he : newE B w er) : newE A w er := by
  obtain ⟨bb, cs, t, h1, h2, h3⟩ := he
  exact ⟨bb, cs, t, h1, by omega, h3⟩
noncomputable def dTail : Code := dropC 9 d14
theorem dH_eq : d14 = (headC d14).seq (((headC (headC (dropC 1 d14))).seq (Code.cond (.tmp 14) ((headC (thnC (tailC (headC (dropC 1 d14))))).seq .ret) .skip)).seq (((headC (headC (dropC 2 d14))).seq (Code.cond (.tmp 21) ((headC (thnC (tailC (headC (dropC 2 d14))))).seq .ret) .skip)).seq ((headC (dropC 3 d14)).seq ((headC (dropC 4 d14)).seq ((headC (dropC 5 d14)).seq ((headC (dropC 6 d14)).seq ((headC (dropC 7 d14)).seq ((Code.block 0 (.loop (((headC (headC dL)).seq (Code.cond (.tmp 47) .skip (.exit 0))).seq (Code.block 1 dX)))).seq dTail)))))))) := by kernel_rfl
theorem dX_eq : dX = (headC dX).seq (((headC (headC (dropC 1 dX))).seq (Code.block 2 dS)).seq ((headC (dropC 2 dX)).seq ((headC (dropC 3 dX)).seq (dropC 4 dX)))) := by kernel_rfl
theorem dTail_eq : dTail = ((headC (headC (dropC 9 d14))).seq (Code.cond (.tmp 124) (thnC (tailC (headC (dropC 9 d14)))) .skip)).seq ((Code.block 3 ((headC dT).seq (Code.cond (.tmp 129) ((headC (thnC (tailC dT))).seq .ret) ((headC (elsC (tailC dT))).seq (Code.cond (.tmp 134) ((headC (thnC (tailC (elsC (tailC dT))))).seq .ret) ((headC (elsC (tailC (elsC (tailC dT))))).seq (Code.cond (.tmp 138) ((headC (thnC (tailC (elsC (tailC (elsC (tailC dT))))))).seq .ret) .skip))))))).seq ((headC (dropC 11 d14)).seq ((headC (dropC 12 d14)).seq .ret))) := by kernel_rfl
set_option maxRecDepth 100000 in
set_option maxHeartbeats 1000000 in
theorem dround (F : Interp) (h1 l1 : Int) (p : Option Addr) (h2 l2 : Int) (q t : Option Addr) (tn tc : Nat) (len : Int) (B N N5 : Nat) (w wa : World) (hb : Below B w wa) (hB : B ≤ N) (hN : wa.heap[N]? = some (.cells zpk 67 (0, 0))) (h5 : wa.heap[N5]? = some (.cells (pkt h1 l1 p h2 l2 q t tn tc len) 67 (0, 0))) (hF : F.answers wa.tape) (C : Nat → Nat) (b off n c o : Nat) (hC : ∀ k, k < n → wa.cell? ⟨b, off + k, none⟩ = some (.int .u8 ((C k : Nat) : Int)) ∧ C k ≤ 255) (hn : n ≤ 1000000) (ho : o ≤ 2000000) (hcap : n ≤ c) (nx : Nat) (fg : Bool) (r : Int) (hr1 : -9000000 ≤ r) (hr2 : r ≤ 9000000) {x1 x3 x4 x10 x11 x12 x13 x14 x15 x16 x17 x18 x19 x20 x21 x22 x23 x24 x25 x26 x27 x28 x29 x30 x31 x32 x33 x34 x35 x36 x37 x38 x39 x40 x41 x42 x43 x44 x45 x46 x47 x48 x49 x50 x51 x52 x53 x54 x55 x56 x57 x58 x59 x60 x61 x62 x63 x64 x65 x66 x67 x68 x69 x70 x71 x72 x73 x74 x75 x76 x77 x78 x79 x80 x81 x82 x83 x84 x85 x86 x87 x88 x89 x90 x91 x92 x93 x94 x95 x96 x97 x98 x99 x100 x101 x102 x103 x104 x105 x106 x107 x108 x109 x110 x111 x112 x113 x114 x115 x116 x117 x118 x119 x120 x121 x122 x123 x124 x125 x126 x127 x128 x129 x130 x131 x132 x133 x134 x135 x136 x137 x138 x139 x140 x141 x142 x143 x144 x145 x146 x147 : Value} (K R : Act → World → Prop) (hcut : stp n C nx o fg = .cut → ∀ (a : Act) (er : Value) (wy : World), retA N false er a → newE wa.heap.size wy er → wy.heap[N]? = some (.cells (pkt h1 l1 p h2 l2 q t tn tc len) 67 (0, 0)) → Below B w wy → R a wy) (hskip : stp n C nx o fg = .skip → ∀ (a : Act) (wy : World), retA N false .nilIface a → wy.heap[N]? = some (.cells zpk 67 (0, 0)) → Below B w wy → R a wy)
    (hK : ∀ (y10 y11 y48 y50 y51 y52 y53 y54 y55 y56 y57 y58 y61 y62 y63 y64 y65 y66 y67 y68 y69 y70 y71 y72 y73 y74 y75 y78 y79 y80 y81 y82 y83 y84 y85 y86 y87 y88 y89 y90 y91 y92 y95 y96 y97 y98 y99 y100 y101 y102 y103 y105 y106 y107 y108 y109 y110 y111 y112 y113 y114 y115 y116 y117 y118 y119 y120 : Value) (m : Nat) (fg' : Bool) (wy : World), stp n C nx o fg = .go m fg' → 8 ≤ m → m ≤ 2064 → o + 2 ≤ n → Below wa.heap.size wa wy → K { tmps := #[.slice (some ⟨b, off, none⟩) n c, x1, .pointer (some ⟨N, 0, none⟩), x3, x4, .pointer (some ⟨N5, 0, none⟩), .int .u8 ((C o : Nat) : Int), .int .i64 (r - (m : Int)), .int .i64 ((o + m : Nat) : Int), .bool fg', y10, y11, x12, x13, x14, x15, x16, x17, x18, x19, x20, x21, x22, x23, x24, x25, x26, x27, x28, x29, x30, x31, x32, x33, x34, x35, x36, x37, x38, x39, x40, x41, x42, x43, x44, x45, x46, x47, y48, x49, y50, y51, y52, y53, y54, y55, y56, y57, y58, x59, x60, y61, y62, y63, y64, y65, y66, y67, y68, y69, y70, y71, y72, y73, y74, y75, x76, x77, y78, y79, y80, y81, y82, y83, y84, y85, y86, y87, y88, y89, y90, y91, y92, x93, x94, y95, y96, y97, y98, y99, y100, y101, y102, y103, x104, y105, y106, y107, y108, y109, y110, y111, y112, y113, y114, y115, y116, y117, y118, y119, y120, x121, x122, x123, x124, x125, x126, x127, x128, x129, x130, x131, x132, x133, x134, x135, x136, x137, x138, x139, x140, x141, x142, x143, x144, x145, x146, x147], defers := [] } wy) :
    Code.wp Ybaf.prog dX (orRet K R) { tmps := #[.slice (some ⟨b, off, none⟩) n c, x1, .pointer (some ⟨N, 0, none⟩), x3, x4, .pointer (some ⟨N5, 0, none⟩), .int .u8 ((nx : Nat) : Int), .int .i64 r, .int .i64 ((o : Nat) : Int), .bool fg, x10, x11, x12, x13, x14, x15, x16, x17, x18, x19, x20, x21, x22, x23, x24, x25, x26, x27, x28, x29, x30, x31, x32, x33, x34, x35, x36, x37, x38, x39, x40, x41, x42, x43, x44, x45, x46, x47, x48, x49, x50, x51, x52, x53, x54, x55, x56, x57, x58, x59, x60, x61, x62, x63, x64, x65, x66, x67, x68, x69, x70, x71, x72, x73, x74, x75, x76, x77, x78, x79, x80, x81, x82, x83, x84, x85, x86, x87, x88, x89, x90, x91, x92, x93, x94, x95, x96, x97, x98, x99, x100, x101, x102, x103, x104, x105, x106, x107, x108, x109, x110, x111, x112, x113, x114, x115, x116, x117, x118, x119, x120, x121, x122, x123, x124, x125, x126, x127, x128, x129, x130, x131, x132, x133, x134, x135, x136, x137, x138, x139, x140, x141, x142, x143, x144, x145, x146, x147], defers := [] } wa := by
  rw [dX_eq]
  have lbb : 0 < n → b < wa.heap.size := fun h => World.block_lt_of_cell? wa _ (hC 0 h).1
  refine wp_seq (wp_use (d11 wa _ ?_))
  refine wp_seq (wp_seq (wp_use (d12 nx wa _ ?_)))
  refine wp_block (wp_useR (dsw F h1 l1 p h2 l2 q t tn tc len B N N5 w wa hb hB hN h5 hF C b off n c o hC hn ho hcap nx fg _ _ (fun e a er wy x1 x2 x3 x4 => hcut e a er wy x1 x2 x3 x4) (fun e a wy x1 x2 x3 => hskip e a wy x1 x2 x3) ?_))
  intros
  rename_i m fg' wy e1 e2 e3 e4 e5
  have hCo : wy.cell? ⟨b, off + o, none⟩ = some (.int .u8 ((C o : Nat) : Int)) := by rw [e5.cell (by exact lbb (by omega))]; exact (hC o (by omega)).1
  refine wp_seq (wp_use (d32 b off n c o (C o) wy e4 hn hCo _ ?_))
  intros
  refine wp_seq (wp_use (d33 o m wy ho (by omega) _ ?_))
  intros
  refine wp_use (d34 r m wy (by omega) (by omega) (by omega) _ ?_)
  intros
  exact hK _ _ _ _ _ _ _ _ _ _ _ _ _ _ _ _ _ _ _ _ _ _ _ _ _ _ _ _ _ _ _ _ _ _ _ _ _ _ _ _ _ _ _ _ _ _ _ _ _ _ _ _ _ _ _ _ _ _ _ _ _ _ _ _ _ _ _ m fg' wy e1 e2 e3 e4 e5
set_option maxRecDepth 100000 in
set_option maxHeartbeats 1000000 in
theorem dtail (F : Interp) (zp : Option Addr) (ev : Value) (B N N5 : Nat) (w wa : World) (hb : Below B w wa) (hB0 : 0 < B) (hB : B ≤ N) (hB5 : B ≤ N5) (hne : N ≠ N5) (C : Nat → Nat) (b off n c o : Nat) (hcap : n ≤ c) (fg : Bool) (hN : wa.heap[N]? = some (.cells zpk 67 (0, 0))) (h5 : wa.heap[N5]? = some (.cells (hdr C zp none 0 0 0) 67 (0, 0))) (hF : F.answers wa.tape) (hg : wa.cell? ⟨0, 0, none⟩ = some ev) (hBs : B ≤ wa.heap.size) {x1 x3 x4 x6 x10 x11 x12 x13 x14 x15 x16 x17 x18 x19 x20 x21 x22 x23 x24 x25 x26 x27 x28 x29 x30 x31 x32 x33 x34 x35 x36 x37 x38 x39 x40 x41 x42 x43 x44 x45 x46 x47 x48 x49 x50 x51 x52 x53 x54 x55 x56 x57 x58 x59 x60 x61 x62 x63 x64 x65 x66 x67 x68 x69 x70 x71 x72 x73 x74 x75 x76 x77 x78 x79 x80 x81 x82 x83 x84 x85 x86 x87 x88 x89 x90 x91 x92 x93 x94 x95 x96 x97 x98 x99 x100 x101 x102 x103 x104 x105 x106 x107 x108 x109 x110 x111 x112 x113 x114 x115 x116 x117 x118 x119 x120 x121 x122 x123 x124 x125 x126 x127 x128 x129 x130 x131 x132 x133 x134 x135 x136 x137 x138 x139 x140 x141 x142 x143 x144 x145 x146 x147 : Value} (Q : Exit → Act → World → Prop)
    (hQ : ∀ (a : Act) (pk : Array Value) (ok : Bool) (er : Value) (wy : World), retA N ok er a → pk.size = 8 → wy.heap[N]? = some (.cells pk 67 (0, 0)) → Below B w wy →
      (if pay C + 40 < o then pk = tcpk b off n c C zp o 0 ∧ ok = false ∧ newE B wy er
        else if fg = true then pk = tcpk b off n c C zp o 0 ∧ ok = false ∧ er = ev
        else if n < o then pk = tcpk b off n c C zp o 0 ∧ ok = false ∧ newE B wy er
        else pk = tcpk b off n c C zp o ((pay C : Int) + 40 - (o : Int)) ∧ ok = true ∧ er = .nilIface) → Q .ret a wy) :
    Code.wp Ybaf.prog dTail Q { tmps := #[.slice (some ⟨b, off, none⟩) n c, x1, .pointer (some ⟨N, 0, none⟩), x3, x4, .pointer (some ⟨N5, 0, none⟩), x6, .int .i64 ((pay C : Int) + 40 - (o : Int)), .int .i64 ((o : Nat) : Int), .bool fg, x10, x11, x12, x13, x14, x15, x16, x17, x18, x19, x20, x21, x22, x23, x24, x25, x26, x27, x28, x29, x30, x31, x32, x33, x34, x35, x36, x37, x38, x39, x40, x41, x42, x43, x44, x45, x46, x47, x48, x49, x50, x51, x52, x53, x54, x55, x56, x57, x58, x59, x60, x61, x62, x63, x64, x65, x66, x67, x68, x69, x70, x71, x72, x73, x74, x75, x76, x77, x78, x79, x80, x81, x82, x83, x84, x85, x86, x87, x88, x89, x90, x91, x92, x93, x94, x95, x96, x97, x98, x99, x100, x101, x102, x103, x104, x105, x106, x107, x108, x109, x110, x111, x112, x113, x114, x115, x116, x117, x118, x119, x120, x121, x122, x123, x124, x125, x126, x127, x128, x129, x130, x131, x132, x133, x134, x135, x136, x137, x138, x139, x140, x141, x142, x143, x144, x145, x146, x147], defers := [] } wa := by
  rw [dTail_eq]
  have lN : N < wa.heap.size := (Array.getElem?_eq_some_iff.1 hN).1
  have key : ∀ (wb : World) (t : Option Addr) (tn tc : Nat), Below B w wb → wb.tape = wa.tape → wb.cell? ⟨0, 0, none⟩ = some ev → B ≤ wb.heap.size → wb.heap[N]? = some (.cells zpk 67 (0, 0)) → wb.heap[N5]? = some (.cells (hdr C zp t tn tc 0) 67 (0, 0)) → (∀ len, tcpk b off n c C zp o len = hdr C zp t tn tc len) → ∀ {t1 t3 t4 t6 t10 t11 t12 t13 t14 t15 t16 t17 t18 t19 t20 t21 t22 t23 t24 t25 t26 t27 t28 t29 t30 t31 t32 t33 t34 t35 t36 t37 t38 t39 t40 t41 t42 t43 t44 t45 t46 t47 t48 t49 t50 t51 t52 t53 t54 t55 t56 t57 t58 t59 t60 t61 t62 t63 t64 t65 t66 t67 t68 t69 t70 t71 t72 t73 t74 t75 t76 t77 t78 t79 t80 t81 t82 t83 t84 t85 t86 t87 t88 t89 t90 t91 t92 t93 t94 t95 t96 t97 t98 t99 t100 t101 t102 t103 t104 t105 t106 t107 t108 t109 t110 t111 t112 t113 t114 t115 t116 t117 t118 t119 t120 t121 t122 t123 t124 t125 t126 t127 t128 t129 t130 t131 t132 t133 t134 t135 t136 t137 t138 t139 t140 t141 t142 t143 t144 t145 t146 t147 : Value},
      Code.wp Ybaf.prog ((Code.block 3 ((headC dT).seq (Code.cond (.tmp 129) ((headC (thnC (tailC dT))).seq .ret) ((headC (elsC (tailC dT))).seq (Code.cond (.tmp 134) ((headC (thnC (tailC (elsC (tailC dT))))).seq .ret) ((headC (elsC (tailC (elsC (tailC dT))))).seq (Code.cond (.tmp 138) ((headC (thnC (tailC (elsC (tailC (elsC (tailC dT))))))).seq .ret) .skip))))))).seq ((headC (dropC 11 d14)).seq ((headC (dropC 12 d14)).seq .ret))) Q { tmps := #[.slice (some ⟨b, off, none⟩) n c, t1, .pointer (some ⟨N, 0, none⟩), t3, t4, .pointer (some ⟨N5, 0, none⟩), t6, .int .i64 ((pay C : Int) + 40 - (o : Int)), .int .i64 ((o : Nat) : Int), .bool fg, t10, t11, t12, t13, t14, t15, t16, t17, t18, t19, t20, t21, t22, t23, t24, t25, t26, t27, t28, t29, t30, t31, t32, t33, t34, t35, t36, t37, t38, t39, t40, t41, t42, t43, t44, t45, t46, t47, t48, t49, t50, t51, t52, t53, t54, t55, t56, t57, t58, t59, t60, t61, t62, t63, t64, t65, t66, t67, t68, t69, t70, t71, t72, t73, t74, t75, t76, t77, t78, t79, t80, t81, t82, t83, t84, t85, t86, t87, t88, t89, t90, t91, t92, t93, t94, t95, t96, t97, t98, t99, t100, t101, t102, t103, t104, t105, t106, t107, t108, t109, t110, t111, t112, t113, t114, t115, t116, t117, t118, t119, t120, t121, t122, t123, t124, t125, t126, t127, t128, t129, t130, t131, t132, t133, t134, t135, t136, t137, t138, t139, t140, t141, t142, t143, t144, t145, t146, t147], defers := [] } wb := by
    intro wb t tn tc bb btp bg bs bN b5 htk t1 t3 t4 t6 t10 t11 t12 t13 t14 t15 t16 t17 t18 t19 t20 t21 t22 t23 t24 t25 t26 t27 t28 t29 t30 t31 t32 t33 t34 t35 t36 t37 t38 t39 t40 t41 t42 t43 t44 t45 t46 t47 t48 t49 t50 t51 t52 t53 t54 t55 t56 t57 t58 t59 t60 t61 t62 t63 t64 t65 t66 t67 t68 t69 t70 t71 t72 t73 t74 t75 t76 t77 t78 t79 t80 t81 t82 t83 t84 t85 t86 t87 t88 t89 t90 t91 t92 t93 t94 t95 t96 t97 t98 t99 t100 t101 t102 t103 t104 t105 t106 t107 t108 t109 t110 t111 t112 t113 t114 t115 t116 t117 t118 t119 t120 t121 t122 t123 t124 t125 t126 t127 t128 t129 t130 t131 t132 t133 t134 t135 t136 t137 t138 t139 t140 t141 t142 t143 t144 t145 t146 t147
    refine wp_seq (wp_block (wp_seq (wp_use (d37 _ wb _ ?_))))
    intros
    refine wp_cond (t := decide ((pay C : Int) + 40 - (o : Int) < 0)) (by kernel_rfl) ?_
    by_cases c1 : pay C + 40 < o
    · rw [decide_eq_true (show (pay C : Int) + 40 - (o : Int) < 0 by omega), if_pos rfl]
      refine wp_seq (wp_use (d38 _ _ _ _ _ _ _ _ _ _ B N N5 w wb zpk bb hB bN rfl b5 _ ?_))
      intros
      rename_i er wy r1 r2 r3
      refine wp_ret ?_
      exact hQ _ _ false er wy ⟨rfl, rfl, rfl, rfl⟩ rfl r1 r2 (by rw [if_pos c1]; exact ⟨(htk 0).symm, rfl, newE_le bs r3⟩)
    · rw [decide_eq_false (show ¬ (pay C : Int) + 40 - (o : Int) < 0 by omega), if_neg Bool.false_ne_true]
      refine wp_seq (wp_use (d39 fg wb _ ?_))
      intros
      refine wp_cond (t := fg) (by kernel_rfl) ?_
      cases fg with
      | true =>
        refine wp_seq (wp_use (d40 _ _ _ _ _ _ _ _ _ _ B N N5 w wb zpk bb hB bN rfl b5 hB0 ev bg _ ?_))
        intros
        rename_i wy r1 r2
        refine wp_ret ?_
        exact hQ _ _ false ev wy ⟨rfl, rfl, rfl, rfl⟩ rfl r1 r2 (by rw [if_neg c1, if_pos rfl]; exact ⟨(htk 0).symm, rfl, rfl⟩)
      | false =>
        refine wp_seq (wp_use (d41 _ n c o wb _ ?_))
        intros
        refine wp_cond (t := decide (n < o)) (by kernel_rfl) ?_
        by_cases c2 : n < o
        · rw [decide_eq_true c2, if_pos rfl]
          refine wp_seq (wp_use (d42 F _ _ _ _ _ _ _ _ _ _ B N N5 w wb zpk bb hB bN rfl b5 (by rw [btp]; exact hF) _ ?_))
          intros
          rename_i er wy r1 r2 r3
          refine wp_ret ?_
          exact hQ _ _ false er wy ⟨rfl, rfl, rfl, rfl⟩ rfl r1 r2 (by rw [if_neg c1, if_neg Bool.false_ne_true, if_pos c2]; exact ⟨(htk 0).symm, rfl, newE_le bs r3⟩)
        · rw [decide_eq_false c2, if_neg Bool.false_ne_true]
          refine wp_skip ?_
          refine wp_seq (wp_use (d43 _ _ _ _ _ _ _ _ _ _ ((pay C : Int) + 40 - (o : Int)) N5 B w wb bb hB5 b5 _ ?_))
          intros
          rename_i wy r1 r2 r3
          refine wp_seq (wp_use (d44 _ _ _ _ _ _ _ _ _ _ B N N5 w wy zpk r2 hB (by rw [r3 N hne]; exact bN) rfl r1 _ ?_))
          intros
          rename_i wz s1 s2
          refine wp_ret ?_
          exact hQ _ _ true .nilIface wz ⟨rfl, rfl, rfl, rfl⟩ rfl s1 s2 (by rw [if_neg c1, if_neg Bool.false_ne_true, if_neg c2]; exact ⟨(htk _).symm, rfl, rfl⟩)
  refine wp_seq (wp_seq (wp_use (d35 _ n c o wa _ ?_)))
  intros
  refine wp_cond (t := decide (o ≤ n)) (by kernel_rfl) ?_
  by_cases c0 : o ≤ n
  · rw [decide_eq_true c0, if_pos rfl]
    refine wp_use (d36 _ _ _ _ _ _ _ _ _ _ b off n c o N5 B w wa c0 hcap hb hB5 h5 _ ?_)
    intros
    rename_i wy r1 r2 r3
    refine key wy _ _ _ r2 (by rw [r2.tape, hb.tape]) (by rw [World.cell?_of_block (a := ⟨0, 0, none⟩) (r3 0 (by omega))]; exact hg) (by have := (Array.getElem?_eq_some_iff.1 r1).1; omega) (by rw [r3 N hne]; exact hN) r1 (fun len => by rw [tcpk, if_pos c0])
  · rw [decide_eq_false c0, if_neg Bool.false_ne_true]
    refine wp_skip ?_
    exact key wa none 0 0 hb rfl hg hBs hN h5 (fun len => by rw [tcpk, if_neg c0])
end Go.Proofs.YbulkblsgFmt

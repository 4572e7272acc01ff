import Derived.Test.YbulkblsgFmtTm
import Derived.Test.YbulkblsgFmtTn
namespace Go.Proofs.YbulkblsgFmt
open Go.RowKit Go.Sort
set_option linter.unusedVariables false
set_option linter.unusedSimpArgs false
structure LA where
  n : Nat
  p : Nat
  pn : Nat
  gr : Nat
  tk : Nat
  bd : Nat
  a0 : Option Addr
  a1 : Option Addr
  a5 : Option Addr
  ab : Nat
  ao : Nat
  c0 : Nat
  pb : Nat
  po : Nat
  c1 : Nat
  xb : Nat
  xo : Nat
  c5 : Nat
  dl : Nat → Nat
  pbv : Nat → Bool
  pre : List Int
namespace LA
variable (q : LA)
def g : Nat := 1 + q.gr % 1000
def pk (i : Nat) : Bool := decide (q.pn ≤ i) || q.pbv i
def T (x : Nat) : Nat := tck (q.dl x) q.g
def ls (x : Nat) : Nat := lst (q.T x) q.tk
structure Ok (w : World) : Prop where
  n300 : q.n ≤ 300
  p1024 : q.p ≤ 1024
  plen : q.pre.length = q.p
  gr : q.gr < 65536
  tk : q.tk < 4294967296
  bd : q.bd < 4294967296
  dl : ∀ x, q.dl x < 4294967296
  ha0 : 0 < q.n → q.a0 = some ⟨q.ab, q.ao, none⟩
  ha1 : 0 < q.pn → q.a1 = some ⟨q.pb, q.po, none⟩
  ha5 : 0 < q.p → q.a5 = some ⟨q.xb, q.xo, none⟩
  cdl : ∀ i, i < q.n → w.cell? ⟨q.ab, q.ao + i, none⟩ = some (.int .u32 ((q.dl i : Nat) : Int))
  cpb : ∀ i, i < q.pn → w.cell? ⟨q.pb, q.po + i, none⟩ = some (.bool (q.pbv i))
  cpx : ∀ i, i < q.p → w.cell? ⟨q.xb, q.xo + i, none⟩ = some (.int .i64 (q.pre.getD i 0))
theorem g1 : 1 ≤ q.g := by unfold g; omega
theorem g2 : q.g ≤ 1000 := by unfold g; omega
/-- Behind fire. -/
structure S2 (w : World) (D C Lb G cp : Nat) (F : Nat → Value) (nx pv hd oc : Nat → Int) (wq : World) : Prop where
  rd : wq.rowIs D 42 722 (dv (q.g : Int) (q.tk : Int) C q.n hd oc (.slice none 0 0) (.slice none 0 0))
  rc : wq.rowIs C 44 (q.n * 3) (cv (fun x => (q.dl x : Int)) nx pv)
  rl : wq.rowIs Lb 4 q.n (fun k => .bool (q.pk k))
  ro : wq.rowIs G 3 cp F
  be : Below w.heap.size w wq
theorem S2.drewN {q : LA} {w : World} {D C Lb G cp : Nat} {F : Nat → Value} {nx pv hd oc : Nat → Int} {wq : World} (s : q.S2 w D C Lb G cp F nx pv hd oc wq) (k : Nat) : q.S2 w D C Lb G cp F nx pv hd oc (wq.drewN k) := ⟨s.rd, s.rc, s.rl, s.ro, ⟨s.be.os, s.be.tape, s.be.output, s.be.size, s.be.block⟩⟩
theorem S2.grown {q : LA} {w : World} {D C Lb G cp : Nat} {F : Nat → Value} {nx pv hd oc : Nat → Int} {wq w2 : World} {Wb : Nat} (s : q.S2 w D C Lb G cp F nx pv hd oc wq) (hg : wq.grownBy w2 (some Wb)) (hB : w.heap.size ≤ Wb) (h1 : Wb ≠ D) (h2 : Wb ≠ C) (h3 : Wb ≠ Lb) (h4 : Wb ≠ G) : q.S2 w D C Lb G cp F nx pv hd oc w2 := by
  have e : ∀ b, b < wq.heap.size → Wb ≠ b → w2.heap[b]? = wq.heap[b]? := fun b hb hne => hg.block b hb (fun e => hne (by injection e with e; exact e.symm))
  refine ⟨s.rd.of_block (e D s.rd.lt h1), s.rc.of_block (e C s.rc.lt h2), s.rl.of_block (e Lb s.rl.lt h3), s.ro.of_block (e G s.ro.lt h4), ⟨hg.os.trans s.be.os, hg.tape.trans s.be.tape, hg.output.trans s.be.output, Nat.le_trans s.be.size hg.size, fun k hk => (e k (Nat.lt_of_lt_of_le hk s.be.size) (by omega)).trans (s.be.block k hk)⟩⟩
end LA
theorem ret3 {f : Nat → Value} {w wy : World} (h12 : f 12 = .bool true) (hb : Below w.heap.size w wy) : bodyPost Ybaf.prog Ybaf.f3 (fun e w' => e = .returned (.bool true) ∧ Below w.heap.size w w') .ret (Fm 309 f) wy := by
  refine bodyPost_ret_by (v := .bool true) ?_ rfl ⟨rfl, hb⟩
  rw [results_tmp (t := 12) rfl]
  rw [evG (N := 309) (k := 12) rfl h12]
theorem l3_18 : dropC 18 l3 = ((headC (headC (dropC 18 l3))).seq (Code.block 12 (.loop l3g))).seq ((headC (dropC 19 l3)).seq .ret) := by kernel_rfl
theorem l3g_eq : l3g = ((headC (headC l3g)).seq (Code.cond (.tmp 239) .skip (.exit 12))).seq ((Code.block 13 b3g).seq (dropC 2 l3g)) := by kernel_rfl
theorem b3g_eq : b3g = (headC b3g).seq (((headC (headC (dropC 1 b3g))).seq (Code.cond (.tmp 252) (((headC (headC (thnC (tailC (headC (dropC 1 b3g)))))).seq (Code.cond (.tmp 253) (thnC (tailC (headC (thnC (tailC (headC (dropC 1 b3g))))))) .skip)).seq (.exit 13)) .skip)).seq ((headC (dropC 2 b3g)).seq (((headC (headC (dropC 3 b3g))).seq (Code.cond (.tmp 263) (((headC (headC (thnC (tailC (headC (dropC 3 b3g)))))).seq (Code.cond (.tmp 264) (thnC (tailC (headC (thnC (tailC (headC (dropC 3 b3g))))))) .skip)).seq (.exit 13)) .skip)).seq (((headC (headC (dropC 4 b3g))).seq (Code.cond (.tmp 275) (thnC (tailC (headC (dropC 4 b3g)))) .skip)).seq (dropC 5 b3g))))) := by kernel_rfl
theorem b3g_5 : dropC 5 b3g = (headC (dropC 5 b3g)).seq ((headC (dropC 6 b3g)).seq ((headC (dropC 7 b3g)).seq (((headC (headC (dropC 8 b3g))).seq (Code.block 14 (.loop l3h))).seq ((headC (dropC 9 b3g)).seq (Code.cond (.tmp 308) (thnC (tailC (dropC 9 b3g))) .skip))))) := by kernel_rfl
theorem l3h_eq : l3h = ((headC (headC l3h)).seq (Code.cond (.tmp 292) .skip (.exit 14))).seq ((Code.block 15 b3h).seq (dropC 2 l3h)) := by kernel_rfl
theorem b3h_eq : b3h = ((headC (headC b3h)).seq (Code.cond (.tmp 298) ((headC (thnC (tailC (headC b3h)))).seq (.exit 14)) .skip)).seq (tailC b3h) := by kernel_rfl
set_option maxRecDepth 100000 in
set_option maxHeartbeats 1000000 in
theorem trav (q : LA) (w : World) (ok : q.Ok w) (D C Lb G cp : Nat) (F : Nat → Value) (nx pv hd oc : Nat → Int) (wq : World) (s : q.S2 w D C Lb G cp F nx pv hd oc wq) (fi : FI q.T q.ls q.bd q.n (lkd q.pk q.n) (lkd q.pk q.n) [] (-1) nx pv hd) (i : Nat) (hi : i < q.n) (hpk : q.pk i = true) (hT : q.bd ≤ q.T i) (Q : Exit → Act → World → Prop) (hend : ∀ f : Nat → Value, Has f [(0, .slice q.a0 q.n q.c0), (3, .int .u32 ((q.tk : Nat) : Int)), (4, .int .u32 ((q.bd : Nat) : Int)), (13, .int .i64 ((q.g : Nat) : Int)), (14, .int .i64 ((q.n : Nat) : Int)), (15, .pointer (some ⟨D, 0, none⟩)), (17, .slice (some ⟨Lb, 0, none⟩) q.n q.n), (29, .int .i64 ((i : Nat) : Int))] → Q .normal (Fm 309 f) wq) (f : Nat → Value) (H : Has f [(14, .int .i64 ((q.n : Nat) : Int)), (15, .pointer (some ⟨D, 0, none⟩)), (29, .int .i64 ((i : Nat) : Int)), (0, .slice q.a0 q.n q.c0), (3, .int .u32 ((q.tk : Nat) : Int)), (4, .int .u32 ((q.bd : Nat) : Int)), (13, .int .i64 ((q.g : Nat) : Int)), (17, .slice (some ⟨Lb, 0, none⟩) q.n q.n), (32, .int .u64 ((q.T i : Nat) : Int))]) :
    Code.wp Ybaf.prog (dropC 5 b3g) Q (Fm 309 f) wq := by
  have hn := ok.n300
  have hTl : q.T i < 4294967297 := tck_lt _ _ (ok.dl i)
  have hl : q.ls i ≤ 704 := lst_le _ _ (by omega) (by have := ok.tk; omega)
  have hmem : i ∈ mvd q.T q.ls q.bd (lkd q.pk q.n) (q.ls i) := (mem_mvd _ _ _).2 ⟨mem_lkd.2 ⟨hi, hpk⟩, hT, rfl⟩
  have hlen : (mvd q.T q.ls q.bd (lkd q.pk q.n) (q.ls i)).length ≤ q.n := by
    unfold mvd
    rw [List.length_reverse]
    exact Nat.le_trans (List.length_filter_le _ _) (lkd_len _ _)
  have hmlt : ∀ x, x ∈ mvd q.T q.ls q.bd (lkd q.pk q.n) (q.ls i) → x < q.n := fun x hx => (mem_lkd.1 ((mem_mvd _ _ _).1 hx).1).1
  rw [b3g_5]
  refine wp_seq (wp_use (m62 (q.T i) q.tk wq (by omega) ok.tk f H.2.2.2.2.1 H.2.2.2.2.2.2.2.2.1 _ ?_))
  intro f1  S1 e1_33 
  have H1 : Has f1 [(33, .int .i32 ((q.ls i : Nat) : Int)), (14, .int .i64 ((q.n : Nat) : Int)), (15, .pointer (some ⟨D, 0, none⟩)), (29, .int .i64 ((i : Nat) : Int)), (0, .slice q.a0 q.n q.c0), (3, .int .u32 ((q.tk : Nat) : Int)), (4, .int .u32 ((q.bd : Nat) : Int)), (13, .int .i64 ((q.g : Nat) : Int)), (17, .slice (some ⟨Lb, 0, none⟩) q.n q.n), (32, .int .u64 ((q.T i : Nat) : Int))] := ⟨e1_33, H.keep S1⟩
  refine wp_seq (wp_use (m63 D (q.ls i) (hd (q.ls i)) wq hl (by rw [s.rd.cell (by omega)]; exact congrArg some (dv_h _ (by omega))) f1 H1.2.2.1 H1.1 _ ?_))
  intro f2  S2 e2_34 
  have H2 : Has f2 [(34, .int .i32 (hd (q.ls i))), (33, .int .i32 ((q.ls i : Nat) : Int)), (14, .int .i64 ((q.n : Nat) : Int)), (15, .pointer (some ⟨D, 0, none⟩)), (29, .int .i64 ((i : Nat) : Int)), (0, .slice q.a0 q.n q.c0), (3, .int .u32 ((q.tk : Nat) : Int)), (4, .int .u32 ((q.bd : Nat) : Int)), (13, .int .i64 ((q.g : Nat) : Int)), (17, .slice (some ⟨Lb, 0, none⟩) q.n q.n), (32, .int .u64 ((q.T i : Nat) : Int))] := ⟨e2_34, H1.keep S2⟩
  refine wp_seq (wp_use (m64 wq f2  _ ?_))
  intro f3  S3 e3_35 
  have H3 : Has f3 [(35, .bool false), (34, .int .i32 (hd (q.ls i))), (33, .int .i32 ((q.ls i : Nat) : Int)), (14, .int .i64 ((q.n : Nat) : Int)), (15, .pointer (some ⟨D, 0, none⟩)), (29, .int .i64 ((i : Nat) : Int)), (0, .slice q.a0 q.n q.c0), (3, .int .u32 ((q.tk : Nat) : Int)), (4, .int .u32 ((q.bd : Nat) : Int)), (13, .int .i64 ((q.g : Nat) : Int)), (17, .slice (some ⟨Lb, 0, none⟩) q.n q.n), (32, .int .u64 ((q.T i : Nat) : Int))] := ⟨e3_35, H2.keep S3⟩
  refine wp_join (fun a' w' => w' = wq ∧ ∃ f : Nat → Value, a' = Fm 309 f ∧ Has f [(0, .slice q.a0 q.n q.c0), (3, .int .u32 ((q.tk : Nat) : Int)), (4, .int .u32 ((q.bd : Nat) : Int)), (13, .int .i64 ((q.g : Nat) : Int)), (14, .int .i64 ((q.n : Nat) : Int)), (15, .pointer (some ⟨D, 0, none⟩)), (17, .slice (some ⟨Lb, 0, none⟩) q.n q.n), (29, .int .i64 ((i : Nat) : Int)), (35, .bool true)]) ?_ ?_
  · refine wp_seq (wp_use (m65 wq f3  _ ?_))
    intro f4  S4 e4_36 
    have H4 : Has f4 [(36, .int .i64 ((0 : Nat) : Int)), (35, .bool false), (34, .int .i32 (hd (q.ls i))), (33, .int .i32 ((q.ls i : Nat) : Int)), (14, .int .i64 ((q.n : Nat) : Int)), (15, .pointer (some ⟨D, 0, none⟩)), (29, .int .i64 ((i : Nat) : Int)), (0, .slice q.a0 q.n q.c0), (3, .int .u32 ((q.tk : Nat) : Int)), (4, .int .u32 ((q.bd : Nat) : Int)), (13, .int .i64 ((q.g : Nat) : Int)), (17, .slice (some ⟨Lb, 0, none⟩) q.n q.n), (32, .int .u64 ((q.T i : Nat) : Int))] := ⟨e4_36, H3.keep S4⟩
    refine wp_block (wp_loop_ghost (fun k a' w' => w' = wq ∧ ∃ (f : Nat → Value) (L : List Nat) (z : Int) (st : Nat), a' = Fm 309 f ∧ k = L.length ∧ Ch nx z L ∧ i ∈ L ∧ (∀ x, x ∈ L → x < q.n) ∧ st + L.length ≤ q.n ∧ Has f [(0, .slice q.a0 q.n q.c0), (3, .int .u32 ((q.tk : Nat) : Int)), (4, .int .u32 ((q.bd : Nat) : Int)), (13, .int .i64 ((q.g : Nat) : Int)), (14, .int .i64 ((q.n : Nat) : Int)), (15, .pointer (some ⟨D, 0, none⟩)), (17, .slice (some ⟨Lb, 0, none⟩) q.n q.n), (29, .int .i64 ((i : Nat) : Int)), (34, .int .i32 z), (36, .int .i64 ((st : Nat) : Int))]) _ ⟨rfl, f4, _, _, 0, rfl, rfl, fi.lists _ hl, hmem, hmlt, by omega, ⟨H4.2.2.2.2.2.2.2.1, H4.2.2.2.2.2.2.2.2.1, H4.2.2.2.2.2.2.2.2.2.1, H4.2.2.2.2.2.2.2.2.2.2.1, H4.2.2.2.2.1, H4.2.2.2.2.2.1, H4.2.2.2.2.2.2.2.2.2.2.2.1, H4.2.2.2.2.2.2.1, H4.2.2.1, H4.1, trivial⟩⟩ ?_)
    rintro k _ w0 ⟨rfl, f, L, z, st, rfl, rfl, hch, hiL, hLn, hst, H⟩
    rw [l3h_eq]
    cases L with
    | nil => simp at hiL
    | cons x L =>
      obtain ⟨rfl, hch2⟩ := hch
      have hxn := hLn x (by simp)
      simp only [List.length_cons] at hst
      refine wp_seq (wp_seq (wp_use (m66 x st q.n w0 (by omega) f H.2.2.2.2.1 H.2.2.2.2.2.2.2.2.1 H.2.2.2.2.2.2.2.2.2.1 _ ?_)))
      intro f41  S41 e41_292 
      have H41 : Has f41 [(292, .bool true), (0, .slice q.a0 q.n q.c0), (3, .int .u32 ((q.tk : Nat) : Int)), (4, .int .u32 ((q.bd : Nat) : Int)), (13, .int .i64 ((q.g : Nat) : Int)), (14, .int .i64 ((q.n : Nat) : Int)), (15, .pointer (some ⟨D, 0, none⟩)), (17, .slice (some ⟨Lb, 0, none⟩) q.n q.n), (29, .int .i64 ((i : Nat) : Int)), (34, .int .i32 ((x : Nat) : Int)), (36, .int .i64 ((st : Nat) : Int))] := ⟨e41_292, H.keep S41⟩
      refine wp_cond_true (evN rfl H41.1) (wp_skip ?_)
      refine wp_seq (wp_block ?_)
      rw [b3h_eq]
      refine wp_seq (wp_seq (wp_use (m68 x i w0 (by omega) f41 H41.2.2.2.2.2.2.2.2.1 H41.2.2.2.2.2.2.2.2.2.1 _ ?_)))
      intro f42  S42 e42_298 
      have H42 : Has f42 [(298, .bool (((x : Nat) : Int) == ((i : Nat) : Int))), (292, .bool true), (0, .slice q.a0 q.n q.c0), (3, .int .u32 ((q.tk : Nat) : Int)), (4, .int .u32 ((q.bd : Nat) : Int)), (13, .int .i64 ((q.g : Nat) : Int)), (14, .int .i64 ((q.n : Nat) : Int)), (15, .pointer (some ⟨D, 0, none⟩)), (17, .slice (some ⟨Lb, 0, none⟩) q.n q.n), (29, .int .i64 ((i : Nat) : Int)), (34, .int .i32 ((x : Nat) : Int)), (36, .int .i64 ((st : Nat) : Int))] := ⟨e42_298, H41.keep S42⟩
      by_cases hxi : x = i
      · refine wp_cond_true (evN rfl (H42.1.trans (by rw [hxi]; simp))) ?_
        refine wp_seq (wp_use (m69 w0 f42  _ ?_))
        intro f43  S43 e43_35 
        have H43 : Has f43 [(35, .bool true), (298, .bool (((x : Nat) : Int) == ((i : Nat) : Int))), (292, .bool true), (0, .slice q.a0 q.n q.c0), (3, .int .u32 ((q.tk : Nat) : Int)), (4, .int .u32 ((q.bd : Nat) : Int)), (13, .int .i64 ((q.g : Nat) : Int)), (14, .int .i64 ((q.n : Nat) : Int)), (15, .pointer (some ⟨D, 0, none⟩)), (17, .slice (some ⟨Lb, 0, none⟩) q.n q.n), (29, .int .i64 ((i : Nat) : Int)), (34, .int .i32 ((x : Nat) : Int)), (36, .int .i64 ((st : Nat) : Int))] := ⟨e43_35, H42.keep S43⟩
        exact wp_exit ⟨rfl, f43, rfl, ⟨H43.2.2.2.1, H43.2.2.2.2.1, H43.2.2.2.2.2.1, H43.2.2.2.2.2.2.1, H43.2.2.2.2.2.2.2.1, H43.2.2.2.2.2.2.2.2.1, H43.2.2.2.2.2.2.2.2.2.1, H43.2.2.2.2.2.2.2.2.2.2.1, H43.1, trivial⟩⟩
      · have hb : (((x : Nat) : Int) == ((i : Nat) : Int)) = false := by simp; omega
        refine wp_cond_false (evN rfl (H42.1.trans (by rw [hb]))) (wp_skip ?_)
        refine wp_use (m70 D C q.n x (nx x) w0 hxn (s.rd.cell (by omega)) (by rw [s.rc.cell (by omega)]; exact congrArg some (cv_1 x)) f42 H42.2.2.2.2.2.2.2.1 H42.2.2.2.2.2.2.2.2.2.2.1 _ ?_)
        intro f43  S43 e43_34 
        have H43 : Has f43 [(34, .int .i32 (nx x)), (298, .bool (((x : Nat) : Int) == ((i : Nat) : Int))), (292, .bool true), (0, .slice q.a0 q.n q.c0), (3, .int .u32 ((q.tk : Nat) : Int)), (4, .int .u32 ((q.bd : Nat) : Int)), (13, .int .i64 ((q.g : Nat) : Int)), (14, .int .i64 ((q.n : Nat) : Int)), (15, .pointer (some ⟨D, 0, none⟩)), (17, .slice (some ⟨Lb, 0, none⟩) q.n q.n), (29, .int .i64 ((i : Nat) : Int)), (36, .int .i64 ((st : Nat) : Int))] := ⟨e43_34, H42.keep S43⟩
        refine wp_use (m67 st w0 (by omega) f43 H43.2.2.2.2.2.2.2.2.2.2.2.1 _ ?_)
        intro f44  S44 e44_36 
        have H44 : Has f44 [(36, .int .i64 (((st : Nat) : Int) + 1)), (34, .int .i32 (nx x)), (298, .bool (((x : Nat) : Int) == ((i : Nat) : Int))), (292, .bool true), (0, .slice q.a0 q.n q.c0), (3, .int .u32 ((q.tk : Nat) : Int)), (4, .int .u32 ((q.bd : Nat) : Int)), (13, .int .i64 ((q.g : Nat) : Int)), (14, .int .i64 ((q.n : Nat) : Int)), (15, .pointer (some ⟨D, 0, none⟩)), (17, .slice (some ⟨Lb, 0, none⟩) q.n q.n), (29, .int .i64 ((i : Nat) : Int))] := ⟨e44_36, H43.keep S44⟩
        have hiL2 : i ∈ L := by
          rcases List.mem_cons.1 hiL with e | e
          · exact absurd e.symm hxi
          · exact e
        exact ⟨L.length, by simp, rfl, f44, L, nx x, st + 1, rfl, rfl, hch2, hiL2, fun y hy => hLn y (by simp [hy]), by omega, ⟨H44.2.2.2.2.1, H44.2.2.2.2.2.1, H44.2.2.2.2.2.2.1, H44.2.2.2.2.2.2.2.1, H44.2.2.2.2.2.2.2.2.1, H44.2.2.2.2.2.2.2.2.2.1, H44.2.2.2.2.2.2.2.2.2.2.1, H44.2.2.2.2.2.2.2.2.2.2.2.1, H44.2.1, H44.1, trivial⟩⟩
  · rintro _ _ ⟨rfl, f, rfl, H⟩
    refine wp_seq (wp_use (m71 true _ f H.2.2.2.2.2.2.2.2.1 _ ?_))
    intro f81  S81 e81_308 
    have H81 : Has f81 [(308, .bool false), (0, .slice q.a0 q.n q.c0), (3, .int .u32 ((q.tk : Nat) : Int)), (4, .int .u32 ((q.bd : Nat) : Int)), (13, .int .i64 ((q.g : Nat) : Int)), (14, .int .i64 ((q.n : Nat) : Int)), (15, .pointer (some ⟨D, 0, none⟩)), (17, .slice (some ⟨Lb, 0, none⟩) q.n q.n), (29, .int .i64 ((i : Nat) : Int)), (35, .bool true)] := ⟨e81_308, H.keep S81⟩
    refine wp_cond_false (evN rfl H81.1) (wp_skip ?_)
    exact hend f81 ⟨H81.2.1, H81.2.2.1, H81.2.2.2.1, H81.2.2.2.2.1, H81.2.2.2.2.2.1, H81.2.2.2.2.2.2.1, H81.2.2.2.2.2.2.2.1, H81.2.2.2.2.2.2.2.2.1, trivial⟩
set_option maxRecDepth 100000 in
set_option maxHeartbeats 1000000 in
theorem roundG (q : LA) (w : World) (ok : q.Ok w) (D C Lb G cp : Nat) (F : Nat → Value) (nx pv hd oc : Nat → Int) (wq : World) (s : q.S2 w D C Lb G cp F nx pv hd oc wq) (fi : FI q.T q.ls q.bd q.n (lkd q.pk q.n) (lkd q.pk q.n) [] (-1) nx pv hd) (i : Nat) (hi : i < q.n) (Q : Exit → Act → World → Prop) (hend : ∀ f : Nat → Value, Has f [(0, .slice q.a0 q.n q.c0), (3, .int .u32 ((q.tk : Nat) : Int)), (4, .int .u32 ((q.bd : Nat) : Int)), (13, .int .i64 ((q.g : Nat) : Int)), (14, .int .i64 ((q.n : Nat) : Int)), (15, .pointer (some ⟨D, 0, none⟩)), (17, .slice (some ⟨Lb, 0, none⟩) q.n q.n), (29, .int .i64 ((i : Nat) : Int))] → Q .normal (Fm 309 f) wq) (hend2 : ∀ f : Nat → Value, Has f [(0, .slice q.a0 q.n q.c0), (3, .int .u32 ((q.tk : Nat) : Int)), (4, .int .u32 ((q.bd : Nat) : Int)), (13, .int .i64 ((q.g : Nat) : Int)), (14, .int .i64 ((q.n : Nat) : Int)), (15, .pointer (some ⟨D, 0, none⟩)), (17, .slice (some ⟨Lb, 0, none⟩) q.n q.n), (29, .int .i64 ((i : Nat) : Int))] → Q (.exit 13) (Fm 309 f) wq) (f : Nat → Value) (H : Has f [(0, .slice q.a0 q.n q.c0), (3, .int .u32 ((q.tk : Nat) : Int)), (4, .int .u32 ((q.bd : Nat) : Int)), (13, .int .i64 ((q.g : Nat) : Int)), (14, .int .i64 ((q.n : Nat) : Int)), (15, .pointer (some ⟨D, 0, none⟩)), (17, .slice (some ⟨Lb, 0, none⟩) q.n q.n), (29, .int .i64 ((i : Nat) : Int))]) :
    Code.wp Ybaf.prog b3g Q (Fm 309 f) wq := by
  have hn := ok.n300
  have hdlc : wq.cell? ⟨q.ab, q.ao + i, none⟩ = some (.int .u32 ((q.dl i : Nat) : Int)) := cell_later s.be (ok.cdl i hi)
  have ha0 := ok.ha0 (by omega)
  have hpv : wq.cell? ⟨C, i * 3 + 2, none⟩ = some (.int .i32 (pv i)) := by rw [s.rc.cell (by omega)]; exact congrArg some (cv_2 i)
  have hdc : wq.cell? ⟨C, i * 3, none⟩ = some (.int .i64 ((q.dl i : Nat) : Int)) := by rw [s.rc.cell (by omega)]; exact congrArg some (cv_0 i)
  have hc10 : CallR 10 #[.pointer (some ⟨D, 0, none⟩), .int .i64 ((i : Nat) : Int)] wq fun v w' => ∃ x y : Value, v = .tuple #[x, y] ∧ (x = .int .i64 (if pv i = -2147483648 then 0 else ((q.dl i : Nat) : Int)) ∧ y = .bool (!(pv i == -2147483648)) ∧ w' = wq) :=
    (deadline_any D C q.n i _ _ wq hi (by omega) (s.rd.cell (by omega)) hdc hpv).mono fun e w' ⟨h1, h2⟩ => ⟨_, h1, _, _, rfl, rfl, rfl, h2⟩
  rw [b3g_eq]
  refine wp_seq (wp_use (m52 D i wq _ hc10 f H.2.2.2.2.2.1 H.2.2.2.2.2.2.2.1 _ ?_))
  intro f1 x y w1 S1 e1_30 e1_31 hR
  have H1 : Has f1 [(30, x), (31, y), (0, .slice q.a0 q.n q.c0), (3, .int .u32 ((q.tk : Nat) : Int)), (4, .int .u32 ((q.bd : Nat) : Int)), (13, .int .i64 ((q.g : Nat) : Int)), (14, .int .i64 ((q.n : Nat) : Int)), (15, .pointer (some ⟨D, 0, none⟩)), (17, .slice (some ⟨Lb, 0, none⟩) q.n q.n), (29, .int .i64 ((i : Nat) : Int))] := ⟨e1_30, e1_31, H.keep S1⟩
  obtain ⟨rfl, rfl, rfl⟩ := hR
  refine wp_seq (wp_seq (wp_use (m53 Lb q.n i (q.pk i) w1 hi (s.rl.cell hi) f1 H1.2.2.2.2.2.2.2.2.1 H1.2.2.2.2.2.2.2.2.2.1 _ ?_)))
  intro f2  S2 e2_252 
  have H2 : Has f2 [(252, .bool (!(q.pk i))), (30, .int .i64 (if pv i = -2147483648 then 0 else ((q.dl i : Nat) : Int))), (31, .bool (!(pv i == -2147483648))), (0, .slice q.a0 q.n q.c0), (3, .int .u32 ((q.tk : Nat) : Int)), (4, .int .u32 ((q.bd : Nat) : Int)), (13, .int .i64 ((q.g : Nat) : Int)), (14, .int .i64 ((q.n : Nat) : Int)), (15, .pointer (some ⟨D, 0, none⟩)), (17, .slice (some ⟨Lb, 0, none⟩) q.n q.n), (29, .int .i64 ((i : Nat) : Int))] := ⟨e2_252, H1.keep S2⟩
  cases hpk : q.pk i with
  | false =>
    have hdis : pv i = -2147483648 := fi.dis i hi (Or.inl (fun hm => by have := (mem_lkd.1 hm).2; rw [hpk] at this; cases this))
    have hokf : (!(pv i == -2147483648)) = false := by rw [hdis]; rfl
    refine wp_cond_true (evN rfl (H2.1.trans (by rw [hpk]; rfl))) ?_
    rw [hokf] at H2
    refine wp_seq (wp_seq (wp_use (m54 false w1 f2 H2.2.2.1 _ ?_)))
    intro f3  S3 e3_253 
    have H3 : Has f3 [(253, .bool false), (252, .bool (!(q.pk i))), (30, .int .i64 (if pv i = -2147483648 then 0 else ((q.dl i : Nat) : Int))), (31, .bool false), (0, .slice q.a0 q.n q.c0), (3, .int .u32 ((q.tk : Nat) : Int)), (4, .int .u32 ((q.bd : Nat) : Int)), (13, .int .i64 ((q.g : Nat) : Int)), (14, .int .i64 ((q.n : Nat) : Int)), (15, .pointer (some ⟨D, 0, none⟩)), (17, .slice (some ⟨Lb, 0, none⟩) q.n q.n), (29, .int .i64 ((i : Nat) : Int))] := ⟨e3_253, H2.keep S3⟩
    refine wp_cond_false (evN rfl H3.1) (wp_skip ?_)
    exact wp_exit (hend2 f3 ⟨H3.2.2.2.2.1, H3.2.2.2.2.2.1, H3.2.2.2.2.2.2.1, H3.2.2.2.2.2.2.2.1, H3.2.2.2.2.2.2.2.2.1, H3.2.2.2.2.2.2.2.2.2.1, H3.2.2.2.2.2.2.2.2.2.2.1, H3.2.2.2.2.2.2.2.2.2.2.2.1, trivial⟩)
  | true =>
    refine wp_cond_false (evN rfl (H2.1.trans (by rw [hpk]; rfl))) (wp_skip ?_)
    rw [ha0] at H2
    refine wp_seq (wp_use (m56 q.ab q.ao q.n q.c0 i (q.dl i) q.g w1 hi q.g1 q.g2 (ok.dl i) hdlc f2 H2.2.2.2.1 H2.2.2.2.2.2.2.1 H2.2.2.2.2.2.2.2.2.2.2.1 _ ?_))
    intro f3  S3 e3_32 
    have H3 : Has f3 [(32, .int .u64 ((q.T i : Nat) : Int)), (252, .bool (!(q.pk i))), (30, .int .i64 (if pv i = -2147483648 then 0 else ((q.dl i : Nat) : Int))), (31, .bool (!(pv i == -2147483648))), (0, .slice (some ⟨q.ab, q.ao, none⟩) q.n q.c0), (3, .int .u32 ((q.tk : Nat) : Int)), (4, .int .u32 ((q.bd : Nat) : Int)), (13, .int .i64 ((q.g : Nat) : Int)), (14, .int .i64 ((q.n : Nat) : Int)), (15, .pointer (some ⟨D, 0, none⟩)), (17, .slice (some ⟨Lb, 0, none⟩) q.n q.n), (29, .int .i64 ((i : Nat) : Int))] := ⟨e3_32, H2.keep S3⟩
    refine wp_seq (wp_seq (wp_use (m57 (q.T i) q.bd w1 ok.bd f3 H3.2.2.2.2.2.2.1 H3.1 _ ?_)))
    intro f4  S4 e4_263 
    have H4 : Has f4 [(263, .bool (decide (((q.T i : Nat) : Int) < ((q.bd : Nat) : Int)))), (32, .int .u64 ((q.T i : Nat) : Int)), (252, .bool (!(q.pk i))), (30, .int .i64 (if pv i = -2147483648 then 0 else ((q.dl i : Nat) : Int))), (31, .bool (!(pv i == -2147483648))), (0, .slice (some ⟨q.ab, q.ao, none⟩) q.n q.c0), (3, .int .u32 ((q.tk : Nat) : Int)), (4, .int .u32 ((q.bd : Nat) : Int)), (13, .int .i64 ((q.g : Nat) : Int)), (14, .int .i64 ((q.n : Nat) : Int)), (15, .pointer (some ⟨D, 0, none⟩)), (17, .slice (some ⟨Lb, 0, none⟩) q.n q.n), (29, .int .i64 ((i : Nat) : Int))] := ⟨e4_263, H3.keep S4⟩
    by_cases hlt : q.T i < q.bd
    · have hdis : pv i = -2147483648 := fi.dis i hi (Or.inr ⟨mem_lkd.2 ⟨hi, hpk⟩, hlt⟩)
      have hokf : (!(pv i == -2147483648)) = false := by rw [hdis]; rfl
      refine wp_cond_true (evN rfl (H4.1.trans (by rw [decide_eq_true (by omega)]))) ?_
      rw [hokf] at H4
      refine wp_seq (wp_seq (wp_use (m58 false w1 f4 H4.2.2.2.2.1 _ ?_)))
      intro f5  S5 e5_264 
      have H5 : Has f5 [(264, .bool false), (263, .bool (decide (((q.T i : Nat) : Int) < ((q.bd : Nat) : Int)))), (32, .int .u64 ((q.T i : Nat) : Int)), (252, .bool (!(q.pk i))), (30, .int .i64 (if pv i = -2147483648 then 0 else ((q.dl i : Nat) : Int))), (31, .bool false), (0, .slice (some ⟨q.ab, q.ao, none⟩) q.n q.c0), (3, .int .u32 ((q.tk : Nat) : Int)), (4, .int .u32 ((q.bd : Nat) : Int)), (13, .int .i64 ((q.g : Nat) : Int)), (14, .int .i64 ((q.n : Nat) : Int)), (15, .pointer (some ⟨D, 0, none⟩)), (17, .slice (some ⟨Lb, 0, none⟩) q.n q.n), (29, .int .i64 ((i : Nat) : Int))] := ⟨e5_264, H4.keep S5⟩
      refine wp_cond_false (evN rfl H5.1) (wp_skip ?_)
      rw [← ha0] at H5
      exact wp_exit (hend2 f5 ⟨H5.2.2.2.2.2.2.1, H5.2.2.2.2.2.2.2.1, H5.2.2.2.2.2.2.2.2.1, H5.2.2.2.2.2.2.2.2.2.1, H5.2.2.2.2.2.2.2.2.2.2.1, H5.2.2.2.2.2.2.2.2.2.2.2.1, H5.2.2.2.2.2.2.2.2.2.2.2.2.1, H5.2.2.2.2.2.2.2.2.2.2.2.2.2.1, trivial⟩)
    · have harm : pv i ≠ -2147483648 := fi.arm i (mem_lkd.2 ⟨hi, hpk⟩) (by omega)
      have hokt : (!(pv i == -2147483648)) = true := by simp [harm]
      have hdle : (if pv i = -2147483648 then 0 else ((q.dl i : Nat) : Int)) = ((q.dl i : Nat) : Int) := if_neg harm
      refine wp_cond_false (evN rfl (H4.1.trans (by rw [decide_eq_false (by omega)]))) (wp_skip ?_)
      rw [hokt, hdle] at H4
      refine wp_seq (wp_seq (wp_use (m60 q.ab q.ao q.n q.c0 i (q.dl i) w1 hi (ok.dl i) hdlc f4 H4.2.2.2.2.2.1 H4.2.2.2.2.2.2.2.2.2.2.2.2.1 H4.2.2.2.1 H4.2.2.2.2.1 _ ?_)))
      intro f5  S5 e5_275 
      have H5 : Has f5 [(275, .bool false), (263, .bool (decide (((q.T i : Nat) : Int) < ((q.bd : Nat) : Int)))), (32, .int .u64 ((q.T i : Nat) : Int)), (252, .bool (!(q.pk i))), (30, .int .i64 ((q.dl i : Nat) : Int)), (31, .bool true), (0, .slice (some ⟨q.ab, q.ao, none⟩) q.n q.c0), (3, .int .u32 ((q.tk : Nat) : Int)), (4, .int .u32 ((q.bd : Nat) : Int)), (13, .int .i64 ((q.g : Nat) : Int)), (14, .int .i64 ((q.n : Nat) : Int)), (15, .pointer (some ⟨D, 0, none⟩)), (17, .slice (some ⟨Lb, 0, none⟩) q.n q.n), (29, .int .i64 ((i : Nat) : Int))] := ⟨e5_275, H4.keep S5⟩
      refine wp_cond_false (evN rfl H5.1) (wp_skip ?_)
      rw [← ha0] at H5
      exact trav q w ok D C Lb G cp F nx pv hd oc w1 s fi i hi hpk (by omega) Q hend f5 ⟨H5.2.2.2.2.2.2.2.2.2.2.1, H5.2.2.2.2.2.2.2.2.2.2.2.1, H5.2.2.2.2.2.2.2.2.2.2.2.2.2.1, H5.2.2.2.2.2.2.1, H5.2.2.2.2.2.2.2.1, H5.2.2.2.2.2.2.2.2.1, H5.2.2.2.2.2.2.2.2.2.1, H5.2.2.2.2.2.2.2.2.2.2.2.2.1, H5.2.2.1, trivial⟩
set_option maxRecDepth 100000 in
set_option maxHeartbeats 1000000 in
theorem partG (q : LA) (w : World) (ok : q.Ok w) (D C Lb G cp : Nat) (F : Nat → Value) (nx pv hd oc : Nat → Int) (wq : World) (s : q.S2 w D C Lb G cp F nx pv hd oc wq) (fi : FI q.T q.ls q.bd q.n (lkd q.pk q.n) (lkd q.pk q.n) [] (-1) nx pv hd) (f : Nat → Value) (H : Has f [(0, .slice q.a0 q.n q.c0), (3, .int .u32 ((q.tk : Nat) : Int)), (4, .int .u32 ((q.bd : Nat) : Int)), (13, .int .i64 ((q.g : Nat) : Int)), (14, .int .i64 ((q.n : Nat) : Int)), (15, .pointer (some ⟨D, 0, none⟩)), (17, .slice (some ⟨Lb, 0, none⟩) q.n q.n)]) :
    Code.wp Ybaf.prog (dropC 18 l3) (bodyPost Ybaf.prog Ybaf.f3 (fun e w' => e = .returned (.bool true) ∧ Below w.heap.size w w')) (Fm 309 f) wq := by
  have hn := ok.n300
  rw [l3_18]
  refine wp_join (fun a' w' => w' = wq ∧ ∃ f : Nat → Value, a' = Fm 309 f) ?_ ?_
  · refine wp_seq (wp_use (m49 wq f  _ ?_))
    intro f1  S1 e1_29 
    have H1 : Has f1 [(29, .int .i64 ((0 : Nat) : Int)), (0, .slice q.a0 q.n q.c0), (3, .int .u32 ((q.tk : Nat) : Int)), (4, .int .u32 ((q.bd : Nat) : Int)), (13, .int .i64 ((q.g : Nat) : Int)), (14, .int .i64 ((q.n : Nat) : Int)), (15, .pointer (some ⟨D, 0, none⟩)), (17, .slice (some ⟨Lb, 0, none⟩) q.n q.n)] := ⟨e1_29, H.keep S1⟩
    refine wp_block (wp_loop_ghost (fun k a' w' => w' = wq ∧ ∃ (f : Nat → Value) (i : Nat), a' = Fm 309 f ∧ k = q.n - i ∧ i ≤ q.n ∧ Has f [(0, .slice q.a0 q.n q.c0), (3, .int .u32 ((q.tk : Nat) : Int)), (4, .int .u32 ((q.bd : Nat) : Int)), (13, .int .i64 ((q.g : Nat) : Int)), (14, .int .i64 ((q.n : Nat) : Int)), (15, .pointer (some ⟨D, 0, none⟩)), (17, .slice (some ⟨Lb, 0, none⟩) q.n q.n), (29, .int .i64 ((i : Nat) : Int))]) q.n ⟨rfl, f1, 0, rfl, by omega, by omega, ⟨H1.2.1, H1.2.2.1, H1.2.2.2.1, H1.2.2.2.2.1, H1.2.2.2.2.2.1, H1.2.2.2.2.2.2.1, H1.2.2.2.2.2.2.2.1, H1.1, trivial⟩⟩ ?_)
    rintro k _ w0 ⟨rfl, f, i, rfl, rfl, hi, H⟩
    rw [l3g_eq]
    refine wp_seq (wp_seq (wp_use (m50 i q.n w0 f H.2.2.2.2.1 H.2.2.2.2.2.2.2.1 _ ?_)))
    intro f41  S41 e41_239 
    have H41 : Has f41 [(239, .bool (decide (((i : Nat) : Int) < ((q.n : Nat) : Int)))), (0, .slice q.a0 q.n q.c0), (3, .int .u32 ((q.tk : Nat) : Int)), (4, .int .u32 ((q.bd : Nat) : Int)), (13, .int .i64 ((q.g : Nat) : Int)), (14, .int .i64 ((q.n : Nat) : Int)), (15, .pointer (some ⟨D, 0, none⟩)), (17, .slice (some ⟨Lb, 0, none⟩) q.n q.n), (29, .int .i64 ((i : Nat) : Int))] := ⟨e41_239, H.keep S41⟩
    by_cases hlt : i < q.n
    · refine wp_cond_true (evN rfl (H41.1.trans (by rw [decide_eq_true (by omega)]))) (wp_skip ?_)
      refine wp_seq (wp_block ?_)
      refine roundG q w ok D C Lb G cp F nx pv hd oc w0 s fi i hlt _ ?_ ?_ f41 ⟨H41.2.1, H41.2.2.1, H41.2.2.2.1, H41.2.2.2.2.1, H41.2.2.2.2.2.1, H41.2.2.2.2.2.2.1, H41.2.2.2.2.2.2.2.1, H41.2.2.2.2.2.2.2.2.1, trivial⟩
      · intro f H
        refine wp_use (m51 i w0 (by omega) f H.2.2.2.2.2.2.2.1 _ ?_)
        intro f61  S61 e61_29 
        have H61 : Has f61 [(29, .int .i64 (((i : Nat) : Int) + 1)), (0, .slice q.a0 q.n q.c0), (3, .int .u32 ((q.tk : Nat) : Int)), (4, .int .u32 ((q.bd : Nat) : Int)), (13, .int .i64 ((q.g : Nat) : Int)), (14, .int .i64 ((q.n : Nat) : Int)), (15, .pointer (some ⟨D, 0, none⟩)), (17, .slice (some ⟨Lb, 0, none⟩) q.n q.n)] := ⟨e61_29, H.keep S61⟩
        exact ⟨q.n - (i + 1), by omega, rfl, f61, i + 1, rfl, rfl, by omega, ⟨H61.2.1, H61.2.2.1, H61.2.2.2.1, H61.2.2.2.2.1, H61.2.2.2.2.2.1, H61.2.2.2.2.2.2.1, H61.2.2.2.2.2.2.2.1, H61.1, trivial⟩⟩
      · intro f H
        refine wp_use (m51 i w0 (by omega) f H.2.2.2.2.2.2.2.1 _ ?_)
        intro f61  S61 e61_29 
        have H61 : Has f61 [(29, .int .i64 (((i : Nat) : Int) + 1)), (0, .slice q.a0 q.n q.c0), (3, .int .u32 ((q.tk : Nat) : Int)), (4, .int .u32 ((q.bd : Nat) : Int)), (13, .int .i64 ((q.g : Nat) : Int)), (14, .int .i64 ((q.n : Nat) : Int)), (15, .pointer (some ⟨D, 0, none⟩)), (17, .slice (some ⟨Lb, 0, none⟩) q.n q.n)] := ⟨e61_29, H.keep S61⟩
        exact ⟨q.n - (i + 1), by omega, rfl, f61, i + 1, rfl, rfl, by omega, ⟨H61.2.1, H61.2.2.1, H61.2.2.2.1, H61.2.2.2.2.1, H61.2.2.2.2.2.1, H61.2.2.2.2.2.2.1, H61.2.2.2.2.2.2.2.1, H61.1, trivial⟩⟩
    · refine wp_cond_false (evN rfl (H41.1.trans (by rw [decide_eq_false (by omega)]))) (wp_exit ?_)
      exact ⟨rfl, _, rfl⟩
  · rintro _ _ ⟨rfl, f, rfl⟩
    refine wp_seq (wp_use (m73 _ f  _ ?_))
    intro f81  S81 e81_12 
    exact wp_ret (ret3 e81_12 s.be)
end Go.Proofs.YbulkblsgFmt

import Derived.Test.YbulkblsgFmtTr
namespace Go.Proofs.YbulkblsgFmt
open Go.RowKit Go.Sort
set_option linter.unusedVariables false
set_option linter.unusedSimpArgs false
theorem l3_9 : dropC 9 l3 = (headC (dropC 9 l3)).seq ((headC (dropC 10 l3)).seq ((headC (dropC 11 l3)).seq (dropC 12 l3))) := by kernel_rfl
theorem l3_8 : dropC 8 l3 = ((headC (headC (dropC 8 l3))).seq (Code.block 0 (.loop l3a))).seq (dropC 9 l3) := by kernel_rfl
theorem l3a_eq : l3a = ((headC (headC l3a)).seq (Code.cond (.tmp 73) .skip (.exit 0))).seq ((Code.block 1 b3a).seq (dropC 2 l3a)) := by kernel_rfl
theorem b3a_eq : b3a = (headC b3a).seq ((headC (tailC b3a)).seq (Code.cond (.tmp 97) ((headC (thnC (tailC (tailC b3a)))).seq (tailC (thnC (tailC (tailC b3a))))) .skip)) := by kernel_rfl
theorem l3_0 : l3 = (headC l3).seq (((headC (headC (dropC 1 l3))).seq (Code.cond (.tmp 44) ((headC (thnC (tailC (headC (dropC 1 l3))))).seq .ret) .skip)).seq ((headC (dropC 2 l3)).seq ((headC (dropC 3 l3)).seq ((headC (dropC 4 l3)).seq (((headC (headC (dropC 5 l3))).seq (Code.cond (.tmp 63) (thnC (tailC (headC (dropC 5 l3)))) .skip)).seq ((headC (dropC 6 l3)).seq ((headC (dropC 7 l3)).seq (dropC 8 l3)))))))) := by kernel_rfl
theorem copy_in (wq : World) (a5 : Option Addr) (xb xo p c5 : Nat) (pre : List Int) (hpl : pre.length = p) (hp : p ≤ 1024) (ha : 0 < p → a5 = some ⟨xb, xo, none⟩) (hc : ∀ i, i < p → wq.cell? ⟨xb, xo + i, none⟩ = some (.int .i64 (pre.getD i 0))) :
    ∃ r w9, (∀ ty, (Builtin.copy_ #[26, 26] ty #[.slice (some ⟨wq.heap.size, 0, none⟩) p p, .slice a5 p c5]).run Ybaf.prog (wq.alloc (.cells (madeCells #[.int .i64 0] p) 3)) = .ok r w9) ∧ w9.ownsRow 0 3 1 (.slice (some ⟨wq.heap.size, 0, none⟩) p p) p (vals pre) ∧ wq.grownBy w9 (some wq.heap.size) := by
  have hi : (Ybaf.prog.info? 3).map (·.size) = some 1 := by kernel_rfl
  have hh : (wq.alloc (.cells (madeCells #[.int .i64 0] p) 3)).heap[wq.heap.size]? = some (.cells (madeCells #[.int .i64 0] p) 3 (0, 0)) := by
    show (wq.heap.push _)[wq.heap.size]? = _
    rw [Array.getElem?_push, if_pos rfl]
  by_cases h0 : p = 0
  · have hpe : pre = [] := List.length_eq_zero_iff.1 (by omega)
    refine ⟨_, _, fun ty => run_copy_none _ 26 26 ty 3 _ _ _ _ _ _ Ybaf.underlying26 hi (by rw [h0]; rfl), ?_, World.grownBy_alloc _ _ _⟩
    refine ⟨by rw [hpe, h0]; rfl, Or.inr ⟨wq.heap.size, p, _, rfl, Nat.zero_le _, hh, Nat.le_refl _, by unfold maxLen; omega, by rw [size_madeCells]; omega, by rw [hpe, h0]; rfl⟩⟩
  · have hvl : (vals pre).length = p := by simp [vals, hpl]
    rw [ha (by omega)]
    have hr := fun ty => run_copy_row (P := Ybaf.prog) (wq.alloc (.cells (madeCells #[.int .i64 0] p) 3)) 26 26 ty 3 wq.heap.size 0 p p ⟨xb, xo, none⟩ p c5 (madeCells #[.int .i64 0] p) 3 (vals pre) Ybaf.underlying26 hi hh (by rw [hvl]; simp [Nat.min_def]) (fun j v hj => by
        have hjl : j < pre.length := by have := (List.getElem?_eq_some_iff.1 hj).1; omega
        rw [vals_at _ j hjl] at hj
        have hb : xb < wq.heap.size := World.block_lt_of_cell? wq _ (hc j (by omega))
        have e : (⟨xb, xo, none⟩ : Addr).add j = ⟨xb, xo + j, none⟩ := by unfold Addr.add; split <;> simp_all
        rw [e, World.cell?_alloc_lt _ _ _ hb, hc j (by omega)]
        exact hj) (by rw [hvl, size_madeCells]; omega) (by intro v hv; simp only [vals, List.mem_map] at hv; obtain ⟨x, _, rfl⟩ := hv; rfl)
    refine ⟨_, _, hr, ?_, ?_⟩
    · refine ⟨by rw [hvl]; omega, Or.inr ⟨wq.heap.size, p, _, rfl, Nat.zero_le _, setRow_heap _ _ _ _ _ _ hh, Nat.le_refl _, by unfold maxLen; omega, ?_, ?_⟩⟩
      · simp [hvl, size_madeCells]
      · have e : (madeCells #[Value.int .i64 0] p).toList.drop (0 + (vals pre).length) = [] := List.drop_eq_nil_iff.2 (by rw [hvl, Array.length_toList, size_madeCells]; omega)
        rw [e]
        simp [hvl, List.take_of_length_le]
    · refine ⟨rfl, rfl, rfl, ?_, fun k hk hne => ?_⟩
      · rw [setRow_size, al_size]; omega
      · rw [setRow_other _ _ _ _ (by omega)]
        show (wq.heap.push _)[k]? = _
        rw [Array.getElem?_push, if_neg (by omega)]
set_option maxRecDepth 100000 in
set_option maxHeartbeats 1000000 in
theorem part9 (q : LA) (w : World) (ok : q.Ok w) (D C Lb : Nat) (nx pv hd oc : Nat → Int) (wq : World) (hDC : D ≠ C) (hDL : D ≠ Lb) (hCL : C ≠ Lb) (hD0 : w.heap.size ≤ D) (hC0 : w.heap.size ≤ C) (hL0 : w.heap.size ≤ Lb) (rd : wq.rowIs D 42 722 (dv (q.g : Int) (q.tk : Int) C q.n hd oc (.slice none 0 0) (.slice none 0 0))) (rc : wq.rowIs C 44 (q.n * 3) (cv (fun x => (q.dl x : Int)) nx pv)) (rl : wq.rowIs Lb 4 q.n (fun k => .bool (q.pk k))) (be : Below w.heap.size w wq) (bi : BI q.pk q.n q.n nx pv hd) (f : Nat → Value) (H : Has f [(0, .slice q.a0 q.n q.c0), (3, .int .u32 ((q.tk : Nat) : Int)), (4, .int .u32 ((q.bd : Nat) : Int)), (13, .int .i64 ((q.g : Nat) : Int)), (14, .int .i64 ((q.n : Nat) : Int)), (15, .pointer (some ⟨D, 0, none⟩)), (17, .slice (some ⟨Lb, 0, none⟩) q.n q.n), (5, .slice q.a5 q.p q.c5)]) :
    Code.wp Ybaf.prog (dropC 9 l3) (bodyPost Ybaf.prog Ybaf.f3 (fun e w' => e = .returned (.bool true) ∧ Below w.heap.size w w')) (Fm 309 f) wq := by
  have hn := ok.n300
  have hp := ok.p1024
  have hDl := rd.lt
  have hCl := rc.lt
  have hLl := rl.lt
  have hbs := be.size
  rw [l3_9]
  refine wp_seq (wp_use (m17 q.a5 q.p q.c5 wq hp f H.2.2.2.2.2.2.2.1 _ ?_))
  intro f1  S1 e1_19 
  have H1 : Has f1 [(19, .slice (some ⟨wq.heap.size, 0, none⟩) q.p q.p), (0, .slice q.a0 q.n q.c0), (3, .int .u32 ((q.tk : Nat) : Int)), (4, .int .u32 ((q.bd : Nat) : Int)), (13, .int .i64 ((q.g : Nat) : Int)), (14, .int .i64 ((q.n : Nat) : Int)), (15, .pointer (some ⟨D, 0, none⟩)), (17, .slice (some ⟨Lb, 0, none⟩) q.n q.n), (5, .slice q.a5 q.p q.c5)] := ⟨e1_19, H.keep S1⟩
  obtain ⟨r, w9, hr, ho, hg⟩ := copy_in wq q.a5 q.xb q.xo q.p q.c5 q.pre ok.plen hp ok.ha5 (fun i hi => cell_later be (ok.cpx i hi))
  refine wp_seq (wp_use (m18 wq.heap.size q.a5 q.p q.c5 _ w9 r hr f1 H1.2.2.2.2.2.2.2.2.1 H1.1 _ ?_))
  intro f2  S2  
  have H2 : Has f2 [(19, .slice (some ⟨wq.heap.size, 0, none⟩) q.p q.p), (0, .slice q.a0 q.n q.c0), (3, .int .u32 ((q.tk : Nat) : Int)), (4, .int .u32 ((q.bd : Nat) : Int)), (13, .int .i64 ((q.g : Nat) : Int)), (14, .int .i64 ((q.n : Nat) : Int)), (15, .pointer (some ⟨D, 0, none⟩)), (17, .slice (some ⟨Lb, 0, none⟩) q.n q.n), (5, .slice q.a5 q.p q.c5)] := H1.keep S2
  have e9 : ∀ b, b < wq.heap.size → w9.heap[b]? = wq.heap[b]? := fun b hb => hg.block b hb (fun e => by injection e with e; omega)
  have rd9 := rd.of_block (e9 D hDl)
  have rc9 := rc.of_block (e9 C hCl)
  have rl9 := rl.of_block (e9 Lb hLl)
  have be9 : Below w.heap.size w w9 := ⟨hg.os.trans be.os, hg.tape.trans be.tape, hg.output.trans be.output, Nat.le_trans be.size hg.size, fun k hk => (e9 k (by omega)).trans (be.block k hk)⟩
  obtain ⟨F0, hF0⟩ : ∃ F0 : FC, F0 = { D := D, C := C, E := wq.heap.size, n := q.n, g := q.g, tk := q.tk, bd := q.bd, dl := q.dl, L0 := lkd q.pk q.n, pre := q.pre } := ⟨_, rfl⟩
  have fok : F0.Ok := by
    subst hF0
    exact ⟨hDC, by show D ≠ wq.heap.size; omega, by show C ≠ wq.heap.size; omega, hn, by show q.pre.length ≤ 1024; rw [ok.plen]; exact hp, q.g1, q.g2, ok.dl, ok.tk, ok.bd, lkd_nodup _ _, fun x hx => (mem_lkd.1 hx).1, lkd_len _ _⟩
  have hc8 : CallR 8 #[.pointer (some ⟨D, 0, none⟩), .int .i32 704, .int .u64 ((q.bd : Nat) : Int), .slice (some ⟨wq.heap.size, 0, none⟩) q.p q.p] w9 fun v w' => F0.Post w9 (.returned v) w' := by
    have h := fire_any F0 fok nx pv hd oc w9 (by subst hF0; exact bi.fire _ _ _) (by subst hF0; exact rd9) (by subst hF0; exact rc9) (by subst hF0; show w9.ownsRow 0 3 1 (.slice (some ⟨wq.heap.size, 0, none⟩) q.pre.length q.pre.length) q.pre.length (vals q.pre); rw [ok.plen]; exact ho)
    subst hF0
    have h2 : Calls Ybaf.prog 8 #[.pointer (some ⟨D, 0, none⟩), .int .i32 704, .int .u64 ((q.bd : Nat) : Int), .slice (some ⟨wq.heap.size, 0, none⟩) q.pre.length q.pre.length] w9 _ := h
    rw [ok.plen] at h2
    refine h2.mono ?_
    rintro e w' hP
    have hP2 := hP
    obtain ⟨G, cp, d', he, _⟩ := hP2
    refine ⟨_, he, ?_⟩
    rw [he] at hP
    exact hP
  refine wp_seq (wp_use (m19 D wq.heap.size q.p q.bd w9 ok.bd _ hc8 f2 H2.2.2.2.1 H2.2.2.2.2.2.2.1 H2.1 _ ?_))
  intro f3 v w2 S3 e3_20 hP
  have H3 : Has f3 [(20, v), (19, .slice (some ⟨wq.heap.size, 0, none⟩) q.p q.p), (0, .slice q.a0 q.n q.c0), (3, .int .u32 ((q.tk : Nat) : Int)), (4, .int .u32 ((q.bd : Nat) : Int)), (13, .int .i64 ((q.g : Nat) : Int)), (14, .int .i64 ((q.n : Nat) : Int)), (15, .pointer (some ⟨D, 0, none⟩)), (17, .slice (some ⟨Lb, 0, none⟩) q.n q.n), (5, .slice q.a5 q.p q.c5)] := ⟨e3_20, H2.keep S3⟩
  subst hF0
  obtain ⟨G, cp, d', he, hd1, hd2, hG, hDG, hCG, hcp, ⟨F, hF, hf1, hf2⟩, nx', pv', hd', oc', rd2, rc2, fi, oth⟩ := hP
  change _ = Ending.returned (.slice (some ⟨G, 0, none⟩) (q.pre.length + (exd q.T q.bd (lkd q.pk q.n)).length) cp) at he
  change PermIn 0 (exd q.T q.bd (lkd q.pk q.n)).length (nats (exd q.T q.bd (lkd q.pk q.n))).toArray d' at hd1
  change SortedIn (ltD q.dl) 0 (exd q.T q.bd (lkd q.pk q.n)).length d' at hd2
  change G = wq.heap.size ∨ w9.heap.size ≤ G at hG
  change D ≠ G at hDG
  change C ≠ G at hCG
  change q.pre.length + (exd q.T q.bd (lkd q.pk q.n)).length ≤ cp at hcp
  change ∀ k, k < q.pre.length → F k = .int .i64 (q.pre.getD k 0) at hf1
  change ∀ k, k < (exd q.T q.bd (lkd q.pk q.n)).length → F (q.pre.length + k) = .int .i64 d'[k]! at hf2
  change w2.rowIs D 42 722 (dv (q.g : Int) (q.tk : Int) C q.n hd' oc' (.slice none 0 0) (.slice none 0 0)) at rd2
  change w2.rowIs C 44 (q.n * 3) (cv (fun x => (q.dl x : Int)) nx' pv') at rc2
  change FI q.T q.ls q.bd q.n (lkd q.pk q.n) (lkd q.pk q.n) [] (-1) nx' pv' hd' at fi
  change Oth3 D C wq.heap.size w9 w2 at oth
  rw [ok.plen] at he hcp hf1 hf2
  injection he with he
  subst he
  have hgs := hg.size
  have rl2 := rl9.of_block (oth.block Lb rl9.lt hDL.symm hCL.symm (by omega))
  have be2 : Below w.heap.size w w2 := ⟨oth.os.trans be9.os, oth.tape.trans be9.tape, oth.output.trans be9.output, Nat.le_trans be9.size oth.size, fun k hk => (oth.block k (by have := be9.size; omega) (by omega) (by omega) (by omega)).trans (be9.block k hk)⟩
  exact partB q w ok D C Lb G cp F nx' pv' hd' oc' w2 ⟨rd2, rc2, rl2, hF, be2⟩ fi hcp hf1 d' hd1 hd2 hf2 f3 ⟨H3.2.2.1, H3.2.2.2.1, H3.2.2.2.2.1, H3.2.2.2.2.2.1, H3.2.2.2.2.2.2.1, H3.2.2.2.2.2.2.2.1, H3.2.2.2.2.2.2.2.2.1, H3.2.2.2.2.2.2.2.2.2.1, H3.1, trivial⟩
structure LA.AS (q : LA) (w : World) (D C Lb i : Nat) (nx pv hd oc : Nat → Int) (wq : World) : Prop where
  rd : wq.rowIs D 42 722 (dv (q.g : Int) (q.tk : Int) C q.n hd oc (.slice none 0 0) (.slice none 0 0))
  rc : wq.rowIs C 44 (q.n * 3) (cv (fun x => if x < i then (q.dl x : Int) else 0) nx pv)
  rl : wq.rowIs Lb 4 q.n (fun k => .bool (decide (k < i) && q.pk k))
  be : Below w.heap.size w wq
  bi : BI q.pk q.n i nx pv hd
set_option maxRecDepth 100000 in
set_option maxHeartbeats 1000000 in
theorem roundA (q : LA) (w : World) (ok : q.Ok w) (D C Lb : Nat) (hDC : D ≠ C) (hDL : D ≠ Lb) (hCL : C ≠ Lb) (hD0 : w.heap.size ≤ D) (hC0 : w.heap.size ≤ C) (hL0 : w.heap.size ≤ Lb) (i : Nat) (hi : i < q.n) (nx pv hd oc : Nat → Int) (wq : World) (s : q.AS w D C Lb i nx pv hd oc wq) (Q : Exit → Act → World → Prop) (hend : ∀ (f : Nat → Value) (nx pv hd oc : Nat → Int) (w' : World), Has f [(0, .slice q.a0 q.n q.c0), (3, .int .u32 ((q.tk : Nat) : Int)), (4, .int .u32 ((q.bd : Nat) : Int)), (13, .int .i64 ((q.g : Nat) : Int)), (14, .int .i64 ((q.n : Nat) : Int)), (15, .pointer (some ⟨D, 0, none⟩)), (17, .slice (some ⟨Lb, 0, none⟩) q.n q.n), (5, .slice q.a5 q.p q.c5), (1, .slice q.a1 q.pn q.c1), (18, .int .i64 ((i : Nat) : Int))] → q.AS w D C Lb (i + 1) nx pv hd oc w' → Q .normal (Fm 309 f) w') (f : Nat → Value) (H : Has f [(0, .slice q.a0 q.n q.c0), (3, .int .u32 ((q.tk : Nat) : Int)), (4, .int .u32 ((q.bd : Nat) : Int)), (13, .int .i64 ((q.g : Nat) : Int)), (14, .int .i64 ((q.n : Nat) : Int)), (15, .pointer (some ⟨D, 0, none⟩)), (17, .slice (some ⟨Lb, 0, none⟩) q.n q.n), (5, .slice q.a5 q.p q.c5), (1, .slice q.a1 q.pn q.c1), (18, .int .i64 ((i : Nat) : Int))]) :
    Code.wp Ybaf.prog b3a Q (Fm 309 f) wq := by
  have hn := ok.n300
  have ha0 := ok.ha0 (by omega)
  rw [b3a_eq]
  rw [ha0] at H
  refine wp_seq (wp_use (m13 D C q.ab q.ao q.n q.c0 i (q.dl i) _ wq hi (ok.dl i) (s.rd.cell (by omega)) (cell_later s.be (ok.cdl i hi)) (s.rc.cell (by omega)) (s.rc.frozen _) f H.1 H.2.2.2.2.2.1 H.2.2.2.2.2.2.2.2.2.1 _ ?_))
  intro f1  S1  
  have H1 : Has f1 [(0, .slice (some ⟨q.ab, q.ao, none⟩) q.n q.c0), (3, .int .u32 ((q.tk : Nat) : Int)), (4, .int .u32 ((q.bd : Nat) : Int)), (13, .int .i64 ((q.g : Nat) : Int)), (14, .int .i64 ((q.n : Nat) : Int)), (15, .pointer (some ⟨D, 0, none⟩)), (17, .slice (some ⟨Lb, 0, none⟩) q.n q.n), (5, .slice q.a5 q.p q.c5), (1, .slice q.a1 q.pn q.c1), (18, .int .i64 ((i : Nat) : Int))] := H.keep S1
  rw [← ha0] at H1
  have rd1 : (wq.drew.setCell ⟨C, i * 3, none⟩ (.int .i64 ((q.dl i : Nat) : Int))).rowIs D 42 722 (dv (q.g : Int) (q.tk : Int) C q.n hd oc (.slice none 0 0) (.slice none 0 0)) := s.rd.drew.setOther (a := ⟨C, i * 3, none⟩) hDC _
  have rc1 : (wq.drew.setCell ⟨C, i * 3, none⟩ (.int .i64 ((q.dl i : Nat) : Int))).rowIs C 44 (q.n * 3) (cv (fun x => if x < i + 1 then (q.dl x : Int) else 0) nx pv) := (s.rc.drew.set (i * 3) _).congr fun k _ => by
    rw [cv_set0]
    congr 1
    funext z
    show (if z = i then ((q.dl i : Nat) : Int) else if z < i then ((q.dl z : Nat) : Int) else 0) = if z < i + 1 then ((q.dl z : Nat) : Int) else 0
    by_cases e : z = i
    · rw [if_pos e, if_pos (by omega), e]
    · rw [if_neg e]
      by_cases e2 : z < i
      · rw [if_pos e2, if_pos (by omega)]
      · rw [if_neg e2, if_neg (by omega)]
  have rl1 : (wq.drew.setCell ⟨C, i * 3, none⟩ (.int .i64 ((q.dl i : Nat) : Int))).rowIs Lb 4 q.n (fun k => .bool (decide (k < i) && q.pk k)) := s.rl.drew.setOther (a := ⟨C, i * 3, none⟩) hCL.symm _
  have be1 : Below w.heap.size w (wq.drew.setCell ⟨C, i * 3, none⟩ (.int .i64 ((q.dl i : Nat) : Int))) := bel_st s.be.drew C _ _ hC0
  revert rd1 rc1 rl1 be1
  generalize wq.drew.setCell ⟨C, i * 3, none⟩ (.int .i64 ((q.dl i : Nat) : Int)) = w1
  intro rd1 rc1 rl1 be1
  have hj : ∀ (b : Bool), b = q.pk i → ∀ (f : Nat → Value), Has f [(0, .slice q.a0 q.n q.c0), (3, .int .u32 ((q.tk : Nat) : Int)), (4, .int .u32 ((q.bd : Nat) : Int)), (13, .int .i64 ((q.g : Nat) : Int)), (14, .int .i64 ((q.n : Nat) : Int)), (15, .pointer (some ⟨D, 0, none⟩)), (17, .slice (some ⟨Lb, 0, none⟩) q.n q.n), (5, .slice q.a5 q.p q.c5), (1, .slice q.a1 q.pn q.c1), (18, .int .i64 ((i : Nat) : Int))] → f 97 = .bool b → Code.wp Ybaf.prog (Code.cond (.tmp 97) ((headC (thnC (tailC (tailC b3a)))).seq (tailC (thnC (tailC (tailC b3a))))) .skip) Q (Fm 309 f) w1 := by
    intro b hb f H h97
    cases b with
    | false =>
      refine wp_cond_false (evN rfl h97) (wp_skip ?_)
      refine hend f nx pv hd oc w1 H ⟨rd1, rc1, rl1.congr fun k hk => ?_, be1, s.bi.skip hb.symm⟩
      by_cases e : k = i
      · rw [e, ← hb]; simp
      · have : decide (k < i + 1) = decide (k < i) := by by_cases e2 : k < i <;> simp [e2] <;> omega
        rw [this]
    | true =>
      refine wp_cond_true (evN rfl h97) ?_
      refine wp_seq (wp_use (m15 Lb q.n i _ w1 hi (rl1.cell hi) (rl1.frozen _) f H.2.2.2.2.2.2.1 H.2.2.2.2.2.2.2.2.2.1 _ ?_))
      intro f41  S41  
      have H41 : Has f41 [(0, .slice q.a0 q.n q.c0), (3, .int .u32 ((q.tk : Nat) : Int)), (4, .int .u32 ((q.bd : Nat) : Int)), (13, .int .i64 ((q.g : Nat) : Int)), (14, .int .i64 ((q.n : Nat) : Int)), (15, .pointer (some ⟨D, 0, none⟩)), (17, .slice (some ⟨Lb, 0, none⟩) q.n q.n), (5, .slice q.a5 q.p q.c5), (1, .slice q.a1 q.pn q.c1), (18, .int .i64 ((i : Nat) : Int))] := H.keep S41
      have rl2 : (w1.setCell ⟨Lb, i, none⟩ (.bool true)).rowIs Lb 4 q.n (fun k => .bool (decide (k < i + 1) && q.pk k)) := (rl1.set i _).congr fun k hk => by
        by_cases e : k = i
        · rw [if_pos e, e, ← hb]; simp
        · rw [if_neg e]
          have : decide (k < i + 1) = decide (k < i) := by by_cases e2 : k < i <;> simp [e2] <;> omega
          rw [this]
      have rd2 := rd1.setOther (a := ⟨Lb, i, none⟩) hDL (.bool true)
      have rc2 := rc1.setOther (a := ⟨Lb, i, none⟩) hCL (.bool true)
      have be2 := bel_st be1 Lb i (.bool true) hL0
      have hh : hd 704 = -1 ∨ ∃ z : Nat, z < q.n ∧ hd 704 = (z : Int) := by
        rcases s.bi.chain.head with h | ⟨z, hz, h⟩
        · exact Or.inl h
        · exact Or.inr ⟨z, by have := (mem_lkd.1 hz).1; omega, h⟩
      have hc7 : CallR 7 #[.pointer (some ⟨D, 0, none⟩), .int .i32 ((i : Nat) : Int), .int .i32 704] (w1.setCell ⟨Lb, i, none⟩ (.bool true)) fun v w' => ∃ oc', w'.rowIs D 42 722 (dv (q.g : Int) (q.tk : Int) C q.n (set1 hd 704 (i : Int)) oc' (.slice none 0 0) (.slice none 0 0)) ∧ w'.rowIs C 44 (q.n * 3) (cv (fun x => if x < i + 1 then (q.dl x : Int) else 0) (set1 nx i (hd 704)) (lnk pv i 704 (hd 704))) ∧ Oth2 D C (w1.setCell ⟨Lb, i, none⟩ (.bool true)) w' :=
        (link_any D C q.n i 704 _ _ _ nx pv hd oc _ _ _ hDC hi (by omega) hh rd2 rc2).mono fun e w' ⟨h1, h2⟩ => ⟨_, h1, h2⟩
      refine wp_use (m16 D i _ (by omega) _ hc7 f41 H41.2.2.2.2.2.1 H41.2.2.2.2.2.2.2.2.2.1 _ ?_)
      intro f42 v w3 S42  hR
      have H42 : Has f42 [(0, .slice q.a0 q.n q.c0), (3, .int .u32 ((q.tk : Nat) : Int)), (4, .int .u32 ((q.bd : Nat) : Int)), (13, .int .i64 ((q.g : Nat) : Int)), (14, .int .i64 ((q.n : Nat) : Int)), (15, .pointer (some ⟨D, 0, none⟩)), (17, .slice (some ⟨Lb, 0, none⟩) q.n q.n), (5, .slice q.a5 q.p q.c5), (1, .slice q.a1 q.pn q.c1), (18, .int .i64 ((i : Nat) : Int))] := H41.keep S42
      obtain ⟨oc', rd3, rc3, hO⟩ := hR
      exact hend f42 _ _ _ oc' w3 ⟨H42.1, H42.2.1, H42.2.2.1, H42.2.2.2.1, H42.2.2.2.2.1, H42.2.2.2.2.2.1, H42.2.2.2.2.2.2.1, H42.2.2.2.2.2.2.2.1, H42.2.2.2.2.2.2.2.2.1, H42.2.2.2.2.2.2.2.2.2.1, trivial⟩ ⟨rd3, rc3, rl2.of_block (hO.block Lb hDL.symm hCL.symm), ⟨hO.os.trans be2.os, hO.tape.trans be2.tape, hO.output.trans be2.output, by have := be2.size; have := hO.size; omega, fun k hk => (hO.block k (by omega) (by omega)).trans (be2.block k hk)⟩, s.bi.link hb.symm⟩
  by_cases hlt : i < q.pn
  · rw [ok.ha1 (by omega)] at H1
    refine wp_seq (wp_use (m14b q.pb q.po q.pn q.c1 i (q.pbv i) w1 hlt (cell_later be1 (ok.cpb i hlt)) f1 H1.2.2.2.2.2.2.2.2.1 H1.2.2.2.2.2.2.2.2.2.1 _ ?_))
    intro f2  S2 e2_97 
    have H2 : Has f2 [(97, .bool (q.pbv i)), (0, .slice q.a0 q.n q.c0), (3, .int .u32 ((q.tk : Nat) : Int)), (4, .int .u32 ((q.bd : Nat) : Int)), (13, .int .i64 ((q.g : Nat) : Int)), (14, .int .i64 ((q.n : Nat) : Int)), (15, .pointer (some ⟨D, 0, none⟩)), (17, .slice (some ⟨Lb, 0, none⟩) q.n q.n), (5, .slice q.a5 q.p q.c5), (1, .slice (some ⟨q.pb, q.po, none⟩) q.pn q.c1), (18, .int .i64 ((i : Nat) : Int))] := ⟨e2_97, H1.keep S2⟩
    rw [← ok.ha1 (by omega)] at H2
    exact hj (q.pbv i) (by unfold LA.pk; rw [decide_eq_false (by omega)]; simp) f2 ⟨H2.2.1, H2.2.2.1, H2.2.2.2.1, H2.2.2.2.2.1, H2.2.2.2.2.2.1, H2.2.2.2.2.2.2.1, H2.2.2.2.2.2.2.2.1, H2.2.2.2.2.2.2.2.2.1, H2.2.2.2.2.2.2.2.2.2.1, H2.2.2.2.2.2.2.2.2.2.2.1, trivial⟩ H2.1
  · refine wp_seq (wp_use (m14a q.a1 q.pn q.c1 i w1 hlt f1 H1.2.2.2.2.2.2.2.2.1 H1.2.2.2.2.2.2.2.2.2.1 _ ?_))
    intro f2  S2 e2_97 
    have H2 : Has f2 [(97, .bool true), (0, .slice q.a0 q.n q.c0), (3, .int .u32 ((q.tk : Nat) : Int)), (4, .int .u32 ((q.bd : Nat) : Int)), (13, .int .i64 ((q.g : Nat) : Int)), (14, .int .i64 ((q.n : Nat) : Int)), (15, .pointer (some ⟨D, 0, none⟩)), (17, .slice (some ⟨Lb, 0, none⟩) q.n q.n), (5, .slice q.a5 q.p q.c5), (1, .slice q.a1 q.pn q.c1), (18, .int .i64 ((i : Nat) : Int))] := ⟨e2_97, H1.keep S2⟩
    exact hj true (by unfold LA.pk; rw [decide_eq_true (by omega)]; simp) f2 ⟨H2.2.1, H2.2.2.1, H2.2.2.2.1, H2.2.2.2.2.1, H2.2.2.2.2.2.1, H2.2.2.2.2.2.2.1, H2.2.2.2.2.2.2.2.1, H2.2.2.2.2.2.2.2.2.1, H2.2.2.2.2.2.2.2.2.2.1, H2.2.2.2.2.2.2.2.2.2.2.1, trivial⟩ H2.1
set_option maxRecDepth 100000 in
set_option maxHeartbeats 1000000 in
theorem partA (q : LA) (w : World) (ok : q.Ok w) (D C Lb : Nat) (hDC : D ≠ C) (hDL : D ≠ Lb) (hCL : C ≠ Lb) (hD0 : w.heap.size ≤ D) (hC0 : w.heap.size ≤ C) (hL0 : w.heap.size ≤ Lb) (nx pv hd oc : Nat → Int) (wq : World) (s : q.AS w D C Lb 0 nx pv hd oc wq) (f : Nat → Value) (H : Has f [(0, .slice q.a0 q.n q.c0), (3, .int .u32 ((q.tk : Nat) : Int)), (4, .int .u32 ((q.bd : Nat) : Int)), (13, .int .i64 ((q.g : Nat) : Int)), (14, .int .i64 ((q.n : Nat) : Int)), (15, .pointer (some ⟨D, 0, none⟩)), (17, .slice (some ⟨Lb, 0, none⟩) q.n q.n), (5, .slice q.a5 q.p q.c5), (1, .slice q.a1 q.pn q.c1)]) :
    Code.wp Ybaf.prog (dropC 8 l3) (bodyPost Ybaf.prog Ybaf.f3 (fun e w' => e = .returned (.bool true) ∧ Below w.heap.size w w')) (Fm 309 f) wq := by
  have hn := ok.n300
  rw [l3_8]
  refine wp_join (fun a' w' => ∃ (f : Nat → Value) (nx pv hd oc : Nat → Int), a' = Fm 309 f ∧ Has f [(0, .slice q.a0 q.n q.c0), (3, .int .u32 ((q.tk : Nat) : Int)), (4, .int .u32 ((q.bd : Nat) : Int)), (13, .int .i64 ((q.g : Nat) : Int)), (14, .int .i64 ((q.n : Nat) : Int)), (15, .pointer (some ⟨D, 0, none⟩)), (17, .slice (some ⟨Lb, 0, none⟩) q.n q.n), (5, .slice q.a5 q.p q.c5)] ∧ q.AS w D C Lb q.n nx pv hd oc w') ?_ ?_
  · refine wp_seq (wp_use (m10 wq f  _ ?_))
    intro f1  S1 e1_18 
    have H1 : Has f1 [(18, .int .i64 ((0 : Nat) : Int)), (0, .slice q.a0 q.n q.c0), (3, .int .u32 ((q.tk : Nat) : Int)), (4, .int .u32 ((q.bd : Nat) : Int)), (13, .int .i64 ((q.g : Nat) : Int)), (14, .int .i64 ((q.n : Nat) : Int)), (15, .pointer (some ⟨D, 0, none⟩)), (17, .slice (some ⟨Lb, 0, none⟩) q.n q.n), (5, .slice q.a5 q.p q.c5), (1, .slice q.a1 q.pn q.c1)] := ⟨e1_18, H.keep S1⟩
    refine wp_block (wp_loop_ghost (fun k a' w' => ∃ (f : Nat → Value) (i : Nat) (nx pv hd oc : Nat → Int), a' = Fm 309 f ∧ k = q.n - i ∧ i ≤ q.n ∧ Has f [(0, .slice q.a0 q.n q.c0), (3, .int .u32 ((q.tk : Nat) : Int)), (4, .int .u32 ((q.bd : Nat) : Int)), (13, .int .i64 ((q.g : Nat) : Int)), (14, .int .i64 ((q.n : Nat) : Int)), (15, .pointer (some ⟨D, 0, none⟩)), (17, .slice (some ⟨Lb, 0, none⟩) q.n q.n), (5, .slice q.a5 q.p q.c5), (1, .slice q.a1 q.pn q.c1), (18, .int .i64 ((i : Nat) : Int))] ∧ q.AS w D C Lb i nx pv hd oc w') q.n ⟨f1, 0, nx, pv, hd, oc, rfl, by omega, by omega, ⟨H1.2.1, H1.2.2.1, H1.2.2.2.1, H1.2.2.2.2.1, H1.2.2.2.2.2.1, H1.2.2.2.2.2.2.1, H1.2.2.2.2.2.2.2.1, H1.2.2.2.2.2.2.2.2.1, H1.2.2.2.2.2.2.2.2.2.1, H1.1, trivial⟩, s⟩ ?_)
    rintro k _ w0 ⟨f, i, nx, pv, hd, oc, rfl, rfl, hi, H, s⟩
    rw [l3a_eq]
    refine wp_seq (wp_seq (wp_use (m11 i q.n w0 f H.2.2.2.2.1 H.2.2.2.2.2.2.2.2.2.1 _ ?_)))
    intro f41  S41 e41_73 
    have H41 : Has f41 [(73, .bool (decide (((i : Nat) : Int) < ((q.n : Nat) : Int)))), (0, .slice q.a0 q.n q.c0), (3, .int .u32 ((q.tk : Nat) : Int)), (4, .int .u32 ((q.bd : Nat) : Int)), (13, .int .i64 ((q.g : Nat) : Int)), (14, .int .i64 ((q.n : Nat) : Int)), (15, .pointer (some ⟨D, 0, none⟩)), (17, .slice (some ⟨Lb, 0, none⟩) q.n q.n), (5, .slice q.a5 q.p q.c5), (1, .slice q.a1 q.pn q.c1), (18, .int .i64 ((i : Nat) : Int))] := ⟨e41_73, H.keep S41⟩
    by_cases hlt : i < q.n
    · refine wp_cond_true (evN rfl (H41.1.trans (by rw [decide_eq_true (by omega)]))) (wp_skip ?_)
      refine wp_seq (wp_block ?_)
      refine roundA q w ok D C Lb hDC hDL hCL hD0 hC0 hL0 i hlt nx pv hd oc w0 s _ ?_ f41 ⟨H41.2.1, H41.2.2.1, H41.2.2.2.1, H41.2.2.2.2.1, H41.2.2.2.2.2.1, H41.2.2.2.2.2.2.1, H41.2.2.2.2.2.2.2.1, H41.2.2.2.2.2.2.2.2.1, H41.2.2.2.2.2.2.2.2.2.1, H41.2.2.2.2.2.2.2.2.2.2.1, trivial⟩
      intro f nx pv hd oc w' H s
      refine wp_use (m12 i w' (by omega) f H.2.2.2.2.2.2.2.2.2.1 _ ?_)
      intro f61  S61 e61_18 
      have H61 : Has f61 [(18, .int .i64 (((i : Nat) : Int) + 1)), (0, .slice q.a0 q.n q.c0), (3, .int .u32 ((q.tk : Nat) : Int)), (4, .int .u32 ((q.bd : Nat) : Int)), (13, .int .i64 ((q.g : Nat) : Int)), (14, .int .i64 ((q.n : Nat) : Int)), (15, .pointer (some ⟨D, 0, none⟩)), (17, .slice (some ⟨Lb, 0, none⟩) q.n q.n), (5, .slice q.a5 q.p q.c5), (1, .slice q.a1 q.pn q.c1)] := ⟨e61_18, H.keep S61⟩
      exact ⟨q.n - (i + 1), by omega, f61, i + 1, nx, pv, hd, oc, rfl, rfl, by omega, ⟨H61.2.1, H61.2.2.1, H61.2.2.2.1, H61.2.2.2.2.1, H61.2.2.2.2.2.1, H61.2.2.2.2.2.2.1, H61.2.2.2.2.2.2.2.1, H61.2.2.2.2.2.2.2.2.1, H61.2.2.2.2.2.2.2.2.2.1, H61.1, trivial⟩, s⟩
    · refine wp_cond_false (evN rfl (H41.1.trans (by rw [decide_eq_false (by omega)]))) (wp_exit ?_)
      have hin : i = q.n := by omega
      rw [hin] at s
      exact ⟨f41, nx, pv, hd, oc, rfl, ⟨H41.2.1, H41.2.2.1, H41.2.2.2.1, H41.2.2.2.2.1, H41.2.2.2.2.2.1, H41.2.2.2.2.2.2.1, H41.2.2.2.2.2.2.2.1, H41.2.2.2.2.2.2.2.2.1, trivial⟩, s⟩
  · rintro _ w2 ⟨f, nx, pv, hd, oc, rfl, H, s⟩
    refine part9 q w ok D C Lb nx pv hd oc w2 hDC hDL hCL hD0 hC0 hL0 s.rd (s.rc.congr fun k hk => ?_) (s.rl.congr fun k hk => ?_) s.be s.bi f H
    · unfold cv
      have : k / 3 < q.n := by omega
      simp [this]
    · simp [hk]
set_option maxRecDepth 100000 in
set_option maxHeartbeats 1000000 in
theorem fire_wp (q : LA) (w : World) (okk : q.n ≤ 300 → q.p ≤ 1024 → q.Ok w) (f : Nat → Value) (H : Has f [(0, .slice q.a0 q.n q.c0), (1, .slice q.a1 q.pn q.c1), (2, .int .u16 ((q.gr : Nat) : Int)), (3, .int .u32 ((q.tk : Nat) : Int)), (4, .int .u32 ((q.bd : Nat) : Int)), (5, .slice q.a5 q.p q.c5)]) :
    Code.wp Ybaf.prog l3 (bodyPost Ybaf.prog Ybaf.f3 (fun e w' => e = .returned (.bool true) ∧ Below w.heap.size w w')) (Fm 309 f) w := by
  rw [l3_0]
  refine wp_seq (wp_use (m0 w f  _ ?_))
  intro f1  S1 e1_12 
  have H1 : Has f1 [(12, .bool false), (0, .slice q.a0 q.n q.c0), (1, .slice q.a1 q.pn q.c1), (2, .int .u16 ((q.gr : Nat) : Int)), (3, .int .u32 ((q.tk : Nat) : Int)), (4, .int .u32 ((q.bd : Nat) : Int)), (5, .slice q.a5 q.p q.c5)] := ⟨e1_12, H.keep S1⟩
  by_cases hn : q.n ≤ 300
  · by_cases hp : q.p ≤ 1024
    · have ok := okk hn hp
      refine wp_seq (wp_seq (wp_use (m1 q.a0 q.n q.c0 q.a5 q.p q.c5 w hn hp f1 H1.2.1 H1.2.2.2.2.2.2.1 _ ?_)))
      intro f2  S2 e2_44 
      have H2 : Has f2 [(44, .bool false), (12, .bool false), (0, .slice q.a0 q.n q.c0), (1, .slice q.a1 q.pn q.c1), (2, .int .u16 ((q.gr : Nat) : Int)), (3, .int .u32 ((q.tk : Nat) : Int)), (4, .int .u32 ((q.bd : Nat) : Int)), (5, .slice q.a5 q.p q.c5)] := ⟨e2_44, H1.keep S2⟩
      refine wp_cond_false (evN rfl H2.1) (wp_skip ?_)
      refine wp_seq (wp_use (m3 q.gr w ok.gr f2 H2.2.2.2.2.1 _ ?_))
      intro f3  S3 e3_13 
      have H3 : Has f3 [(13, .int .i64 ((q.g : Nat) : Int)), (44, .bool false), (12, .bool false), (0, .slice q.a0 q.n q.c0), (1, .slice q.a1 q.pn q.c1), (2, .int .u16 ((q.gr : Nat) : Int)), (3, .int .u32 ((q.tk : Nat) : Int)), (4, .int .u32 ((q.bd : Nat) : Int)), (5, .slice q.a5 q.p q.c5)] := ⟨e3_13, H2.keep S3⟩
      refine wp_seq (wp_use (m4 q.a0 q.n q.c0 w f3 H3.2.2.2.1 _ ?_))
      intro f4  S4 e4_14 
      have H4 : Has f4 [(14, .int .i64 ((q.n : Nat) : Int)), (13, .int .i64 ((q.g : Nat) : Int)), (44, .bool false), (12, .bool false), (0, .slice q.a0 q.n q.c0), (1, .slice q.a1 q.pn q.c1), (2, .int .u16 ((q.gr : Nat) : Int)), (3, .int .u32 ((q.tk : Nat) : Int)), (4, .int .u32 ((q.bd : Nat) : Int)), (5, .slice q.a5 q.p q.c5)] := ⟨e4_14, H3.keep S4⟩
      have hc6 : CallR 6 #[.agg (opt q.g), .int .i64 ((q.n : Nat) : Int)] w fun v w' => ∃ x y : Value, v = .tuple #[x, y] ∧ ∃ D C : Nat, x = .pointer (some ⟨D, 0, none⟩) ∧ y = .nilIface ∧ D ≠ C ∧ w.heap.size ≤ D ∧ w.heap.size ≤ C ∧ w'.rowIs D 42 722 (dv ((q.g : Nat) : Int) 0 C q.n (fun k => if k < 705 then -1 else 0) (fun _ => 0) (.slice none 0 0) (.slice none 0 0)) ∧ w'.rowIs C 44 (q.n * 3) (cv (fun _ => 0) (fun _ => 0) (fun k => if k < q.n then -2147483648 else 0)) ∧ Below w.heap.size w w' :=
        (newd_any q.g q.n q.g1 q.g2 hn w).mono fun e w' ⟨D, C, h1, h2⟩ => ⟨_, h1, _, _, rfl, D, C, rfl, rfl, h2⟩
      refine wp_seq (wp_use (m5 q.g q.n w _ hc6 f4 H4.2.1 H4.1 _ ?_))
      intro f5 x y w1 S5 e5_15 e5_16 hR
      have H5 : Has f5 [(15, x), (16, y), (14, .int .i64 ((q.n : Nat) : Int)), (13, .int .i64 ((q.g : Nat) : Int)), (44, .bool false), (12, .bool false), (0, .slice q.a0 q.n q.c0), (1, .slice q.a1 q.pn q.c1), (2, .int .u16 ((q.gr : Nat) : Int)), (3, .int .u32 ((q.tk : Nat) : Int)), (4, .int .u32 ((q.bd : Nat) : Int)), (5, .slice q.a5 q.p q.c5)] := ⟨e5_15, e5_16, H4.keep S5⟩
      obtain ⟨D, C, rfl, rfl, hDC, hD0, hC0, rd, rc, be⟩ := hR
      refine wp_seq (wp_seq (wp_use (m6 D w1 f5 H5.1 H5.2.1 _ ?_)))
      intro f6  S6 e6_63 
      have H6 : Has f6 [(63, .bool false), (15, .pointer (some ⟨D, 0, none⟩)), (16, .nilIface), (14, .int .i64 ((q.n : Nat) : Int)), (13, .int .i64 ((q.g : Nat) : Int)), (44, .bool false), (12, .bool false), (0, .slice q.a0 q.n q.c0), (1, .slice q.a1 q.pn q.c1), (2, .int .u16 ((q.gr : Nat) : Int)), (3, .int .u32 ((q.tk : Nat) : Int)), (4, .int .u32 ((q.bd : Nat) : Int)), (5, .slice q.a5 q.p q.c5)] := ⟨e6_63, H5.keep S6⟩
      refine wp_cond_false (evN rfl H6.1) (wp_skip ?_)
      refine wp_seq (wp_use (m8 D q.tk _ w1 ok.tk (rd.cell (by omega)) (rd.frozen _) f6 H6.2.2.2.2.2.2.2.2.2.2.1 H6.2.1 _ ?_))
      intro f7  S7  
      have H7 : Has f7 [(63, .bool false), (15, .pointer (some ⟨D, 0, none⟩)), (16, .nilIface), (14, .int .i64 ((q.n : Nat) : Int)), (13, .int .i64 ((q.g : Nat) : Int)), (44, .bool false), (12, .bool false), (0, .slice q.a0 q.n q.c0), (1, .slice q.a1 q.pn q.c1), (2, .int .u16 ((q.gr : Nat) : Int)), (3, .int .u32 ((q.tk : Nat) : Int)), (4, .int .u32 ((q.bd : Nat) : Int)), (5, .slice q.a5 q.p q.c5)] := H6.keep S7
      have rd2 : (w1.setCell ⟨D, 2, none⟩ (.int .u64 ((q.tk : Nat) : Int))).rowIs D 42 722 (dv (q.g : Int) (q.tk : Int) C q.n (fun k => if k < 705 then -1 else 0) (fun _ => 0) (.slice none 0 0) (.slice none 0 0)) := (rd.set 2 _).congr fun k _ => dv_setk _ k
      have rc2 := rc.setOther (a := ⟨D, 2, none⟩) hDC.symm (.int .u64 ((q.tk : Nat) : Int))
      have be2 := bel_st be D 2 (.int .u64 ((q.tk : Nat) : Int)) hD0
      revert rd2 rc2 be2
      generalize w1.setCell ⟨D, 2, none⟩ (.int .u64 ((q.tk : Nat) : Int)) = w2
      intro rd2 rc2 be2
      refine wp_seq (wp_use (m9 q.n w2 hn f7 H7.2.2.2.1 _ ?_))
      intro f8  S8 e8_17 
      have H8 : Has f8 [(17, .slice (some ⟨w2.heap.size, 0, none⟩) q.n q.n), (63, .bool false), (15, .pointer (some ⟨D, 0, none⟩)), (16, .nilIface), (14, .int .i64 ((q.n : Nat) : Int)), (13, .int .i64 ((q.g : Nat) : Int)), (44, .bool false), (12, .bool false), (0, .slice q.a0 q.n q.c0), (1, .slice q.a1 q.pn q.c1), (2, .int .u16 ((q.gr : Nat) : Int)), (3, .int .u32 ((q.tk : Nat) : Int)), (4, .int .u32 ((q.bd : Nat) : Int)), (5, .slice q.a5 q.p q.c5)] := ⟨e8_17, H7.keep S8⟩
      have rd3 := rd2.alloc (.cells (madeCells #[.bool false] q.n) 4)
      have rc3 := rc2.alloc (.cells (madeCells #[.bool false] q.n) 4)
      have rl3 := World.rowIs_made w2 (.bool false) q.n 4
      have be3 := bel_al be2 be2.size (.cells (madeCells #[.bool false] q.n) 4)
      have hDl := rd2.lt
      have hCl := rc2.lt
      have hbs := be2.size
      refine partA q w ok D C w2.heap.size hDC (by omega) (by omega) hD0 hC0 hbs (fun _ => 0) (fun k => if k < q.n then -2147483648 else 0) (fun k => if k < 705 then -1 else 0) (fun _ => 0) _ ⟨rd3, rc3.congr fun k _ => ?_, rl3.congr fun k _ => ?_, be3, ⟨?_, fun k hk => if_pos (by omega), fun x hx _ => if_pos hx⟩⟩ f8 ⟨H8.2.2.2.2.2.2.2.2.1, H8.2.2.2.2.2.2.2.2.2.2.2.1, H8.2.2.2.2.2.2.2.2.2.2.2.2.1, H8.2.2.2.2.2.1, H8.2.2.2.2.1, H8.2.2.1, H8.1, H8.2.2.2.2.2.2.2.2.2.2.2.2.2.1, H8.2.2.2.2.2.2.2.2.2.1, trivial⟩
      · simp
      · simp
      · show (if 704 < 705 then (-1 : Int) else 0) = -1
        rfl
    · refine wp_seq (wp_seq (wp_use (m1b q.a0 q.n q.c0 q.a5 q.p q.c5 w hn hp f1 H1.2.1 H1.2.2.2.2.2.2.1 _ ?_)))
      intro f2  S2 e2_44 
      have H2 : Has f2 [(44, .bool true), (12, .bool false), (0, .slice q.a0 q.n q.c0), (1, .slice q.a1 q.pn q.c1), (2, .int .u16 ((q.gr : Nat) : Int)), (3, .int .u32 ((q.tk : Nat) : Int)), (4, .int .u32 ((q.bd : Nat) : Int)), (5, .slice q.a5 q.p q.c5)] := ⟨e2_44, H1.keep S2⟩
      refine wp_cond_true (evN rfl H2.1) ?_
      refine wp_seq (wp_use (m2 w f2  _ ?_))
      intro f3  S3 e3_12 
      have H3 : Has f3 [(12, .bool true), (44, .bool true), (0, .slice q.a0 q.n q.c0), (1, .slice q.a1 q.pn q.c1), (2, .int .u16 ((q.gr : Nat) : Int)), (3, .int .u32 ((q.tk : Nat) : Int)), (4, .int .u32 ((q.bd : Nat) : Int)), (5, .slice q.a5 q.p q.c5)] := ⟨e3_12, H2.keep S3⟩
      exact wp_ret (ret3 H3.1 (Below.refl _ _))
  · refine wp_seq (wp_seq (wp_use (m1a q.a0 q.n q.c0 w hn f1 H1.2.1 _ ?_)))
    intro f2  S2 e2_44 
    have H2 : Has f2 [(44, .bool true), (12, .bool false), (0, .slice q.a0 q.n q.c0), (1, .slice q.a1 q.pn q.c1), (2, .int .u16 ((q.gr : Nat) : Int)), (3, .int .u32 ((q.tk : Nat) : Int)), (4, .int .u32 ((q.bd : Nat) : Int)), (5, .slice q.a5 q.p q.c5)] := ⟨e2_44, H1.keep S2⟩
    refine wp_cond_true (evN rfl H2.1) ?_
    refine wp_seq (wp_use (m2 w f2  _ ?_))
    intro f3  S3 e3_12 
    have H3 : Has f3 [(12, .bool true), (44, .bool true), (0, .slice q.a0 q.n q.c0), (1, .slice q.a1 q.pn q.c1), (2, .int .u16 ((q.gr : Nat) : Int)), (3, .int .u32 ((q.tk : Nat) : Int)), (4, .int .u32 ((q.bd : Nat) : Int)), (5, .slice q.a5 q.p q.c5)] := ⟨e3_12, H2.keep S3⟩
    exact wp_ret (ret3 H3.1 (Below.refl _ _))
set_option maxRecDepth 100000 in
set_option maxHeartbeats 1000000 in
theorem fire_main (q : LA) (w : World) (okk : q.n ≤ 300 → q.p ≤ 1024 → q.Ok w) :
    Calls Ybaf.prog 3 #[.slice q.a0 q.n q.c0, .slice q.a1 q.pn q.c1, .int .u16 ((q.gr : Nat) : Int), .int .u32 ((q.tk : Nat) : Int), .int .u32 ((q.bd : Nat) : Int), .slice q.a5 q.p q.c5] w fun e w' => e = .returned (.bool true) ∧ Below w.heap.size w w' := by
  go_enter Ybaf.func3, Ybaf.ntmps3
  change Code.wp Ybaf.prog l3 _ _ _
  rw [Fm_of (N := 309) _ (by rfl)]
  exact fire_wp q w okk _ ⟨by rfl, by rfl, by rfl, by rfl, by rfl, by rfl, trivial⟩
end Go.Proofs.YbulkblsgFmt

import Derived.Test.YbulkblsgFmtTq
namespace Go.Proofs.YbulkblsgFmt
open Go.RowKit Go.Sort
set_option linter.unusedVariables false
set_option linter.unusedSimpArgs false
theorem l3_12 : dropC 12 l3 = (headC (dropC 12 l3)).seq (((headC (headC (dropC 13 l3))).seq (Code.block 2 (.loop l3b))).seq (dropC 14 l3)) := by kernel_rfl
theorem l3b_eq : l3b = ((headC (headC l3b)).seq (Code.cond (.tmp 120) .skip (.exit 2))).seq ((Code.block 3 ((headC b3b).seq (Code.cond (.tmp 137) (thnC (tailC b3b)) .skip))).seq (dropC 2 l3b)) := by kernel_rfl
theorem own_new (w : World) (n : Nat) (hn : n ≤ 1000) : (w.alloc (.cells (madeCells #[.int .i64 0] n) 3)).ownsRow 0 3 1 (.slice (some ⟨w.heap.size, 0, none⟩) 0 n) 0 [] := by
  refine ⟨rfl, Or.inr ⟨w.heap.size, n, madeCells #[.int .i64 0] n, rfl, Nat.zero_le _, ?_, Nat.zero_le _, by unfold maxLen; omega, by rw [size_madeCells]; omega, by simp⟩⟩
  show (w.heap.push _)[w.heap.size]? = _
  rw [Array.getElem?_push, if_pos rfl]
set_option maxRecDepth 100000 in
set_option maxHeartbeats 1000000 in
theorem partB (q : LA) (w : World) (ok : q.Ok w) (D C Lb G cp : Nat) (F : Nat → Value) (nx pv hd oc : Nat → Int) (wq : World) (s : q.S2 w D C Lb G cp F nx pv hd oc wq) (fi : FI q.T q.ls q.bd q.n (lkd q.pk q.n) (lkd q.pk q.n) [] (-1) nx pv hd) (hcp : q.p + (exd q.T q.bd (lkd q.pk q.n)).length ≤ cp) (hf1 : ∀ k, k < q.p → F k = .int .i64 (q.pre.getD k 0)) (d' : Array Int) (hd1 : PermIn 0 (exd q.T q.bd (lkd q.pk q.n)).length (nats (exd q.T q.bd (lkd q.pk q.n))).toArray d') (hd2 : SortedIn (ltD q.dl) 0 (exd q.T q.bd (lkd q.pk q.n)).length d') (hf2 : ∀ k, k < (exd q.T q.bd (lkd q.pk q.n)).length → F (q.p + k) = .int .i64 d'[k]!) (f : Nat → Value) (H : Has f [(0, .slice q.a0 q.n q.c0), (3, .int .u32 ((q.tk : Nat) : Int)), (4, .int .u32 ((q.bd : Nat) : Int)), (13, .int .i64 ((q.g : Nat) : Int)), (14, .int .i64 ((q.n : Nat) : Int)), (15, .pointer (some ⟨D, 0, none⟩)), (17, .slice (some ⟨Lb, 0, none⟩) q.n q.n), (5, .slice q.a5 q.p q.c5), (20, .slice (some ⟨G, 0, none⟩) (q.p + (exd q.T q.bd (lkd q.pk q.n)).length) cp)]) :
    Code.wp Ybaf.prog (dropC 12 l3) (bodyPost Ybaf.prog Ybaf.f3 (fun e w' => e = .returned (.bool true) ∧ Below w.heap.size w w')) (Fm 309 f) wq := by
  have hn := ok.n300
  have hbw := s.be.size
  have hDl := s.rd.lt
  have hCl := s.rc.lt
  have hLl := s.rl.lt
  have hGl := s.ro.lt
  rw [l3_12]
  refine wp_seq (wp_use (m20 q.n wq hn f H.2.2.2.2.1 _ ?_))
  intro f1  S1 e1_21 
  have H1 : Has f1 [(21, .slice (some ⟨wq.heap.size, 0, none⟩) 0 q.n), (0, .slice q.a0 q.n q.c0), (3, .int .u32 ((q.tk : Nat) : Int)), (4, .int .u32 ((q.bd : Nat) : Int)), (13, .int .i64 ((q.g : Nat) : Int)), (14, .int .i64 ((q.n : Nat) : Int)), (15, .pointer (some ⟨D, 0, none⟩)), (17, .slice (some ⟨Lb, 0, none⟩) q.n q.n), (5, .slice q.a5 q.p q.c5), (20, .slice (some ⟨G, 0, none⟩) (q.p + (exd q.T q.bd (lkd q.pk q.n)).length) cp)] := ⟨e1_21, H.keep S1⟩
  have s1 : q.S2 w D C Lb G cp F nx pv hd oc (wq.alloc (.cells (madeCells #[.int .i64 0] q.n) 3)) := s.grown (Wb := wq.heap.size) (World.grownBy_alloc _ _ _) (by omega) (by omega) (by omega) (by omega) (by omega)
  have o1 := own_new wq q.n (by omega)
  refine wp_join (fun a' w' => ∃ (f : Nat → Value) (Wb wl wc : Nat), a' = Fm 309 f ∧ Has f [(0, .slice q.a0 q.n q.c0), (3, .int .u32 ((q.tk : Nat) : Int)), (4, .int .u32 ((q.bd : Nat) : Int)), (13, .int .i64 ((q.g : Nat) : Int)), (14, .int .i64 ((q.n : Nat) : Int)), (15, .pointer (some ⟨D, 0, none⟩)), (17, .slice (some ⟨Lb, 0, none⟩) q.n q.n), (5, .slice q.a5 q.p q.c5), (20, .slice (some ⟨G, 0, none⟩) (q.p + (exd q.T q.bd (lkd q.pk q.n)).length) cp), (21, .slice (some ⟨Wb, 0, none⟩) wl wc)] ∧ q.S2 w D C Lb G cp F nx pv hd oc w' ∧ w'.ownsRow 0 3 1 (.slice (some ⟨Wb, 0, none⟩) wl wc) wl (vals (nats (wl0 q.pk q.T q.bd q.n))) ∧ wl = (wl0 q.pk q.T q.bd q.n).length ∧ w.heap.size ≤ Wb ∧ Wb ≠ D ∧ Wb ≠ C ∧ Wb ≠ Lb ∧ Wb ≠ G) ?_ ?_
  · refine wp_seq (wp_use (m21 _ f1  _ ?_))
    intro f2  S2 e2_22 
    have H2 : Has f2 [(22, .int .i64 ((0 : Nat) : Int)), (21, .slice (some ⟨wq.heap.size, 0, none⟩) 0 q.n), (0, .slice q.a0 q.n q.c0), (3, .int .u32 ((q.tk : Nat) : Int)), (4, .int .u32 ((q.bd : Nat) : Int)), (13, .int .i64 ((q.g : Nat) : Int)), (14, .int .i64 ((q.n : Nat) : Int)), (15, .pointer (some ⟨D, 0, none⟩)), (17, .slice (some ⟨Lb, 0, none⟩) q.n q.n), (5, .slice q.a5 q.p q.c5), (20, .slice (some ⟨G, 0, none⟩) (q.p + (exd q.T q.bd (lkd q.pk q.n)).length) cp)] := ⟨e2_22, H1.keep S2⟩
    refine wp_block (wp_loop_ghost (fun k a' w' => ∃ (f : Nat → Value) (i Wb wl wc : Nat), a' = Fm 309 f ∧ k = q.n - i ∧ i ≤ q.n ∧ Has f [(0, .slice q.a0 q.n q.c0), (3, .int .u32 ((q.tk : Nat) : Int)), (4, .int .u32 ((q.bd : Nat) : Int)), (13, .int .i64 ((q.g : Nat) : Int)), (14, .int .i64 ((q.n : Nat) : Int)), (15, .pointer (some ⟨D, 0, none⟩)), (17, .slice (some ⟨Lb, 0, none⟩) q.n q.n), (5, .slice q.a5 q.p q.c5), (20, .slice (some ⟨G, 0, none⟩) (q.p + (exd q.T q.bd (lkd q.pk q.n)).length) cp), (21, .slice (some ⟨Wb, 0, none⟩) wl wc), (22, .int .i64 ((i : Nat) : Int))] ∧ q.S2 w D C Lb G cp F nx pv hd oc w' ∧ w'.ownsRow 0 3 1 (.slice (some ⟨Wb, 0, none⟩) wl wc) wl (vals (nats (wl0 q.pk q.T q.bd i))) ∧ wl = (wl0 q.pk q.T q.bd i).length ∧ w.heap.size ≤ Wb ∧ Wb ≠ D ∧ Wb ≠ C ∧ Wb ≠ Lb ∧ Wb ≠ G) q.n ⟨f2, 0, wq.heap.size, 0, q.n, rfl, by omega, by omega, ⟨H2.2.2.1, H2.2.2.2.1, H2.2.2.2.2.1, H2.2.2.2.2.2.1, H2.2.2.2.2.2.2.1, H2.2.2.2.2.2.2.2.1, H2.2.2.2.2.2.2.2.2.1, H2.2.2.2.2.2.2.2.2.2.1, H2.2.2.2.2.2.2.2.2.2.2.1, H2.2.1, H2.1, trivial⟩, s1, o1, rfl, by omega, by omega, by omega, by omega, by omega⟩ ?_)
    rintro k _ w0 ⟨f, i, Wb, wl, wc, rfl, rfl, hi, H, s, ho, hwl, hW0, hWD, hWC, hWL, hWG⟩
    have hwll : wl ≤ i := by rw [hwl]; exact wl0_len
    rw [l3b_eq]
    refine wp_seq (wp_seq (wp_use (m22 i q.n w0 f H.2.2.2.2.1 H.2.2.2.2.2.2.2.2.2.2.1 _ ?_)))
    intro f41  S41 e41_120 
    have H41 : Has f41 [(120, .bool (decide (((i : Nat) : Int) < ((q.n : Nat) : Int)))), (0, .slice q.a0 q.n q.c0), (3, .int .u32 ((q.tk : Nat) : Int)), (4, .int .u32 ((q.bd : Nat) : Int)), (13, .int .i64 ((q.g : Nat) : Int)), (14, .int .i64 ((q.n : Nat) : Int)), (15, .pointer (some ⟨D, 0, none⟩)), (17, .slice (some ⟨Lb, 0, none⟩) q.n q.n), (5, .slice q.a5 q.p q.c5), (20, .slice (some ⟨G, 0, none⟩) (q.p + (exd q.T q.bd (lkd q.pk q.n)).length) cp), (21, .slice (some ⟨Wb, 0, none⟩) wl wc), (22, .int .i64 ((i : Nat) : Int))] := ⟨e41_120, H.keep S41⟩
    by_cases hlt : i < q.n
    · refine wp_cond_true (evN rfl (H41.1.trans (by rw [decide_eq_true (by omega)]))) (wp_skip ?_)
      have ha0 := ok.ha0 (by omega)
      refine wp_join (fun a' w' => ∃ (f : Nat → Value) (Wb wl wc : Nat), a' = Fm 309 f ∧ Has f [(0, .slice q.a0 q.n q.c0), (3, .int .u32 ((q.tk : Nat) : Int)), (4, .int .u32 ((q.bd : Nat) : Int)), (13, .int .i64 ((q.g : Nat) : Int)), (14, .int .i64 ((q.n : Nat) : Int)), (15, .pointer (some ⟨D, 0, none⟩)), (17, .slice (some ⟨Lb, 0, none⟩) q.n q.n), (5, .slice q.a5 q.p q.c5), (20, .slice (some ⟨G, 0, none⟩) (q.p + (exd q.T q.bd (lkd q.pk q.n)).length) cp), (21, .slice (some ⟨Wb, 0, none⟩) wl wc), (22, .int .i64 ((i : Nat) : Int))] ∧ q.S2 w D C Lb G cp F nx pv hd oc w' ∧ w'.ownsRow 0 3 1 (.slice (some ⟨Wb, 0, none⟩) wl wc) wl (vals (nats (wl0 q.pk q.T q.bd (i + 1)))) ∧ wl = (wl0 q.pk q.T q.bd (i + 1)).length ∧ w.heap.size ≤ Wb ∧ Wb ≠ D ∧ Wb ≠ C ∧ Wb ≠ Lb ∧ Wb ≠ G) ?_ ?_
      · refine wp_block ?_
        have hl := s.rl.cell (i := i) hlt
        cases hpk : q.pk i with
        | false =>
          rw [hpk] at hl
          refine wp_seq (wp_use (m24f Lb q.n i w0 hlt hl f41 H41.2.2.2.2.2.2.2.1 H41.2.2.2.2.2.2.2.2.2.2.2.1 _ ?_))
          intro f42  S42 e42_137 
          have H42 : Has f42 [(137, .bool false), (120, .bool (decide (((i : Nat) : Int) < ((q.n : Nat) : Int)))), (0, .slice q.a0 q.n q.c0), (3, .int .u32 ((q.tk : Nat) : Int)), (4, .int .u32 ((q.bd : Nat) : Int)), (13, .int .i64 ((q.g : Nat) : Int)), (14, .int .i64 ((q.n : Nat) : Int)), (15, .pointer (some ⟨D, 0, none⟩)), (17, .slice (some ⟨Lb, 0, none⟩) q.n q.n), (5, .slice q.a5 q.p q.c5), (20, .slice (some ⟨G, 0, none⟩) (q.p + (exd q.T q.bd (lkd q.pk q.n)).length) cp), (21, .slice (some ⟨Wb, 0, none⟩) wl wc), (22, .int .i64 ((i : Nat) : Int))] := ⟨e42_137, H41.keep S42⟩
          refine wp_cond_false (evN rfl H42.1) (wp_skip ?_)
          refine ⟨f42, Wb, wl, wc, rfl, ⟨H42.2.2.1, H42.2.2.2.1, H42.2.2.2.2.1, H42.2.2.2.2.2.1, H42.2.2.2.2.2.2.1, H42.2.2.2.2.2.2.2.1, H42.2.2.2.2.2.2.2.2.1, H42.2.2.2.2.2.2.2.2.2.1, H42.2.2.2.2.2.2.2.2.2.2.1, H42.2.2.2.2.2.2.2.2.2.2.2.1, H42.2.2.2.2.2.2.2.2.2.2.2.2.1, trivial⟩, s, ?_, ?_, hW0, hWD, hWC, hWL, hWG⟩
          · rw [wl0_out (fun h => by rw [hpk] at h; cases h.1)]; exact ho
          · rw [wl0_out (fun h => by rw [hpk] at h; cases h.1)]; exact hwl
        | true =>
          rw [hpk] at hl
          rw [ha0] at H41
          refine wp_seq (wp_use (m24t Lb q.ab q.ao q.n q.c0 i (q.dl i) q.g q.bd w0 hlt q.g1 q.g2 (ok.dl i) ok.bd hl (cell_later s.be (ok.cdl i hlt)) f41 H41.2.1 H41.2.2.2.1 H41.2.2.2.2.1 H41.2.2.2.2.2.2.2.1 H41.2.2.2.2.2.2.2.2.2.2.2.1 _ ?_))
          intro f42  S42 e42_137 
          have H42 : Has f42 [(137, .bool (decide (((q.T i : Nat) : Int) < ((q.bd : Nat) : Int)))), (120, .bool (decide (((i : Nat) : Int) < ((q.n : Nat) : Int)))), (0, .slice (some ⟨q.ab, q.ao, none⟩) q.n q.c0), (3, .int .u32 ((q.tk : Nat) : Int)), (4, .int .u32 ((q.bd : Nat) : Int)), (13, .int .i64 ((q.g : Nat) : Int)), (14, .int .i64 ((q.n : Nat) : Int)), (15, .pointer (some ⟨D, 0, none⟩)), (17, .slice (some ⟨Lb, 0, none⟩) q.n q.n), (5, .slice q.a5 q.p q.c5), (20, .slice (some ⟨G, 0, none⟩) (q.p + (exd q.T q.bd (lkd q.pk q.n)).length) cp), (21, .slice (some ⟨Wb, 0, none⟩) wl wc), (22, .int .i64 ((i : Nat) : Int))] := ⟨e42_137, H41.keep S42⟩
          rw [← ha0] at H42
          by_cases hT : q.T i < q.bd
          · refine wp_cond_true (evN rfl (H42.1.trans (by rw [decide_eq_true (by omega)]))) ?_
            refine wp_use (m25 Wb wl wc i _ w0 (by omega) ho f42 H42.2.2.2.2.2.2.2.2.2.2.2.1 H42.2.2.2.2.2.2.2.2.2.2.2.2.1 _ ?_)
            intro f43 G2 cap2 w2 S43 e43_21 q1 q2 q3 q4
            have H43 : Has f43 [(21, .slice (some ⟨G2, 0, none⟩) (wl + 1) cap2), (137, .bool (decide (((q.T i : Nat) : Int) < ((q.bd : Nat) : Int)))), (120, .bool (decide (((i : Nat) : Int) < ((q.n : Nat) : Int)))), (0, .slice q.a0 q.n q.c0), (3, .int .u32 ((q.tk : Nat) : Int)), (4, .int .u32 ((q.bd : Nat) : Int)), (13, .int .i64 ((q.g : Nat) : Int)), (14, .int .i64 ((q.n : Nat) : Int)), (15, .pointer (some ⟨D, 0, none⟩)), (17, .slice (some ⟨Lb, 0, none⟩) q.n q.n), (5, .slice q.a5 q.p q.c5), (20, .slice (some ⟨G, 0, none⟩) (q.p + (exd q.T q.bd (lkd q.pk q.n)).length) cp), (22, .int .i64 ((i : Nat) : Int))] := ⟨e43_21, H42.keep S43⟩
            have hs0 := s.rd.lt
            have hs1 := s.rc.lt
            have hs2 := s.rl.lt
            have hs3 := s.ro.lt
            have hs4 := s.be.size
            have hsz : (w0.alloc (.cells #[.int .i64 ((i : Nat) : Int)] 3)).heap.size = w0.heap.size + 1 := al_size _ _
            rw [hsz] at q3
            refine ⟨f43, G2, wl + 1, cap2, rfl, ⟨H43.2.2.2.1, H43.2.2.2.2.1, H43.2.2.2.2.2.1, H43.2.2.2.2.2.2.1, H43.2.2.2.2.2.2.2.1, H43.2.2.2.2.2.2.2.2.1, H43.2.2.2.2.2.2.2.2.2.1, H43.2.2.2.2.2.2.2.2.2.2.1, H43.2.2.2.2.2.2.2.2.2.2.2.1, H43.1, H43.2.2.2.2.2.2.2.2.2.2.2.2.1, trivial⟩, ((s.grown (Wb := Wb) (World.grownBy_alloc _ _ _) hW0 hWD hWC hWL hWG).grown q2 hW0 hWD hWC hWL hWG), ?_, ?_, ?_, ?_, ?_, ?_, ?_⟩
            · rw [wl0_in hpk hT]
              have e1 : vals (nats (wl0 q.pk q.T q.bd i ++ [i])) = vals (nats (wl0 q.pk q.T q.bd i)) ++ [.int .i64 ((i : Nat) : Int)] := by unfold vals nats; simp
              rw [e1]; exact q1
            · rw [wl0_in hpk hT, List.length_append, ← hwl]; rfl
            all_goals (rcases q3 with e | e <;> omega)
          · refine wp_cond_false (evN rfl (H42.1.trans (by rw [decide_eq_false (by omega)]))) (wp_skip ?_)
            refine ⟨f42, Wb, wl, wc, rfl, ⟨H42.2.2.1, H42.2.2.2.1, H42.2.2.2.2.1, H42.2.2.2.2.2.1, H42.2.2.2.2.2.2.1, H42.2.2.2.2.2.2.2.1, H42.2.2.2.2.2.2.2.2.1, H42.2.2.2.2.2.2.2.2.2.1, H42.2.2.2.2.2.2.2.2.2.2.1, H42.2.2.2.2.2.2.2.2.2.2.2.1, H42.2.2.2.2.2.2.2.2.2.2.2.2.1, trivial⟩, s, ?_, ?_, hW0, hWD, hWC, hWL, hWG⟩
            · rw [wl0_out (fun h => hT h.2)]; exact ho
            · rw [wl0_out (fun h => hT h.2)]; exact hwl
      · rintro _ w2 ⟨f, Wb, wl, wc, rfl, H, s, ho, hwl, hW0, hWD, hWC, hWL, hWG⟩
        refine wp_use (m23 i w2 (by omega) f H.2.2.2.2.2.2.2.2.2.2.1 _ ?_)
        intro f81  S81 e81_22 
        have H81 : Has f81 [(22, .int .i64 (((i : Nat) : Int) + 1)), (0, .slice q.a0 q.n q.c0), (3, .int .u32 ((q.tk : Nat) : Int)), (4, .int .u32 ((q.bd : Nat) : Int)), (13, .int .i64 ((q.g : Nat) : Int)), (14, .int .i64 ((q.n : Nat) : Int)), (15, .pointer (some ⟨D, 0, none⟩)), (17, .slice (some ⟨Lb, 0, none⟩) q.n q.n), (5, .slice q.a5 q.p q.c5), (20, .slice (some ⟨G, 0, none⟩) (q.p + (exd q.T q.bd (lkd q.pk q.n)).length) cp), (21, .slice (some ⟨Wb, 0, none⟩) wl wc)] := ⟨e81_22, H.keep S81⟩
        exact ⟨q.n - (i + 1), by omega, f81, i + 1, Wb, wl, wc, rfl, rfl, by omega, ⟨H81.2.1, H81.2.2.1, H81.2.2.2.1, H81.2.2.2.2.1, H81.2.2.2.2.2.1, H81.2.2.2.2.2.2.1, H81.2.2.2.2.2.2.2.1, H81.2.2.2.2.2.2.2.2.1, H81.2.2.2.2.2.2.2.2.2.1, H81.2.2.2.2.2.2.2.2.2.2.1, H81.1, trivial⟩, s, ho, hwl, hW0, hWD, hWC, hWL, hWG⟩
    · refine wp_cond_false (evN rfl (H41.1.trans (by rw [decide_eq_false (by omega)]))) (wp_exit ?_)
      have hin : i = q.n := by omega
      rw [hin] at ho hwl
      exact ⟨f41, Wb, wl, wc, rfl, ⟨H41.2.1, H41.2.2.1, H41.2.2.2.1, H41.2.2.2.2.1, H41.2.2.2.2.2.1, H41.2.2.2.2.2.2.1, H41.2.2.2.2.2.2.2.1, H41.2.2.2.2.2.2.2.2.1, H41.2.2.2.2.2.2.2.2.2.1, H41.2.2.2.2.2.2.2.2.2.2.1, trivial⟩, s, ho, hwl, hW0, hWD, hWC, hWL, hWG⟩
  · rintro _ w2 ⟨f, Wb, wl, wc, rfl, H, s, ho, hwl, hW0, hWD, hWC, hWL, hWG⟩
    have hlen : (exd q.T q.bd (lkd q.pk q.n)).length = wl := by rw [hwl]; exact (exd_perm q.pk q.T q.bd q.n).length_eq
    have hwln : wl ≤ q.n := by rw [hwl]; exact wl0_len
    rw [hlen] at hcp hd1 hd2 hf2 H
    obtain ⟨hwc, Fr, hFr, hFv⟩ := own_row ho
    have hsz : (nats (wl0 q.pk q.T q.bd q.n)).toArray.size = wl := by rw [hwl]; simp [nats]
    have hi := insertionSort_holds (ltD_swo q.dl) (nats (wl0 q.pk q.T q.bd q.n)).toArray 0 wl (Nat.zero_le _) (by omega)
    have heq : d' = Sort.insertionSort (ltD q.dl) (nats (wl0 q.pk q.T q.bd q.n)).toArray 0 wl := by
      refine want_eq q.dl _ _ (exd_perm q.pk q.T q.bd q.n) d' _ (by rw [hlen]; exact hd1) (by rw [hlen]; exact hd2) ?_ ?_
      · rw [← hwl]; exact hi.1
      · rw [← hwl]; exact hi.2
    refine partC q w ok D C Lb G cp F nx pv hd oc fi Wb wl wc Fr (nats (wl0 q.pk q.T q.bd q.n)).toArray hW0 hWD hWC hWL hWG hwc hcp (by omega) hf1 (fun k hk => by rw [hf2 k hk, heq]) w2 ⟨s, hFr.congr fun k hk => ?_, hsz, fun t ht => ?_⟩ f H
    · unfold wrow
      split
      · rename_i hk2
        rw [hsz] at hk2
        have h1 := hFv k hk2
        rw [vals_at _ k (by simp [nats]; omega)] at h1
        rw [← Option.some.inj h1, nats_get _ k (by omega), List.getD_eq_getElem?_getD]
        unfold nats
        rw [List.getElem?_map, List.getElem?_eq_getElem (by omega)]; rfl
      · rfl
    · exact ⟨(wl0 q.pk q.T q.bd q.n)[t]'(by omega), wl0_lt (List.getElem_mem _), nats_get _ t (by omega)⟩
end Go.Proofs.YbulkblsgFmt

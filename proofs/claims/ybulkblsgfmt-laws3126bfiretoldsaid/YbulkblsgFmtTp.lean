import Derived.Test.YbulkblsgFmtTo
namespace Go.Proofs.YbulkblsgFmt
open Go.RowKit Go.Sort
set_option linter.unusedVariables false
set_option linter.unusedSimpArgs false
theorem l3_17 : dropC 17 l3 = ((headC (headC (dropC 17 l3))).seq (Code.block 10 (.loop l3f))).seq (dropC 18 l3) := by kernel_rfl
theorem l3f_eq : l3f = ((headC (headC l3f)).seq (Code.cond (.tmp 222) .skip (.exit 10))).seq ((Code.block 11 ((headC b3f).seq (Code.cond (.tmp 236) (thnC (tailC b3f)) .skip))).seq (dropC 2 l3f)) := by kernel_rfl
theorem l3_16 : dropC 16 l3 = ((headC (headC (dropC 16 l3))).seq (Code.block 8 (.loop l3e))).seq (dropC 17 l3) := by kernel_rfl
theorem l3e_eq : l3e = ((headC (headC l3e)).seq (Code.cond (.tmp 207) .skip (.exit 8))).seq ((Code.block 9 ((headC b3e).seq (Code.cond (.tmp 218) (thnC (tailC b3e)) .skip))).seq (dropC 2 l3e)) := by kernel_rfl
theorem l3_15 : dropC 15 l3 = ((headC (headC (dropC 15 l3))).seq (Code.cond (.tmp 203) (thnC (tailC (headC (dropC 15 l3)))) .skip)).seq (dropC 16 l3) := by kernel_rfl
set_option maxRecDepth 100000 in
set_option maxHeartbeats 1000000 in
theorem partF (q : LA) (w : World) (ok : q.Ok w) (D C Lb G cp : Nat) (F : Nat → Value) (nx pv hd oc : Nat → Int) (wq : World) (s : q.S2 w D C Lb G cp F nx pv hd oc wq) (fi : FI q.T q.ls q.bd q.n (lkd q.pk q.n) (lkd q.pk q.n) [] (-1) nx pv hd) (Wb wl wc : Nat) (Fw : Nat → Value) (hw : wq.rowIs Wb 3 wc Fw) (hwc : wl ≤ wc) (hcp : q.p + wl ≤ cp) (hwl : wl ≤ 300) (hf1 : ∀ k, k < q.p → F k = .int .i64 (q.pre.getD k 0)) (hf2 : ∀ k, k < wl → ∃ v : Int, F (q.p + k) = .int .i64 v ∧ Fw k = .int .i64 v) (f : Nat → Value) (H : Has f [(0, .slice q.a0 q.n q.c0), (3, .int .u32 ((q.tk : Nat) : Int)), (4, .int .u32 ((q.bd : Nat) : Int)), (13, .int .i64 ((q.g : Nat) : Int)), (14, .int .i64 ((q.n : Nat) : Int)), (15, .pointer (some ⟨D, 0, none⟩)), (17, .slice (some ⟨Lb, 0, none⟩) q.n q.n), (5, .slice q.a5 q.p q.c5), (20, .slice (some ⟨G, 0, none⟩) (q.p + wl) cp), (21, .slice (some ⟨Wb, 0, none⟩) wl wc)]) :
    Code.wp Ybaf.prog (dropC 17 l3) (bodyPost Ybaf.prog Ybaf.f3 (fun e w' => e = .returned (.bool true) ∧ Below w.heap.size w w')) (Fm 309 f) wq := by
  have hn := ok.n300
  have hp := ok.p1024
  rw [l3_17]
  refine wp_join (fun a' w' => ∃ (f : Nat → Value) (nq : Nat), w' = wq.drewN nq ∧ a' = Fm 309 f ∧ Has f [(0, .slice q.a0 q.n q.c0), (3, .int .u32 ((q.tk : Nat) : Int)), (4, .int .u32 ((q.bd : Nat) : Int)), (13, .int .i64 ((q.g : Nat) : Int)), (14, .int .i64 ((q.n : Nat) : Int)), (15, .pointer (some ⟨D, 0, none⟩)), (17, .slice (some ⟨Lb, 0, none⟩) q.n q.n), (5, .slice q.a5 q.p q.c5), (20, .slice (some ⟨G, 0, none⟩) (q.p + wl) cp), (21, .slice (some ⟨Wb, 0, none⟩) wl wc)]) ?_ ?_
  · refine wp_seq (wp_use (m44 wq f  _ ?_))
    intro f1  S1 e1_28 
    have H1 : Has f1 [(28, .int .i64 ((0 : Nat) : Int)), (0, .slice q.a0 q.n q.c0), (3, .int .u32 ((q.tk : Nat) : Int)), (4, .int .u32 ((q.bd : Nat) : Int)), (13, .int .i64 ((q.g : Nat) : Int)), (14, .int .i64 ((q.n : Nat) : Int)), (15, .pointer (some ⟨D, 0, none⟩)), (17, .slice (some ⟨Lb, 0, none⟩) q.n q.n), (5, .slice q.a5 q.p q.c5), (20, .slice (some ⟨G, 0, none⟩) (q.p + wl) cp), (21, .slice (some ⟨Wb, 0, none⟩) wl wc)] := ⟨e1_28, H.keep S1⟩
    refine wp_block (wp_loop_ghost (fun k a' w' => ∃ (f : Nat → Value) (i nq : Nat), w' = wq.drewN nq ∧ a' = Fm 309 f ∧ k = wl - i ∧ i ≤ wl ∧ Has f [(0, .slice q.a0 q.n q.c0), (3, .int .u32 ((q.tk : Nat) : Int)), (4, .int .u32 ((q.bd : Nat) : Int)), (13, .int .i64 ((q.g : Nat) : Int)), (14, .int .i64 ((q.n : Nat) : Int)), (15, .pointer (some ⟨D, 0, none⟩)), (17, .slice (some ⟨Lb, 0, none⟩) q.n q.n), (5, .slice q.a5 q.p q.c5), (20, .slice (some ⟨G, 0, none⟩) (q.p + wl) cp), (21, .slice (some ⟨Wb, 0, none⟩) wl wc), (28, .int .i64 ((i : Nat) : Int))]) (wl) ⟨f1, 0, 0, rfl, rfl, by omega, by omega, ⟨H1.2.1, H1.2.2.1, H1.2.2.2.1, H1.2.2.2.2.1, H1.2.2.2.2.2.1, H1.2.2.2.2.2.2.1, H1.2.2.2.2.2.2.2.1, H1.2.2.2.2.2.2.2.2.1, H1.2.2.2.2.2.2.2.2.2.1, H1.2.2.2.2.2.2.2.2.2.2.1, H1.1, trivial⟩⟩ ?_)
    rintro k _ _ ⟨f, i, nq, rfl, rfl, rfl, hi, H⟩
    rw [l3f_eq]
    refine wp_seq (wp_seq (wp_use (m45 i Wb wl wc _ f H.2.2.2.2.2.2.2.2.2.1 H.2.2.2.2.2.2.2.2.2.2.1 _ ?_)))
    intro f41  S41 e41_222 
    have H41 : Has f41 [(222, .bool (decide (((i : Nat) : Int) < ((wl : Nat) : Int)))), (0, .slice q.a0 q.n q.c0), (3, .int .u32 ((q.tk : Nat) : Int)), (4, .int .u32 ((q.bd : Nat) : Int)), (13, .int .i64 ((q.g : Nat) : Int)), (14, .int .i64 ((q.n : Nat) : Int)), (15, .pointer (some ⟨D, 0, none⟩)), (17, .slice (some ⟨Lb, 0, none⟩) q.n q.n), (5, .slice q.a5 q.p q.c5), (20, .slice (some ⟨G, 0, none⟩) (q.p + wl) cp), (21, .slice (some ⟨Wb, 0, none⟩) wl wc), (28, .int .i64 ((i : Nat) : Int))] := ⟨e41_222, H.keep S41⟩
    by_cases hlt : i < wl
    · refine wp_cond_true (evN rfl (H41.1.trans (by rw [decide_eq_true (by omega)]))) (wp_skip ?_)
      refine wp_seq (wp_block ?_)
      obtain ⟨v, e1, e2⟩ := hf2 i hlt
      have h1 : (wq.drewN nq).cell? ⟨G, q.p + i, none⟩ = some (.int .i64 v) := by rw [← e1]; exact (s.drewN nq).ro.cell (by omega)
      have h2 : (wq.drewN nq).cell? ⟨Wb, i, none⟩ = some (.int .i64 v) := by rw [← e2]; exact hw.cell (by omega)
      refine wp_seq (wp_use (m47 G (q.p + wl) cp q.a5 q.p q.c5 Wb wl wc i v _ hlt (by omega) (by omega) h1 h2 f41 H41.2.2.2.2.2.2.2.2.1 H41.2.2.2.2.2.2.2.2.2.1 H41.2.2.2.2.2.2.2.2.2.2.1 H41.2.2.2.2.2.2.2.2.2.2.2.1 _ ?_))
      intro f42 nq2 S42 e42_236 
      have H42 : Has f42 [(236, .bool false), (222, .bool (decide (((i : Nat) : Int) < ((wl : Nat) : Int)))), (0, .slice q.a0 q.n q.c0), (3, .int .u32 ((q.tk : Nat) : Int)), (4, .int .u32 ((q.bd : Nat) : Int)), (13, .int .i64 ((q.g : Nat) : Int)), (14, .int .i64 ((q.n : Nat) : Int)), (15, .pointer (some ⟨D, 0, none⟩)), (17, .slice (some ⟨Lb, 0, none⟩) q.n q.n), (5, .slice q.a5 q.p q.c5), (20, .slice (some ⟨G, 0, none⟩) (q.p + wl) cp), (21, .slice (some ⟨Wb, 0, none⟩) wl wc), (28, .int .i64 ((i : Nat) : Int))] := ⟨e42_236, H41.keep S42⟩
      refine wp_cond_false (evN rfl H42.1) (wp_skip ?_)
      refine wp_use (m46 i _ (by omega) f42 H42.2.2.2.2.2.2.2.2.2.2.2.2.1 _ ?_)
      intro f43  S43 e43_28 
      have H43 : Has f43 [(28, .int .i64 (((i : Nat) : Int) + 1)), (236, .bool false), (222, .bool (decide (((i : Nat) : Int) < ((wl : Nat) : Int)))), (0, .slice q.a0 q.n q.c0), (3, .int .u32 ((q.tk : Nat) : Int)), (4, .int .u32 ((q.bd : Nat) : Int)), (13, .int .i64 ((q.g : Nat) : Int)), (14, .int .i64 ((q.n : Nat) : Int)), (15, .pointer (some ⟨D, 0, none⟩)), (17, .slice (some ⟨Lb, 0, none⟩) q.n q.n), (5, .slice q.a5 q.p q.c5), (20, .slice (some ⟨G, 0, none⟩) (q.p + wl) cp), (21, .slice (some ⟨Wb, 0, none⟩) wl wc)] := ⟨e43_28, H42.keep S43⟩
      exact ⟨wl - (i + 1), by omega, f43, i + 1, nq + nq2, by rw [World.drewN_drewN], rfl, rfl, by omega, ⟨H43.2.2.2.1, H43.2.2.2.2.1, H43.2.2.2.2.2.1, H43.2.2.2.2.2.2.1, H43.2.2.2.2.2.2.2.1, H43.2.2.2.2.2.2.2.2.1, H43.2.2.2.2.2.2.2.2.2.1, H43.2.2.2.2.2.2.2.2.2.2.1, H43.2.2.2.2.2.2.2.2.2.2.2.1, H43.2.2.2.2.2.2.2.2.2.2.2.2.1, H43.1, trivial⟩⟩
    · refine wp_cond_false (evN rfl (H41.1.trans (by rw [decide_eq_false (by omega)]))) (wp_exit ?_)
      exact ⟨f41, nq, rfl, rfl, ⟨H41.2.1, H41.2.2.1, H41.2.2.2.1, H41.2.2.2.2.1, H41.2.2.2.2.2.1, H41.2.2.2.2.2.2.1, H41.2.2.2.2.2.2.2.1, H41.2.2.2.2.2.2.2.2.1, H41.2.2.2.2.2.2.2.2.2.1, H41.2.2.2.2.2.2.2.2.2.2.1, trivial⟩⟩
  · rintro _ _ ⟨f, nq, rfl, rfl, H⟩
    exact partG q w ok D C Lb G cp F nx pv hd oc _ (s.drewN nq) fi f ⟨H.1, H.2.1, H.2.2.1, H.2.2.2.1, H.2.2.2.2.1, H.2.2.2.2.2.1, H.2.2.2.2.2.2.1, trivial⟩
set_option maxRecDepth 100000 in
set_option maxHeartbeats 1000000 in
theorem partE (q : LA) (w : World) (ok : q.Ok w) (D C Lb G cp : Nat) (F : Nat → Value) (nx pv hd oc : Nat → Int) (wq : World) (s : q.S2 w D C Lb G cp F nx pv hd oc wq) (fi : FI q.T q.ls q.bd q.n (lkd q.pk q.n) (lkd q.pk q.n) [] (-1) nx pv hd) (Wb wl wc : Nat) (Fw : Nat → Value) (hw : wq.rowIs Wb 3 wc Fw) (hwc : wl ≤ wc) (hcp : q.p + wl ≤ cp) (hwl : wl ≤ 300) (hf1 : ∀ k, k < q.p → F k = .int .i64 (q.pre.getD k 0)) (hf2 : ∀ k, k < wl → ∃ v : Int, F (q.p + k) = .int .i64 v ∧ Fw k = .int .i64 v) (f : Nat → Value) (H : Has f [(0, .slice q.a0 q.n q.c0), (3, .int .u32 ((q.tk : Nat) : Int)), (4, .int .u32 ((q.bd : Nat) : Int)), (13, .int .i64 ((q.g : Nat) : Int)), (14, .int .i64 ((q.n : Nat) : Int)), (15, .pointer (some ⟨D, 0, none⟩)), (17, .slice (some ⟨Lb, 0, none⟩) q.n q.n), (5, .slice q.a5 q.p q.c5), (20, .slice (some ⟨G, 0, none⟩) (q.p + wl) cp), (21, .slice (some ⟨Wb, 0, none⟩) wl wc)]) :
    Code.wp Ybaf.prog (dropC 16 l3) (bodyPost Ybaf.prog Ybaf.f3 (fun e w' => e = .returned (.bool true) ∧ Below w.heap.size w w')) (Fm 309 f) wq := by
  have hn := ok.n300
  have hp := ok.p1024
  rw [l3_16]
  refine wp_join (fun a' w' => ∃ (f : Nat → Value) (nq : Nat), w' = wq.drewN nq ∧ a' = Fm 309 f ∧ Has f [(0, .slice q.a0 q.n q.c0), (3, .int .u32 ((q.tk : Nat) : Int)), (4, .int .u32 ((q.bd : Nat) : Int)), (13, .int .i64 ((q.g : Nat) : Int)), (14, .int .i64 ((q.n : Nat) : Int)), (15, .pointer (some ⟨D, 0, none⟩)), (17, .slice (some ⟨Lb, 0, none⟩) q.n q.n), (5, .slice q.a5 q.p q.c5), (20, .slice (some ⟨G, 0, none⟩) (q.p + wl) cp), (21, .slice (some ⟨Wb, 0, none⟩) wl wc)]) ?_ ?_
  · refine wp_seq (wp_use (m39 wq f  _ ?_))
    intro f1  S1 e1_27 
    have H1 : Has f1 [(27, .int .i64 ((0 : Nat) : Int)), (0, .slice q.a0 q.n q.c0), (3, .int .u32 ((q.tk : Nat) : Int)), (4, .int .u32 ((q.bd : Nat) : Int)), (13, .int .i64 ((q.g : Nat) : Int)), (14, .int .i64 ((q.n : Nat) : Int)), (15, .pointer (some ⟨D, 0, none⟩)), (17, .slice (some ⟨Lb, 0, none⟩) q.n q.n), (5, .slice q.a5 q.p q.c5), (20, .slice (some ⟨G, 0, none⟩) (q.p + wl) cp), (21, .slice (some ⟨Wb, 0, none⟩) wl wc)] := ⟨e1_27, H.keep S1⟩
    refine wp_block (wp_loop_ghost (fun k a' w' => ∃ (f : Nat → Value) (i nq : Nat), w' = wq.drewN nq ∧ a' = Fm 309 f ∧ k = q.p - i ∧ i ≤ q.p ∧ Has f [(0, .slice q.a0 q.n q.c0), (3, .int .u32 ((q.tk : Nat) : Int)), (4, .int .u32 ((q.bd : Nat) : Int)), (13, .int .i64 ((q.g : Nat) : Int)), (14, .int .i64 ((q.n : Nat) : Int)), (15, .pointer (some ⟨D, 0, none⟩)), (17, .slice (some ⟨Lb, 0, none⟩) q.n q.n), (5, .slice q.a5 q.p q.c5), (20, .slice (some ⟨G, 0, none⟩) (q.p + wl) cp), (21, .slice (some ⟨Wb, 0, none⟩) wl wc), (27, .int .i64 ((i : Nat) : Int))]) (q.p) ⟨f1, 0, 0, rfl, rfl, by omega, by omega, ⟨H1.2.1, H1.2.2.1, H1.2.2.2.1, H1.2.2.2.2.1, H1.2.2.2.2.2.1, H1.2.2.2.2.2.2.1, H1.2.2.2.2.2.2.2.1, H1.2.2.2.2.2.2.2.2.1, H1.2.2.2.2.2.2.2.2.2.1, H1.2.2.2.2.2.2.2.2.2.2.1, H1.1, trivial⟩⟩ ?_)
    rintro k _ _ ⟨f, i, nq, rfl, rfl, rfl, hi, H⟩
    rw [l3e_eq]
    refine wp_seq (wp_seq (wp_use (m40 i q.a5 q.p q.c5 _ f H.2.2.2.2.2.2.2.1 H.2.2.2.2.2.2.2.2.2.2.1 _ ?_)))
    intro f41  S41 e41_207 
    have H41 : Has f41 [(207, .bool (decide (((i : Nat) : Int) < ((q.p : Nat) : Int)))), (0, .slice q.a0 q.n q.c0), (3, .int .u32 ((q.tk : Nat) : Int)), (4, .int .u32 ((q.bd : Nat) : Int)), (13, .int .i64 ((q.g : Nat) : Int)), (14, .int .i64 ((q.n : Nat) : Int)), (15, .pointer (some ⟨D, 0, none⟩)), (17, .slice (some ⟨Lb, 0, none⟩) q.n q.n), (5, .slice q.a5 q.p q.c5), (20, .slice (some ⟨G, 0, none⟩) (q.p + wl) cp), (21, .slice (some ⟨Wb, 0, none⟩) wl wc), (27, .int .i64 ((i : Nat) : Int))] := ⟨e41_207, H.keep S41⟩
    by_cases hlt : i < q.p
    · refine wp_cond_true (evN rfl (H41.1.trans (by rw [decide_eq_true (by omega)]))) (wp_skip ?_)
      refine wp_seq (wp_block ?_)
      have h1 : (wq.drewN nq).cell? ⟨G, i, none⟩ = some (.int .i64 (q.pre.getD i 0)) := by rw [← hf1 i hlt]; exact (s.drewN nq).ro.cell (by omega)
      have h2 : (wq.drewN nq).cell? ⟨q.xb, q.xo + i, none⟩ = some (.int .i64 (q.pre.getD i 0)) := cell_later (s.drewN nq).be (ok.cpx i hlt)
      rw [ok.ha5 (by omega)] at H41
      refine wp_seq (wp_use (m42 G (q.p + wl) cp q.xb q.xo q.p q.c5 i _ _ hlt (by omega) h1 h2 f41 H41.2.2.2.2.2.2.2.2.1 H41.2.2.2.2.2.2.2.2.2.1 H41.2.2.2.2.2.2.2.2.2.2.2.1 _ ?_))
      intro f42 nq2 S42 e42_218 
      have H42 : Has f42 [(218, .bool false), (207, .bool (decide (((i : Nat) : Int) < ((q.p : Nat) : Int)))), (0, .slice q.a0 q.n q.c0), (3, .int .u32 ((q.tk : Nat) : Int)), (4, .int .u32 ((q.bd : Nat) : Int)), (13, .int .i64 ((q.g : Nat) : Int)), (14, .int .i64 ((q.n : Nat) : Int)), (15, .pointer (some ⟨D, 0, none⟩)), (17, .slice (some ⟨Lb, 0, none⟩) q.n q.n), (5, .slice (some ⟨q.xb, q.xo, none⟩) q.p q.c5), (20, .slice (some ⟨G, 0, none⟩) (q.p + wl) cp), (21, .slice (some ⟨Wb, 0, none⟩) wl wc), (27, .int .i64 ((i : Nat) : Int))] := ⟨e42_218, H41.keep S42⟩
      refine wp_cond_false (evN rfl H42.1) (wp_skip ?_)
      refine wp_use (m41 i _ (by omega) f42 H42.2.2.2.2.2.2.2.2.2.2.2.2.1 _ ?_)
      intro f43  S43 e43_27 
      have H43 : Has f43 [(27, .int .i64 (((i : Nat) : Int) + 1)), (218, .bool false), (207, .bool (decide (((i : Nat) : Int) < ((q.p : Nat) : Int)))), (0, .slice q.a0 q.n q.c0), (3, .int .u32 ((q.tk : Nat) : Int)), (4, .int .u32 ((q.bd : Nat) : Int)), (13, .int .i64 ((q.g : Nat) : Int)), (14, .int .i64 ((q.n : Nat) : Int)), (15, .pointer (some ⟨D, 0, none⟩)), (17, .slice (some ⟨Lb, 0, none⟩) q.n q.n), (5, .slice (some ⟨q.xb, q.xo, none⟩) q.p q.c5), (20, .slice (some ⟨G, 0, none⟩) (q.p + wl) cp), (21, .slice (some ⟨Wb, 0, none⟩) wl wc)] := ⟨e43_27, H42.keep S43⟩
      rw [← ok.ha5 (by omega)] at H43
      exact ⟨q.p - (i + 1), by omega, f43, i + 1, nq + nq2, by rw [World.drewN_drewN], rfl, rfl, by omega, ⟨H43.2.2.2.1, H43.2.2.2.2.1, H43.2.2.2.2.2.1, H43.2.2.2.2.2.2.1, H43.2.2.2.2.2.2.2.1, H43.2.2.2.2.2.2.2.2.1, H43.2.2.2.2.2.2.2.2.2.1, H43.2.2.2.2.2.2.2.2.2.2.1, H43.2.2.2.2.2.2.2.2.2.2.2.1, H43.2.2.2.2.2.2.2.2.2.2.2.2.1, H43.1, trivial⟩⟩
    · refine wp_cond_false (evN rfl (H41.1.trans (by rw [decide_eq_false (by omega)]))) (wp_exit ?_)
      exact ⟨f41, nq, rfl, rfl, ⟨H41.2.1, H41.2.2.1, H41.2.2.2.1, H41.2.2.2.2.1, H41.2.2.2.2.2.1, H41.2.2.2.2.2.2.1, H41.2.2.2.2.2.2.2.1, H41.2.2.2.2.2.2.2.2.1, H41.2.2.2.2.2.2.2.2.2.1, H41.2.2.2.2.2.2.2.2.2.2.1, trivial⟩⟩
  · rintro _ _ ⟨f, nq, rfl, rfl, H⟩
    exact partF q w ok D C Lb G cp F nx pv hd oc _ (s.drewN nq) fi Wb wl wc Fw hw hwc hcp hwl hf1 hf2 f H
set_option maxRecDepth 100000 in
set_option maxHeartbeats 1000000 in
theorem part37 (q : LA) (w : World) (ok : q.Ok w) (D C Lb G cp : Nat) (F : Nat → Value) (nx pv hd oc : Nat → Int) (wq : World) (s : q.S2 w D C Lb G cp F nx pv hd oc wq) (fi : FI q.T q.ls q.bd q.n (lkd q.pk q.n) (lkd q.pk q.n) [] (-1) nx pv hd) (Wb wl wc : Nat) (Fw : Nat → Value) (hw : wq.rowIs Wb 3 wc Fw) (hwc : wl ≤ wc) (hcp : q.p + wl ≤ cp) (hwl : wl ≤ 300) (hf1 : ∀ k, k < q.p → F k = .int .i64 (q.pre.getD k 0)) (hf2 : ∀ k, k < wl → ∃ v : Int, F (q.p + k) = .int .i64 v ∧ Fw k = .int .i64 v) (f : Nat → Value) (H : Has f [(0, .slice q.a0 q.n q.c0), (3, .int .u32 ((q.tk : Nat) : Int)), (4, .int .u32 ((q.bd : Nat) : Int)), (13, .int .i64 ((q.g : Nat) : Int)), (14, .int .i64 ((q.n : Nat) : Int)), (15, .pointer (some ⟨D, 0, none⟩)), (17, .slice (some ⟨Lb, 0, none⟩) q.n q.n), (5, .slice q.a5 q.p q.c5), (20, .slice (some ⟨G, 0, none⟩) (q.p + wl) cp), (21, .slice (some ⟨Wb, 0, none⟩) wl wc)]) :
    Code.wp Ybaf.prog (dropC 15 l3) (bodyPost Ybaf.prog Ybaf.f3 (fun e w' => e = .returned (.bool true) ∧ Below w.heap.size w w')) (Fm 309 f) wq := by
  have hp := ok.p1024
  rw [l3_15]
  refine wp_seq (wp_seq (wp_use (m37 G (q.p + wl) cp q.a5 q.p q.c5 Wb wl wc wq rfl (by omega) f H.2.2.2.2.2.2.2.1 H.2.2.2.2.2.2.2.2.1 H.2.2.2.2.2.2.2.2.2.1 _ ?_)))
  intro f1  S1 e1_203 
  have H1 : Has f1 [(203, .bool false), (0, .slice q.a0 q.n q.c0), (3, .int .u32 ((q.tk : Nat) : Int)), (4, .int .u32 ((q.bd : Nat) : Int)), (13, .int .i64 ((q.g : Nat) : Int)), (14, .int .i64 ((q.n : Nat) : Int)), (15, .pointer (some ⟨D, 0, none⟩)), (17, .slice (some ⟨Lb, 0, none⟩) q.n q.n), (5, .slice q.a5 q.p q.c5), (20, .slice (some ⟨G, 0, none⟩) (q.p + wl) cp), (21, .slice (some ⟨Wb, 0, none⟩) wl wc)] := ⟨e1_203, H.keep S1⟩
  refine wp_cond_false (evN rfl H1.1) (wp_skip ?_)
  exact partE q w ok D C Lb G cp F nx pv hd oc wq s fi Wb wl wc Fw hw hwc hcp hwl hf1 hf2 f1 ⟨H1.2.1, H1.2.2.1, H1.2.2.2.1, H1.2.2.2.2.1, H1.2.2.2.2.2.1, H1.2.2.2.2.2.2.1, H1.2.2.2.2.2.2.2.1, H1.2.2.2.2.2.2.2.2.1, H1.2.2.2.2.2.2.2.2.2.1, H1.2.2.2.2.2.2.2.2.2.2.1, trivial⟩
end Go.Proofs.YbulkblsgFmt

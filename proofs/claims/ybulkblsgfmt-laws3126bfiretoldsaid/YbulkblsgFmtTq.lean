import Derived.Test.YbulkblsgFmtTp
namespace Go.Proofs.YbulkblsgFmt
open Go.RowKit Go.Sort
set_option linter.unusedVariables false
set_option linter.unusedSimpArgs false
theorem l3_14 : dropC 14 l3 = ((headC (headC (dropC 14 l3))).seq (Code.block 4 (.loop l3c))).seq (dropC 15 l3) := by kernel_rfl
theorem l3c_eq : l3c = ((headC (headC l3c)).seq (Code.cond (.tmp 145) .skip (.exit 4))).seq ((Code.block 5 ((headC b3c).seq (Code.block 6 (.loop l3d)))).seq (dropC 2 l3c)) := by kernel_rfl
theorem l3d_eq : l3d = ((headC (headC l3d)).seq (Code.cond (.tmp 150) .skip (.exit 6))).seq (Code.block 7 b3d) := by kernel_rfl
theorem b3d_eq : b3d = (headC b3d).seq ((headC (dropC 1 b3d)).seq ((headC (dropC 2 b3d)).seq (Code.cond (.tmp 184) ((headC (thnC (tailC (dropC 2 b3d)))).seq ((headC (tailC (thnC (tailC (dropC 2 b3d))))).seq (tailC (tailC (thnC (tailC (dropC 2 b3d))))))) (.exit 6)))) := by kernel_rfl
def wrow (U : Nat → Value) (d : Array Int) (k : Nat) : Value := if k < d.size then .int .i64 d[k]! else U k
theorem wrow_at {U : Nat → Value} {d : Array Int} {k : Nat} (h : k < d.size) : wrow U d k = .int .i64 d[k]! := by unfold wrow; rw [if_pos h]
theorem wrow_swp {U : Nat → Value} {d : Array Int} {k : Nat} (h : k + 1 < d.size) (z : Nat) : (if z = k then .int .i64 d[k + 1]! else if z = k + 1 then .int .i64 d[k]! else wrow U d z) = wrow U (swp d (k + 1) k) z := by
  unfold wrow
  rw [size_swp]
  by_cases hz : z < d.size
  · rw [if_pos hz, if_pos hz, swp_get d (k + 1) k z (by omega) (by omega)]
    by_cases e1 : z = k
    · rw [if_pos e1, if_pos e1]
    · rw [if_neg e1, if_neg e1]
      by_cases e2 : z = k + 1
      · rw [if_pos e2, if_pos e2]
      · rw [if_neg e2, if_neg e2]
  · rw [if_neg hz, if_neg hz, if_neg (by omega), if_neg (by omega)]
theorem grown_set (w : World) (b o : Nat) (v : Value) : w.grownBy (w.setCell ⟨b, o, none⟩ v) (some b) := ⟨rfl, rfl, rfl, by simp [World.setCell], fun k _ hne => by
  have e : b ≠ k := fun e => hne (by rw [e])
  simp [World.setCell, Array.getElem?_modify, e]⟩
/-- The want loop's world. -/
structure LA.WS (q : LA) (w : World) (D C Lb G cp : Nat) (F : Nat → Value) (nx pv hd oc : Nat → Int) (Wb wl wc : Nat) (U : Nat → Value) (d : Array Int) (wq : World) : Prop where
  s : q.S2 w D C Lb G cp F nx pv hd oc wq
  r : wq.rowIs Wb 3 wc (wrow U d)
  sz : d.size = wl
  v : ∀ t, t < wl → ∃ x : Nat, x < q.n ∧ d[t]! = (x : Int)
set_option maxRecDepth 100000 in
set_option maxHeartbeats 1000000 in
theorem roundD (q : LA) (w : World) (ok : q.Ok w) (D C Lb G cp : Nat) (F : Nat → Value) (nx pv hd oc : Nat → Int) (Wb wl wc : Nat) (U : Nat → Value) (d : Array Int) (hW0 : w.heap.size ≤ Wb) (hWD : Wb ≠ D) (hWC : Wb ≠ C) (hWL : Wb ≠ Lb) (hWG : Wb ≠ G) (hwc : wl ≤ wc) (hwl : wl ≤ 300) (wq : World) (s : q.WS w D C Lb G cp F nx pv hd oc Wb wl wc U d wq) (j k : Nat) (hk : k + 1 < wl) (Q : Exit → Act → World → Prop) (hend : ∀ (f : Nat → Value) (w' : World), Has f [(0, .slice q.a0 q.n q.c0), (3, .int .u32 ((q.tk : Nat) : Int)), (4, .int .u32 ((q.bd : Nat) : Int)), (13, .int .i64 ((q.g : Nat) : Int)), (14, .int .i64 ((q.n : Nat) : Int)), (15, .pointer (some ⟨D, 0, none⟩)), (17, .slice (some ⟨Lb, 0, none⟩) q.n q.n), (5, .slice q.a5 q.p q.c5), (20, .slice (some ⟨G, 0, none⟩) (q.p + wl) cp), (21, .slice (some ⟨Wb, 0, none⟩) wl wc), (23, .int .i64 ((j : Nat) : Int)), (24, .int .i64 ((k : Nat) : Int))] → q.WS w D C Lb G cp F nx pv hd oc Wb wl wc U (swp d (k + 1) k) w' → ltD q.dl d[k + 1]! d[k]! = true → Q .normal (Fm 309 f) w') (hbrk : ∀ (f : Nat → Value) (w' : World), Has f [(0, .slice q.a0 q.n q.c0), (3, .int .u32 ((q.tk : Nat) : Int)), (4, .int .u32 ((q.bd : Nat) : Int)), (13, .int .i64 ((q.g : Nat) : Int)), (14, .int .i64 ((q.n : Nat) : Int)), (15, .pointer (some ⟨D, 0, none⟩)), (17, .slice (some ⟨Lb, 0, none⟩) q.n q.n), (5, .slice q.a5 q.p q.c5), (20, .slice (some ⟨G, 0, none⟩) (q.p + wl) cp), (21, .slice (some ⟨Wb, 0, none⟩) wl wc), (23, .int .i64 ((j : Nat) : Int))] → q.WS w D C Lb G cp F nx pv hd oc Wb wl wc U d w' → ltD q.dl d[k + 1]! d[k]! = false → Q (.exit 6) (Fm 309 f) w') (f : Nat → Value) (H : Has f [(0, .slice q.a0 q.n q.c0), (3, .int .u32 ((q.tk : Nat) : Int)), (4, .int .u32 ((q.bd : Nat) : Int)), (13, .int .i64 ((q.g : Nat) : Int)), (14, .int .i64 ((q.n : Nat) : Int)), (15, .pointer (some ⟨D, 0, none⟩)), (17, .slice (some ⟨Lb, 0, none⟩) q.n q.n), (5, .slice q.a5 q.p q.c5), (20, .slice (some ⟨G, 0, none⟩) (q.p + wl) cp), (21, .slice (some ⟨Wb, 0, none⟩) wl wc), (23, .int .i64 ((j : Nat) : Int)), (24, .int .i64 ((k + 1 : Nat) : Int))]) :
    Code.wp Ybaf.prog b3d Q (Fm 309 f) wq := by
  have hn := ok.n300
  obtain ⟨x, hx, ex⟩ := s.v (k + 1) hk
  obtain ⟨y, hy, ey⟩ := s.v k (by omega)
  have hsz := s.sz
  have ha0 := ok.ha0 (by omega)
  have ca : wq.cell? ⟨Wb, k + 1, none⟩ = some (.int .i64 ((x : Nat) : Int)) := by rw [s.r.cell (by omega), wrow_at (by omega), ex]
  have cb : wq.cell? ⟨Wb, k, none⟩ = some (.int .i64 ((y : Nat) : Int)) := by rw [s.r.cell (by omega), wrow_at (by omega), ey]
  have da : wq.cell? ⟨q.ab, q.ao + x, none⟩ = some (.int .u32 ((q.dl x : Nat) : Int)) := cell_later s.s.be (ok.cdl x hx)
  have db : wq.cell? ⟨q.ab, q.ao + y, none⟩ = some (.int .u32 ((q.dl y : Nat) : Int)) := cell_later s.s.be (ok.cdl y hy)
  rw [b3d_eq]
  refine wp_seq (wp_use (m31 Wb wl wc (k + 1) _ wq hk ca f H.2.2.2.2.2.2.2.2.2.1 H.2.2.2.2.2.2.2.2.2.2.2.1 _ ?_))
  intro f1  S1 e1_25 
  have H1 : Has f1 [(25, .int .i64 ((x : Nat) : Int)), (0, .slice q.a0 q.n q.c0), (3, .int .u32 ((q.tk : Nat) : Int)), (4, .int .u32 ((q.bd : Nat) : Int)), (13, .int .i64 ((q.g : Nat) : Int)), (14, .int .i64 ((q.n : Nat) : Int)), (15, .pointer (some ⟨D, 0, none⟩)), (17, .slice (some ⟨Lb, 0, none⟩) q.n q.n), (5, .slice q.a5 q.p q.c5), (20, .slice (some ⟨G, 0, none⟩) (q.p + wl) cp), (21, .slice (some ⟨Wb, 0, none⟩) wl wc), (23, .int .i64 ((j : Nat) : Int)), (24, .int .i64 ((k + 1 : Nat) : Int))] := ⟨e1_25, H.keep S1⟩
  refine wp_seq (wp_use (m32 Wb wl wc k _ wq hk (by omega) cb f1 H1.2.2.2.2.2.2.2.2.2.2.1 H1.2.2.2.2.2.2.2.2.2.2.2.2.1 _ ?_))
  intro f2  S2 e2_26 
  have H2 : Has f2 [(26, .int .i64 ((y : Nat) : Int)), (25, .int .i64 ((x : Nat) : Int)), (0, .slice q.a0 q.n q.c0), (3, .int .u32 ((q.tk : Nat) : Int)), (4, .int .u32 ((q.bd : Nat) : Int)), (13, .int .i64 ((q.g : Nat) : Int)), (14, .int .i64 ((q.n : Nat) : Int)), (15, .pointer (some ⟨D, 0, none⟩)), (17, .slice (some ⟨Lb, 0, none⟩) q.n q.n), (5, .slice q.a5 q.p q.c5), (20, .slice (some ⟨G, 0, none⟩) (q.p + wl) cp), (21, .slice (some ⟨Wb, 0, none⟩) wl wc), (23, .int .i64 ((j : Nat) : Int)), (24, .int .i64 ((k + 1 : Nat) : Int))] := ⟨e2_26, H1.keep S2⟩
  rw [ha0] at H2
  have hlt : ltD q.dl d[k + 1]! d[k]! = ltD q.dl (x : Int) (y : Int) := by rw [ex, ey]
  rcases Nat.lt_trichotomy (q.dl x) (q.dl y) with h3 | h3 | h3
  · have hltv : ltD q.dl (x : Int) (y : Int) = true := by rw [ltD_true]; simp only [Int.toNat_natCast]; omega
    refine wp_seq (wp_use (m33l q.ab q.ao q.n q.c0 x y (q.dl x) (q.dl y) wq hx hy da db h3 f2 H2.2.2.1 H2.2.1 H2.1 _ ?_))
    intro f3 nq S3 e3_184 
    have H3 : Has f3 [(184, .bool true), (26, .int .i64 ((y : Nat) : Int)), (25, .int .i64 ((x : Nat) : Int)), (0, .slice (some ⟨q.ab, q.ao, none⟩) q.n q.c0), (3, .int .u32 ((q.tk : Nat) : Int)), (4, .int .u32 ((q.bd : Nat) : Int)), (13, .int .i64 ((q.g : Nat) : Int)), (14, .int .i64 ((q.n : Nat) : Int)), (15, .pointer (some ⟨D, 0, none⟩)), (17, .slice (some ⟨Lb, 0, none⟩) q.n q.n), (5, .slice q.a5 q.p q.c5), (20, .slice (some ⟨G, 0, none⟩) (q.p + wl) cp), (21, .slice (some ⟨Wb, 0, none⟩) wl wc), (23, .int .i64 ((j : Nat) : Int)), (24, .int .i64 ((k + 1 : Nat) : Int))] := ⟨e3_184, H2.keep S3⟩
    refine wp_cond_true (evN rfl H3.1) ?_
    rw [← ha0] at H3
    have r0 : (wq.drewN nq).rowIs Wb 3 wc (wrow U d) := s.r
    refine wp_seq (wp_use (m34 Wb wl wc (k + 1) _ _ (wq.drewN nq) hk (r0.cell (by omega)) (r0.frozen _) f3 H3.2.2.2.2.2.2.2.2.2.2.2.2.1 H3.2.2.2.2.2.2.2.2.2.2.2.2.2.2.1 H3.2.1 _ ?_))
    intro f4  S4  
    have H4 : Has f4 [(184, .bool true), (26, .int .i64 ((y : Nat) : Int)), (25, .int .i64 ((x : Nat) : Int)), (0, .slice q.a0 q.n q.c0), (3, .int .u32 ((q.tk : Nat) : Int)), (4, .int .u32 ((q.bd : Nat) : Int)), (13, .int .i64 ((q.g : Nat) : Int)), (14, .int .i64 ((q.n : Nat) : Int)), (15, .pointer (some ⟨D, 0, none⟩)), (17, .slice (some ⟨Lb, 0, none⟩) q.n q.n), (5, .slice q.a5 q.p q.c5), (20, .slice (some ⟨G, 0, none⟩) (q.p + wl) cp), (21, .slice (some ⟨Wb, 0, none⟩) wl wc), (23, .int .i64 ((j : Nat) : Int)), (24, .int .i64 ((k + 1 : Nat) : Int))] := H3.keep S4
    have r1 := r0.set (k + 1) (.int .i64 ((y : Nat) : Int))
    refine wp_seq (wp_use (m35 Wb wl wc k _ _ _ hk (by omega) (r1.cell (by omega)) (r1.frozen _) f4 H4.2.2.2.2.2.2.2.2.2.2.2.2.1 H4.2.2.2.2.2.2.2.2.2.2.2.2.2.2.1 H4.2.2.1 _ ?_))
    intro f5  S5  
    have H5 : Has f5 [(184, .bool true), (26, .int .i64 ((y : Nat) : Int)), (25, .int .i64 ((x : Nat) : Int)), (0, .slice q.a0 q.n q.c0), (3, .int .u32 ((q.tk : Nat) : Int)), (4, .int .u32 ((q.bd : Nat) : Int)), (13, .int .i64 ((q.g : Nat) : Int)), (14, .int .i64 ((q.n : Nat) : Int)), (15, .pointer (some ⟨D, 0, none⟩)), (17, .slice (some ⟨Lb, 0, none⟩) q.n q.n), (5, .slice q.a5 q.p q.c5), (20, .slice (some ⟨G, 0, none⟩) (q.p + wl) cp), (21, .slice (some ⟨Wb, 0, none⟩) wl wc), (23, .int .i64 ((j : Nat) : Int)), (24, .int .i64 ((k + 1 : Nat) : Int))] := H4.keep S5
    refine wp_use (m36 k _ (by omega) f5 H5.2.2.2.2.2.2.2.2.2.2.2.2.2.2.1 _ ?_)
    intro f6  S6 e6_24 
    have H6 : Has f6 [(24, .int .i64 ((k : Nat) : Int)), (184, .bool true), (26, .int .i64 ((y : Nat) : Int)), (25, .int .i64 ((x : Nat) : Int)), (0, .slice q.a0 q.n q.c0), (3, .int .u32 ((q.tk : Nat) : Int)), (4, .int .u32 ((q.bd : Nat) : Int)), (13, .int .i64 ((q.g : Nat) : Int)), (14, .int .i64 ((q.n : Nat) : Int)), (15, .pointer (some ⟨D, 0, none⟩)), (17, .slice (some ⟨Lb, 0, none⟩) q.n q.n), (5, .slice q.a5 q.p q.c5), (20, .slice (some ⟨G, 0, none⟩) (q.p + wl) cp), (21, .slice (some ⟨Wb, 0, none⟩) wl wc), (23, .int .i64 ((j : Nat) : Int))] := ⟨e6_24, H5.keep S6⟩
    refine hend f6 _ ⟨H6.2.2.2.2.1, H6.2.2.2.2.2.1, H6.2.2.2.2.2.2.1, H6.2.2.2.2.2.2.2.1, H6.2.2.2.2.2.2.2.2.1, H6.2.2.2.2.2.2.2.2.2.1, H6.2.2.2.2.2.2.2.2.2.2.1, H6.2.2.2.2.2.2.2.2.2.2.2.1, H6.2.2.2.2.2.2.2.2.2.2.2.2.1, H6.2.2.2.2.2.2.2.2.2.2.2.2.2.1, H6.2.2.2.2.2.2.2.2.2.2.2.2.2.2.1, H6.1, trivial⟩ ⟨((s.s.drewN nq).grown (grown_set _ Wb (k + 1) _) hW0 hWD hWC hWL hWG).grown (grown_set _ Wb k _) hW0 hWD hWC hWL hWG, (r1.set k _).congr fun z _ => ?_, by rw [size_swp]; exact hsz, fun t ht => ?_⟩ (hlt.trans hltv)
    · rw [← wrow_swp (by omega), ex, ey]
    · rw [swp_get _ _ _ _ (by omega) (by omega)]
      split
      · exact ⟨x, hx, ex⟩
      · split
        · exact ⟨y, hy, ey⟩
        · exact s.v t ht
  · refine wp_seq (wp_use (m33e q.ab q.ao q.n q.c0 x y (q.dl x) (q.dl y) wq hx hy da db h3 f2 H2.2.2.1 H2.2.1 H2.1 _ ?_))
    intro f3 nq S3 e3_184 
    have H3 : Has f3 [(184, .bool (decide (((x : Nat) : Int) < ((y : Nat) : Int)))), (26, .int .i64 ((y : Nat) : Int)), (25, .int .i64 ((x : Nat) : Int)), (0, .slice (some ⟨q.ab, q.ao, none⟩) q.n q.c0), (3, .int .u32 ((q.tk : Nat) : Int)), (4, .int .u32 ((q.bd : Nat) : Int)), (13, .int .i64 ((q.g : Nat) : Int)), (14, .int .i64 ((q.n : Nat) : Int)), (15, .pointer (some ⟨D, 0, none⟩)), (17, .slice (some ⟨Lb, 0, none⟩) q.n q.n), (5, .slice q.a5 q.p q.c5), (20, .slice (some ⟨G, 0, none⟩) (q.p + wl) cp), (21, .slice (some ⟨Wb, 0, none⟩) wl wc), (23, .int .i64 ((j : Nat) : Int)), (24, .int .i64 ((k + 1 : Nat) : Int))] := ⟨e3_184, H2.keep S3⟩
    by_cases hxy : x < y
    · have hltv : ltD q.dl (x : Int) (y : Int) = true := by rw [ltD_true]; simp only [Int.toNat_natCast]; omega
      refine wp_cond_true (evN rfl (H3.1.trans (by rw [decide_eq_true (by omega)]))) ?_
      rw [← ha0] at H3
      have r0 : (wq.drewN nq).rowIs Wb 3 wc (wrow U d) := s.r
      refine wp_seq (wp_use (m34 Wb wl wc (k + 1) _ _ (wq.drewN nq) hk (r0.cell (by omega)) (r0.frozen _) f3 H3.2.2.2.2.2.2.2.2.2.2.2.2.1 H3.2.2.2.2.2.2.2.2.2.2.2.2.2.2.1 H3.2.1 _ ?_))
      intro f4  S4  
      have H4 : Has f4 [(184, .bool (decide (((x : Nat) : Int) < ((y : Nat) : Int)))), (26, .int .i64 ((y : Nat) : Int)), (25, .int .i64 ((x : Nat) : Int)), (0, .slice q.a0 q.n q.c0), (3, .int .u32 ((q.tk : Nat) : Int)), (4, .int .u32 ((q.bd : Nat) : Int)), (13, .int .i64 ((q.g : Nat) : Int)), (14, .int .i64 ((q.n : Nat) : Int)), (15, .pointer (some ⟨D, 0, none⟩)), (17, .slice (some ⟨Lb, 0, none⟩) q.n q.n), (5, .slice q.a5 q.p q.c5), (20, .slice (some ⟨G, 0, none⟩) (q.p + wl) cp), (21, .slice (some ⟨Wb, 0, none⟩) wl wc), (23, .int .i64 ((j : Nat) : Int)), (24, .int .i64 ((k + 1 : Nat) : Int))] := H3.keep S4
      have r1 := r0.set (k + 1) (.int .i64 ((y : Nat) : Int))
      refine wp_seq (wp_use (m35 Wb wl wc k _ _ _ hk (by omega) (r1.cell (by omega)) (r1.frozen _) f4 H4.2.2.2.2.2.2.2.2.2.2.2.2.1 H4.2.2.2.2.2.2.2.2.2.2.2.2.2.2.1 H4.2.2.1 _ ?_))
      intro f5  S5  
      have H5 : Has f5 [(184, .bool (decide (((x : Nat) : Int) < ((y : Nat) : Int)))), (26, .int .i64 ((y : Nat) : Int)), (25, .int .i64 ((x : Nat) : Int)), (0, .slice q.a0 q.n q.c0), (3, .int .u32 ((q.tk : Nat) : Int)), (4, .int .u32 ((q.bd : Nat) : Int)), (13, .int .i64 ((q.g : Nat) : Int)), (14, .int .i64 ((q.n : Nat) : Int)), (15, .pointer (some ⟨D, 0, none⟩)), (17, .slice (some ⟨Lb, 0, none⟩) q.n q.n), (5, .slice q.a5 q.p q.c5), (20, .slice (some ⟨G, 0, none⟩) (q.p + wl) cp), (21, .slice (some ⟨Wb, 0, none⟩) wl wc), (23, .int .i64 ((j : Nat) : Int)), (24, .int .i64 ((k + 1 : Nat) : Int))] := H4.keep S5
      refine wp_use (m36 k _ (by omega) f5 H5.2.2.2.2.2.2.2.2.2.2.2.2.2.2.1 _ ?_)
      intro f6  S6 e6_24 
      have H6 : Has f6 [(24, .int .i64 ((k : Nat) : Int)), (184, .bool (decide (((x : Nat) : Int) < ((y : Nat) : Int)))), (26, .int .i64 ((y : Nat) : Int)), (25, .int .i64 ((x : Nat) : Int)), (0, .slice q.a0 q.n q.c0), (3, .int .u32 ((q.tk : Nat) : Int)), (4, .int .u32 ((q.bd : Nat) : Int)), (13, .int .i64 ((q.g : Nat) : Int)), (14, .int .i64 ((q.n : Nat) : Int)), (15, .pointer (some ⟨D, 0, none⟩)), (17, .slice (some ⟨Lb, 0, none⟩) q.n q.n), (5, .slice q.a5 q.p q.c5), (20, .slice (some ⟨G, 0, none⟩) (q.p + wl) cp), (21, .slice (some ⟨Wb, 0, none⟩) wl wc), (23, .int .i64 ((j : Nat) : Int))] := ⟨e6_24, H5.keep S6⟩
      refine hend f6 _ ⟨H6.2.2.2.2.1, H6.2.2.2.2.2.1, H6.2.2.2.2.2.2.1, H6.2.2.2.2.2.2.2.1, H6.2.2.2.2.2.2.2.2.1, H6.2.2.2.2.2.2.2.2.2.1, H6.2.2.2.2.2.2.2.2.2.2.1, H6.2.2.2.2.2.2.2.2.2.2.2.1, H6.2.2.2.2.2.2.2.2.2.2.2.2.1, H6.2.2.2.2.2.2.2.2.2.2.2.2.2.1, H6.2.2.2.2.2.2.2.2.2.2.2.2.2.2.1, H6.1, trivial⟩ ⟨((s.s.drewN nq).grown (grown_set _ Wb (k + 1) _) hW0 hWD hWC hWL hWG).grown (grown_set _ Wb k _) hW0 hWD hWC hWL hWG, (r1.set k _).congr fun z _ => ?_, by rw [size_swp]; exact hsz, fun t ht => ?_⟩ (hlt.trans hltv)
      · rw [← wrow_swp (by omega), ex, ey]
      · rw [swp_get _ _ _ _ (by omega) (by omega)]
        split
        · exact ⟨x, hx, ex⟩
        · split
          · exact ⟨y, hy, ey⟩
          · exact s.v t ht
    · have hltv : ltD q.dl (x : Int) (y : Int) = false := by rw [ltD_false]; simp only [Int.toNat_natCast]; omega
      refine wp_cond_false (evN rfl (H3.1.trans (by rw [decide_eq_false (by omega)]))) (wp_exit ?_)
      rw [← ha0] at H3
      exact hbrk f3 _ ⟨H3.2.2.2.1, H3.2.2.2.2.1, H3.2.2.2.2.2.1, H3.2.2.2.2.2.2.1, H3.2.2.2.2.2.2.2.1, H3.2.2.2.2.2.2.2.2.1, H3.2.2.2.2.2.2.2.2.2.1, H3.2.2.2.2.2.2.2.2.2.2.1, H3.2.2.2.2.2.2.2.2.2.2.2.1, H3.2.2.2.2.2.2.2.2.2.2.2.2.1, H3.2.2.2.2.2.2.2.2.2.2.2.2.2.1, trivial⟩ ⟨s.s.drewN nq, s.r, hsz, s.v⟩ (hlt.trans hltv)
  · have hltv : ltD q.dl (x : Int) (y : Int) = false := by rw [ltD_false]; simp only [Int.toNat_natCast]; omega
    refine wp_seq (wp_use (m33g q.ab q.ao q.n q.c0 x y (q.dl x) (q.dl y) wq hx hy da db h3 f2 H2.2.2.1 H2.2.1 H2.1 _ ?_))
    intro f3 nq S3 e3_184 
    have H3 : Has f3 [(184, .bool false), (26, .int .i64 ((y : Nat) : Int)), (25, .int .i64 ((x : Nat) : Int)), (0, .slice (some ⟨q.ab, q.ao, none⟩) q.n q.c0), (3, .int .u32 ((q.tk : Nat) : Int)), (4, .int .u32 ((q.bd : Nat) : Int)), (13, .int .i64 ((q.g : Nat) : Int)), (14, .int .i64 ((q.n : Nat) : Int)), (15, .pointer (some ⟨D, 0, none⟩)), (17, .slice (some ⟨Lb, 0, none⟩) q.n q.n), (5, .slice q.a5 q.p q.c5), (20, .slice (some ⟨G, 0, none⟩) (q.p + wl) cp), (21, .slice (some ⟨Wb, 0, none⟩) wl wc), (23, .int .i64 ((j : Nat) : Int)), (24, .int .i64 ((k + 1 : Nat) : Int))] := ⟨e3_184, H2.keep S3⟩
    refine wp_cond_false (evN rfl H3.1) (wp_exit ?_)
    rw [← ha0] at H3
    exact hbrk f3 _ ⟨H3.2.2.2.1, H3.2.2.2.2.1, H3.2.2.2.2.2.1, H3.2.2.2.2.2.2.1, H3.2.2.2.2.2.2.2.1, H3.2.2.2.2.2.2.2.2.1, H3.2.2.2.2.2.2.2.2.2.1, H3.2.2.2.2.2.2.2.2.2.2.1, H3.2.2.2.2.2.2.2.2.2.2.2.1, H3.2.2.2.2.2.2.2.2.2.2.2.2.1, H3.2.2.2.2.2.2.2.2.2.2.2.2.2.1, trivial⟩ ⟨s.s.drewN nq, s.r, hsz, s.v⟩ (hlt.trans hltv)
set_option maxRecDepth 100000 in
set_option maxHeartbeats 1000000 in
theorem partC (q : LA) (w : World) (ok : q.Ok w) (D C Lb G cp : Nat) (F : Nat → Value) (nx pv hd oc : Nat → Int) (fi : FI q.T q.ls q.bd q.n (lkd q.pk q.n) (lkd q.pk q.n) [] (-1) nx pv hd) (Wb wl wc : Nat) (U : Nat → Value) (d0 : Array Int) (hW0 : w.heap.size ≤ Wb) (hWD : Wb ≠ D) (hWC : Wb ≠ C) (hWL : Wb ≠ Lb) (hWG : Wb ≠ G) (hwc : wl ≤ wc) (hcp : q.p + wl ≤ cp) (hwl : wl ≤ 300) (hf1 : ∀ k, k < q.p → F k = .int .i64 (q.pre.getD k 0)) (hf2 : ∀ k, k < wl → F (q.p + k) = .int .i64 (Sort.insertionSort (ltD q.dl) d0 0 wl)[k]!) (wq : World) (s : q.WS w D C Lb G cp F nx pv hd oc Wb wl wc U d0 wq) (f : Nat → Value) (H : Has f [(0, .slice q.a0 q.n q.c0), (3, .int .u32 ((q.tk : Nat) : Int)), (4, .int .u32 ((q.bd : Nat) : Int)), (13, .int .i64 ((q.g : Nat) : Int)), (14, .int .i64 ((q.n : Nat) : Int)), (15, .pointer (some ⟨D, 0, none⟩)), (17, .slice (some ⟨Lb, 0, none⟩) q.n q.n), (5, .slice q.a5 q.p q.c5), (20, .slice (some ⟨G, 0, none⟩) (q.p + wl) cp), (21, .slice (some ⟨Wb, 0, none⟩) wl wc)]) :
    Code.wp Ybaf.prog (dropC 14 l3) (bodyPost Ybaf.prog Ybaf.f3 (fun e w' => e = .returned (.bool true) ∧ Below w.heap.size w w')) (Fm 309 f) wq := by
  have hn := ok.n300
  rw [l3_14]
  refine wp_join (fun a' w' => ∃ (f : Nat → Value), a' = Fm 309 f ∧ Has f [(0, .slice q.a0 q.n q.c0), (3, .int .u32 ((q.tk : Nat) : Int)), (4, .int .u32 ((q.bd : Nat) : Int)), (13, .int .i64 ((q.g : Nat) : Int)), (14, .int .i64 ((q.n : Nat) : Int)), (15, .pointer (some ⟨D, 0, none⟩)), (17, .slice (some ⟨Lb, 0, none⟩) q.n q.n), (5, .slice q.a5 q.p q.c5), (20, .slice (some ⟨G, 0, none⟩) (q.p + wl) cp), (21, .slice (some ⟨Wb, 0, none⟩) wl wc)] ∧ q.WS w D C Lb G cp F nx pv hd oc Wb wl wc U (Sort.insertionSort (ltD q.dl) d0 0 wl) w') ?_ ?_
  · refine wp_seq (wp_use (m26 wq f  _ ?_))
    intro f1  S1 e1_23 
    have H1 : Has f1 [(23, .int .i64 ((1 : Nat) : Int)), (0, .slice q.a0 q.n q.c0), (3, .int .u32 ((q.tk : Nat) : Int)), (4, .int .u32 ((q.bd : Nat) : Int)), (13, .int .i64 ((q.g : Nat) : Int)), (14, .int .i64 ((q.n : Nat) : Int)), (15, .pointer (some ⟨D, 0, none⟩)), (17, .slice (some ⟨Lb, 0, none⟩) q.n q.n), (5, .slice q.a5 q.p q.c5), (20, .slice (some ⟨G, 0, none⟩) (q.p + wl) cp), (21, .slice (some ⟨Wb, 0, none⟩) wl wc)] := ⟨e1_23, H.keep S1⟩
    refine wp_block (wp_loop_ghost (fun k a' w' => ∃ (f : Nat → Value) (j : Nat) (d : Array Int), a' = Fm 309 f ∧ k = wl - j ∧ 1 ≤ j ∧ (j ≤ wl ∨ j = 1) ∧ insOuter (ltD q.dl) 0 wl j d = insOuter (ltD q.dl) 0 wl 1 d0 ∧ Has f [(0, .slice q.a0 q.n q.c0), (3, .int .u32 ((q.tk : Nat) : Int)), (4, .int .u32 ((q.bd : Nat) : Int)), (13, .int .i64 ((q.g : Nat) : Int)), (14, .int .i64 ((q.n : Nat) : Int)), (15, .pointer (some ⟨D, 0, none⟩)), (17, .slice (some ⟨Lb, 0, none⟩) q.n q.n), (5, .slice q.a5 q.p q.c5), (20, .slice (some ⟨G, 0, none⟩) (q.p + wl) cp), (21, .slice (some ⟨Wb, 0, none⟩) wl wc), (23, .int .i64 ((j : Nat) : Int))] ∧ q.WS w D C Lb G cp F nx pv hd oc Wb wl wc U d w') (wl - 1) ⟨f1, 1, d0, rfl, rfl, by omega, by omega, rfl, ⟨H1.2.1, H1.2.2.1, H1.2.2.2.1, H1.2.2.2.2.1, H1.2.2.2.2.2.1, H1.2.2.2.2.2.2.1, H1.2.2.2.2.2.2.2.1, H1.2.2.2.2.2.2.2.2.1, H1.2.2.2.2.2.2.2.2.2.1, H1.2.2.2.2.2.2.2.2.2.2.1, H1.1, trivial⟩, s⟩ ?_)
    rintro k _ w0 ⟨f, j, d, rfl, rfl, hj1, hj2, hio, H, s⟩
    rw [l3c_eq]
    refine wp_seq (wp_seq (wp_use (m27 j Wb wl wc w0 f H.2.2.2.2.2.2.2.2.2.1 H.2.2.2.2.2.2.2.2.2.2.1 _ ?_)))
    intro f41  S41 e41_145 
    have H41 : Has f41 [(145, .bool (decide (((j : Nat) : Int) < ((wl : Nat) : Int)))), (0, .slice q.a0 q.n q.c0), (3, .int .u32 ((q.tk : Nat) : Int)), (4, .int .u32 ((q.bd : Nat) : Int)), (13, .int .i64 ((q.g : Nat) : Int)), (14, .int .i64 ((q.n : Nat) : Int)), (15, .pointer (some ⟨D, 0, none⟩)), (17, .slice (some ⟨Lb, 0, none⟩) q.n q.n), (5, .slice q.a5 q.p q.c5), (20, .slice (some ⟨G, 0, none⟩) (q.p + wl) cp), (21, .slice (some ⟨Wb, 0, none⟩) wl wc), (23, .int .i64 ((j : Nat) : Int))] := ⟨e41_145, H.keep S41⟩
    by_cases hlt : j < wl
    · refine wp_cond_true (evN rfl (H41.1.trans (by rw [decide_eq_true (by omega)]))) (wp_skip ?_)
      refine wp_join (fun a' w' => ∃ (f : Nat → Value), a' = Fm 309 f ∧ Has f [(0, .slice q.a0 q.n q.c0), (3, .int .u32 ((q.tk : Nat) : Int)), (4, .int .u32 ((q.bd : Nat) : Int)), (13, .int .i64 ((q.g : Nat) : Int)), (14, .int .i64 ((q.n : Nat) : Int)), (15, .pointer (some ⟨D, 0, none⟩)), (17, .slice (some ⟨Lb, 0, none⟩) q.n q.n), (5, .slice q.a5 q.p q.c5), (20, .slice (some ⟨G, 0, none⟩) (q.p + wl) cp), (21, .slice (some ⟨Wb, 0, none⟩) wl wc), (23, .int .i64 ((j : Nat) : Int))] ∧ q.WS w D C Lb G cp F nx pv hd oc Wb wl wc U (insInner (ltD q.dl) 0 j d) w') ?_ ?_
      · refine wp_block ?_
        refine wp_seq (wp_use (m29 j w0 f41 H41.2.2.2.2.2.2.2.2.2.2.2.1 _ ?_))
        intro f42  S42 e42_24 
        have H42 : Has f42 [(24, .int .i64 ((j : Nat) : Int)), (145, .bool (decide (((j : Nat) : Int) < ((wl : Nat) : Int)))), (0, .slice q.a0 q.n q.c0), (3, .int .u32 ((q.tk : Nat) : Int)), (4, .int .u32 ((q.bd : Nat) : Int)), (13, .int .i64 ((q.g : Nat) : Int)), (14, .int .i64 ((q.n : Nat) : Int)), (15, .pointer (some ⟨D, 0, none⟩)), (17, .slice (some ⟨Lb, 0, none⟩) q.n q.n), (5, .slice q.a5 q.p q.c5), (20, .slice (some ⟨G, 0, none⟩) (q.p + wl) cp), (21, .slice (some ⟨Wb, 0, none⟩) wl wc), (23, .int .i64 ((j : Nat) : Int))] := ⟨e42_24, H41.keep S42⟩
        refine wp_block (wp_loop_ghost (fun m a' w' => ∃ (f : Nat → Value) (k : Nat) (e : Array Int), a' = Fm 309 f ∧ m = k ∧ k ≤ j ∧ insInner (ltD q.dl) 0 k e = insInner (ltD q.dl) 0 j d ∧ Has f [(0, .slice q.a0 q.n q.c0), (3, .int .u32 ((q.tk : Nat) : Int)), (4, .int .u32 ((q.bd : Nat) : Int)), (13, .int .i64 ((q.g : Nat) : Int)), (14, .int .i64 ((q.n : Nat) : Int)), (15, .pointer (some ⟨D, 0, none⟩)), (17, .slice (some ⟨Lb, 0, none⟩) q.n q.n), (5, .slice q.a5 q.p q.c5), (20, .slice (some ⟨G, 0, none⟩) (q.p + wl) cp), (21, .slice (some ⟨Wb, 0, none⟩) wl wc), (23, .int .i64 ((j : Nat) : Int)), (24, .int .i64 ((k : Nat) : Int))] ∧ q.WS w D C Lb G cp F nx pv hd oc Wb wl wc U e w') j ⟨f42, j, d, rfl, rfl, Nat.le_refl _, rfl, ⟨H42.2.2.1, H42.2.2.2.1, H42.2.2.2.2.1, H42.2.2.2.2.2.1, H42.2.2.2.2.2.2.1, H42.2.2.2.2.2.2.2.1, H42.2.2.2.2.2.2.2.2.1, H42.2.2.2.2.2.2.2.2.2.1, H42.2.2.2.2.2.2.2.2.2.2.1, H42.2.2.2.2.2.2.2.2.2.2.2.1, H42.2.2.2.2.2.2.2.2.2.2.2.2.1, H42.1, trivial⟩, s⟩ ?_)
        rintro m _ w1 ⟨f, k, e, rfl, hmk, hkj, hin, H, s⟩
        subst hmk
        rw [l3d_eq]
        refine wp_seq (wp_seq (wp_use (m30 _ w1 f H.2.2.2.2.2.2.2.2.2.2.2.1 _ ?_)))
        intro f61  S61 e61_150 
        have H61 : Has f61 [(150, .bool (decide (0 < ((m : Nat) : Int)))), (0, .slice q.a0 q.n q.c0), (3, .int .u32 ((q.tk : Nat) : Int)), (4, .int .u32 ((q.bd : Nat) : Int)), (13, .int .i64 ((q.g : Nat) : Int)), (14, .int .i64 ((q.n : Nat) : Int)), (15, .pointer (some ⟨D, 0, none⟩)), (17, .slice (some ⟨Lb, 0, none⟩) q.n q.n), (5, .slice q.a5 q.p q.c5), (20, .slice (some ⟨G, 0, none⟩) (q.p + wl) cp), (21, .slice (some ⟨Wb, 0, none⟩) wl wc), (23, .int .i64 ((j : Nat) : Int)), (24, .int .i64 ((m : Nat) : Int))] := ⟨e61_150, H.keep S61⟩
        cases m with
        | zero =>
          refine wp_cond_false (evN rfl H61.1) (wp_exit ?_)
          rw [ins_zero] at hin
          rw [← hin]
          exact ⟨f61, rfl, ⟨H61.2.1, H61.2.2.1, H61.2.2.2.1, H61.2.2.2.2.1, H61.2.2.2.2.2.1, H61.2.2.2.2.2.2.1, H61.2.2.2.2.2.2.2.1, H61.2.2.2.2.2.2.2.2.1, H61.2.2.2.2.2.2.2.2.2.1, H61.2.2.2.2.2.2.2.2.2.2.1, H61.2.2.2.2.2.2.2.2.2.2.2.1, trivial⟩, s⟩
        | succ m =>
          refine wp_cond_true (evN rfl (H61.1.trans (by rw [decide_eq_true (by omega)]))) (wp_skip (wp_block ?_))
          refine roundD q w ok D C Lb G cp F nx pv hd oc Wb wl wc U e hW0 hWD hWC hWL hWG hwc hwl w1 s j m (by omega) _ ?_ ?_ f61 ⟨H61.2.1, H61.2.2.1, H61.2.2.2.1, H61.2.2.2.2.1, H61.2.2.2.2.2.1, H61.2.2.2.2.2.2.1, H61.2.2.2.2.2.2.2.1, H61.2.2.2.2.2.2.2.2.1, H61.2.2.2.2.2.2.2.2.2.1, H61.2.2.2.2.2.2.2.2.2.2.1, H61.2.2.2.2.2.2.2.2.2.2.2.1, H61.2.2.2.2.2.2.2.2.2.2.2.2.1, trivial⟩
          · intro f w' H' s' hl
            exact ⟨m, by omega, f, m, _, rfl, rfl, by omega, by rw [← hin, ins_step hl], H', s'⟩
          · intro f w' H' s' hl
            rw [ins_stop hl] at hin
            rw [← hin]
            exact ⟨f, rfl, H', s'⟩
      · rintro _ w2 ⟨f, rfl, H, s2⟩
        refine wp_use (m28 j w2 (by omega) f H.2.2.2.2.2.2.2.2.2.2.1 _ ?_)
        intro f81  S81 e81_23 
        have H81 : Has f81 [(23, .int .i64 (((j : Nat) : Int) + 1)), (0, .slice q.a0 q.n q.c0), (3, .int .u32 ((q.tk : Nat) : Int)), (4, .int .u32 ((q.bd : Nat) : Int)), (13, .int .i64 ((q.g : Nat) : Int)), (14, .int .i64 ((q.n : Nat) : Int)), (15, .pointer (some ⟨D, 0, none⟩)), (17, .slice (some ⟨Lb, 0, none⟩) q.n q.n), (5, .slice q.a5 q.p q.c5), (20, .slice (some ⟨G, 0, none⟩) (q.p + wl) cp), (21, .slice (some ⟨Wb, 0, none⟩) wl wc)] := ⟨e81_23, H.keep S81⟩
        exact ⟨wl - (j + 1), by omega, f81, j + 1, _, rfl, rfl, by omega, by omega, by rw [← hio, ins_next hlt], ⟨H81.2.1, H81.2.2.1, H81.2.2.2.1, H81.2.2.2.2.1, H81.2.2.2.2.2.1, H81.2.2.2.2.2.2.1, H81.2.2.2.2.2.2.2.1, H81.2.2.2.2.2.2.2.2.1, H81.2.2.2.2.2.2.2.2.2.1, H81.2.2.2.2.2.2.2.2.2.2.1, H81.1, trivial⟩, s2⟩
    · refine wp_cond_false (evN rfl (H41.1.trans (by rw [decide_eq_false (by omega)]))) (wp_exit ?_)
      rw [ins_last hlt] at hio
      have hz : Sort.insertionSort (ltD q.dl) d0 0 wl = d := hio.symm
      rw [hz]
      exact ⟨f41, rfl, ⟨H41.2.1, H41.2.2.1, H41.2.2.2.1, H41.2.2.2.2.1, H41.2.2.2.2.2.1, H41.2.2.2.2.2.2.1, H41.2.2.2.2.2.2.2.1, H41.2.2.2.2.2.2.2.2.1, H41.2.2.2.2.2.2.2.2.2.1, H41.2.2.2.2.2.2.2.2.2.2.1, trivial⟩, s⟩
  · rintro _ w2 ⟨f, rfl, H, s2⟩
    refine part37 q w ok D C Lb G cp F nx pv hd oc w2 s2.s fi Wb wl wc _ s2.r hwc hcp hwl hf1 (fun k hk => ⟨_, hf2 k hk, ?_⟩) f H
    rw [wrow_at (by rw [s2.sz]; exact hk)]
end Go.Proofs.YbulkblsgFmt

import Derived.Test.YbulkblsgFmtBh
namespace Go.Proofs.YbulkblsgFmt
open Go.RowKit Go.Extern.Stop Go.Stop Go.Extern
set_option linter.unusedVariables false
set_option linter.unusedSimpArgs false
theorem own_row {w : World} {B g n : Nat} {X : Nat → Nat} (h : w.rowIs g 5 n (U X)) (hB : B ≤ g) (hn : n ≤ 1000000) : w.ownsRow B 5 1 (.slice (some ⟨g, 0, none⟩) n n) n (byt X n) := by
  obtain ⟨cur, h1, h2, h3⟩ := h
  refine ⟨by rw [byt_len, Nat.mul_one], Or.inr ⟨g, n, cur, rfl, hB, h1, Nat.le_refl _, by unfold maxLen; omega, by omega, ?_⟩⟩
  apply List.ext_getElem?
  intro k
  by_cases hk : k < n
  · rw [List.getElem?_take, if_pos (by omega), byt_at _ _ _ hk]
    have := h3 k hk
    simpa [U] using this
  · rw [List.getElem?_eq_none (by rw [List.length_take]; omega), List.getElem?_eq_none (by rw [byt_len]; omega)]
theorem l4_8 : dropC 8 l4 = (headC (dropC 8 l4)).seq ((headC (dropC 9 l4)).seq ((headC (dropC 10 l4)).seq ((headC (dropC 11 l4)).seq ((headC (dropC 12 l4)).seq ((headC (dropC 13 l4)).seq (dropC 14 l4)))))) := by kernel_rfl
theorem l4_14 : dropC 14 l4 = ((headC (headC (dropC 14 l4))).seq (Code.block 2 (.loop l4b))).seq (dropC 15 l4) := by kernel_rfl
theorem l4_15 : dropC 15 l4 = (headC (dropC 15 l4)).seq (((headC (headC (dropC 16 l4))).seq (Code.cond (.tmp 140) (thnC (tailC (headC (dropC 16 l4)))) .skip)).seq ((headC (dropC 17 l4)).seq (dropC 18 l4))) := by kernel_rfl
theorem l4b_eq : l4b = ((headC (headC l4b)).seq (Code.cond (.tmp 102) .skip (.exit 2))).seq ((Code.block 3 ((headC (blkC (headC (dropC 1 l4b)))).seq ((headC (dropC 1 (blkC (headC (dropC 1 l4b))))).seq ((headC (dropC 2 (blkC (headC (dropC 1 l4b))))).seq (dropC 3 (blkC (headC (dropC 1 l4b)))))))).seq (dropC 2 l4b)) := by kernel_rfl
theorem l4_0 : l4 = (headC l4).seq (((headC (headC (dropC 1 l4))).seq (Code.cond (.tmp 48) ((headC (thnC (tailC (headC (dropC 1 l4))))).seq .ret) .skip)).seq (dropC 2 l4)) := by kernel_rfl
theorem l4_2 : dropC 2 l4 = (headC (dropC 2 l4)).seq (((headC (headC (dropC 3 l4))).seq (Code.cond (.tmp 49) (thnC (tailC (headC (dropC 3 l4)))) .skip)).seq ((headC (dropC 4 l4)).seq ((headC (dropC 5 l4)).seq ((headC (dropC 6 l4)).seq (dropC 7 l4))))) := by kernel_rfl
theorem l4_7 : dropC 7 l4 = ((headC (headC (dropC 7 l4))).seq (Code.block 0 (.loop l4a))).seq (dropC 8 l4) := by kernel_rfl
theorem l4a_eq : l4a = (headC l4a).seq ((Code.cond (.tmp 62) .skip (.exit 0)).seq ((Code.block 1 ((headC (blkC (headC (dropC 2 l4a)))).seq ((headC (dropC 1 (blkC (headC (dropC 2 l4a))))).seq (dropC 2 (blkC (headC (dropC 2 l4a))))))).seq (dropC 3 l4a))) := by kernel_rfl
def D.b0 (d : D) (k : Nat) : Nat := if k = 5 then d.py % 256 else if k = 4 then d.py / 256 else if k = 0 then 96 else 0
def D.b1 (d : D) (j k : Nat) : Nat := if 24 ≤ k ∧ k < 24 + j then d.ds (k - 24) else if 8 ≤ k ∧ k < 8 + j then d.sr (k - 8) else d.b0 k
structure Rows3 (d : D) (kb sb ob : Nat) (wq : World) : Prop where
  k : wq.rowIs kb 5 d.m (U d.K)
  s : wq.rowIs sb 3 d.m (V d.S)
  o : wq.rowIs ob 3 d.m (V (fun _ => 0))
theorem Rows3.keep {d : D} {kb sb ob x : Nat} {wq wy : World} (h : Rows3 d kb sb ob wq) (hx : kb < x ∧ sb < x ∧ ob < x) (e : ∀ b, b < x → wy.heap[b]? = wq.heap[b]?) : Rows3 d kb sb ob wy :=
  ⟨h.k.of_block (e _ hx.1), h.s.of_block (e _ hx.2.1), h.o.of_block (e _ hx.2.2)⟩
set_option maxRecDepth 100000 in
set_option maxHeartbeats 1000000 in
theorem partB3 (F : Interp) (d : D) (hd : d.Ok) (udp : Bool) (hu : d.fi = if udp then 17 else 6) (a0 : Option Addr) (xb xo c0 kb sb ob : Nat) (ha0 : 0 < d.m → a0 = some ⟨xb, xo, none⟩) (zp : Option Addr) (ea : Addr) (ce : Array Value) (te : TypeId) (B : Nat) (w wa : World) (hb : Below B w wa) (hBs : B ≤ wa.heap.size) (hBw : w.heap.size ≤ B) (hF : F.answers w.tape)
    (hx : ∀ i, i < d.m → w.cell? ⟨xb, xo + i * 4, none⟩ = some (.int .u8 ((d.kd i : Nat) : Int)) ∧ w.cell? ⟨xb, xo + i * 4 + 1, none⟩ = some (.int .u8 ((d.L i : Nat) : Int)) ∧ w.cell? ⟨xb, xo + i * 4 + 2, none⟩ = some (.int .u16 ((d.Fr i : Nat) : Int)) ∧ w.cell? ⟨xb, xo + i * 4 + 3, none⟩ = some (.int .u8 ((d.Z i : Nat) : Int)))
    (hea : w.heap[ea.block]? = some (.cells ce te (0, 0))) (hg0 : w.cell? ⟨0, 0, none⟩ = some (.iface 108 (.pointer (some ea)))) (hg3 : w.cell? ⟨3, 0, none⟩ = some (.pointer zp))
    (a4 : Option Addr) (tb to tl c4 : Nat) (ha4 : 0 < tl → a4 = some ⟨tb, to, none⟩) (htl : tl ≤ 4096) (hT : ∀ k, k < tl → w.cell? ⟨tb, to + k, none⟩ = some (.int .u8 ((d.T k : Nat) : Int))) (ct : Nat) (dc : Bool) (hct : ct < 4294967296) (gp : Nat) (hr3 : Rows3 d kb sb ob wa) (hlt : kb < gp ∧ sb < gp ∧ ob < gp) (hdis : ob ≠ kb ∧ ob ≠ sb) (hBo : B ≤ ob) (hBg : B ≤ gp) (hgr : wa.rowIs gp 5 40 (U (d.b1 16))) (hrr : wa.rowIs (gp + 1) 5 16 (U d.sr)) (hdr : wa.rowIs (gp + 2) 5 16 (U d.ds))
    (f : Nat → Value) (H : Has f [(0, .slice a0 d.m c0), (1, .int .u8 ((d.seed : Nat) : Int)), (2, .int .u16 ((d.py : Nat) : Int)), (3, .bool udp), (4, .slice a4 tl c4), (5, .int .u32 ((ct : Nat) : Int)), (6, .bool dc), (15, .int .u8 ((d.fi : Nat) : Int)), (16, .slice (some ⟨kb, 0, none⟩) d.m d.m), (17, .slice (some ⟨sb, 0, none⟩) d.m d.m), (18, .slice (some ⟨ob, 0, none⟩) d.m d.m), (20, .slice (some ⟨gp, 0, none⟩) 40 40), (21, .slice (some ⟨gp + 1, 0, none⟩) 16 16), (22, .slice (some ⟨gp + 2, 0, none⟩) 16 16)]) :
    Code.wp Ybaf.prog (dropC 15 l4) (bodyPost Ybaf.prog Ybaf.f4 fun e w' => e = .returned (.bool true) ∧ Below B w w') (F4 f) wa := by
  rw [l4_15]
  refine wp_seq (wp_use (f28 d.fi wa f H.2.2.2.2.2.2.2.1 _ ?_))
  intro f1  S1 e1_24 
  have H1 : Has f1 [(24, .int .u8 ((d.fi : Nat) : Int)), (0, .slice a0 d.m c0), (1, .int .u8 ((d.seed : Nat) : Int)), (2, .int .u16 ((d.py : Nat) : Int)), (3, .bool udp), (4, .slice a4 tl c4), (5, .int .u32 ((ct : Nat) : Int)), (6, .bool dc), (15, .int .u8 ((d.fi : Nat) : Int)), (16, .slice (some ⟨kb, 0, none⟩) d.m d.m), (17, .slice (some ⟨sb, 0, none⟩) d.m d.m), (18, .slice (some ⟨ob, 0, none⟩) d.m d.m), (20, .slice (some ⟨gp, 0, none⟩) 40 40), (21, .slice (some ⟨gp + 1, 0, none⟩) 16 16), (22, .slice (some ⟨gp + 2, 0, none⟩) 16 16)] := ⟨e1_24, H.keep S1⟩
  refine wp_join (fun a w' => w' = wa ∧ ∃ f', a = F4 f' ∧ Has f' [(24, .int .u8 ((d.N 0 : Nat) : Int)), (0, .slice a0 d.m c0), (1, .int .u8 ((d.seed : Nat) : Int)), (2, .int .u16 ((d.py : Nat) : Int)), (3, .bool udp), (4, .slice a4 tl c4), (5, .int .u32 ((ct : Nat) : Int)), (6, .bool dc), (15, .int .u8 ((d.fi : Nat) : Int)), (16, .slice (some ⟨kb, 0, none⟩) d.m d.m), (17, .slice (some ⟨sb, 0, none⟩) d.m d.m), (18, .slice (some ⟨ob, 0, none⟩) d.m d.m), (20, .slice (some ⟨gp, 0, none⟩) 40 40), (21, .slice (some ⟨gp + 1, 0, none⟩) 16 16), (22, .slice (some ⟨gp + 2, 0, none⟩) 16 16)]) ?_ ?_
  · skip
    refine wp_seq (wp_use (f29 a0 d.m c0 wa f1 H1.2.1 _ ?_))
    intro f2  S2 e2_140 
    have H2 : Has f2 [(140, .bool (decide (0 < d.m))), (24, .int .u8 ((d.fi : Nat) : Int)), (0, .slice a0 d.m c0), (1, .int .u8 ((d.seed : Nat) : Int)), (2, .int .u16 ((d.py : Nat) : Int)), (3, .bool udp), (4, .slice a4 tl c4), (5, .int .u32 ((ct : Nat) : Int)), (6, .bool dc), (15, .int .u8 ((d.fi : Nat) : Int)), (16, .slice (some ⟨kb, 0, none⟩) d.m d.m), (17, .slice (some ⟨sb, 0, none⟩) d.m d.m), (18, .slice (some ⟨ob, 0, none⟩) d.m d.m), (20, .slice (some ⟨gp, 0, none⟩) 40 40), (21, .slice (some ⟨gp + 1, 0, none⟩) 16 16), (22, .slice (some ⟨gp + 2, 0, none⟩) 16 16)] := ⟨e2_140, H1.keep S2⟩
    refine wp_cond (t := decide (0 < d.m)) (ev rfl e2_140) ?_
    by_cases hm : 0 < d.m
    · skip
      rw [decide_eq_true hm, if_pos rfl]
      refine wp_use (f30 kb d.m (d.K 0) wa hm (hr3.k.cell hm) f2 H2.2.2.2.2.2.2.2.2.2.2.1 _ ?_)
      intro f3  S3 e3_24 
      have H3 : Has f3 [(24, .int .u8 ((d.K 0 : Nat) : Int)), (140, .bool (decide (0 < d.m))), (0, .slice a0 d.m c0), (1, .int .u8 ((d.seed : Nat) : Int)), (2, .int .u16 ((d.py : Nat) : Int)), (3, .bool udp), (4, .slice a4 tl c4), (5, .int .u32 ((ct : Nat) : Int)), (6, .bool dc), (15, .int .u8 ((d.fi : Nat) : Int)), (16, .slice (some ⟨kb, 0, none⟩) d.m d.m), (17, .slice (some ⟨sb, 0, none⟩) d.m d.m), (18, .slice (some ⟨ob, 0, none⟩) d.m d.m), (20, .slice (some ⟨gp, 0, none⟩) 40 40), (21, .slice (some ⟨gp + 1, 0, none⟩) 16 16), (22, .slice (some ⟨gp + 2, 0, none⟩) 16 16)] := ⟨e3_24, H2.keep S3⟩
      exact ⟨rfl, _, rfl, (by rw [show d.N 0 = d.K 0 from if_pos hm]; exact H3.1), H3.2.2.1, H3.2.2.2.1, H3.2.2.2.2.1, H3.2.2.2.2.2.1, H3.2.2.2.2.2.2.1, H3.2.2.2.2.2.2.2.1, H3.2.2.2.2.2.2.2.2.1, H3.2.2.2.2.2.2.2.2.2.1, H3.2.2.2.2.2.2.2.2.2.2.1, H3.2.2.2.2.2.2.2.2.2.2.2.1, H3.2.2.2.2.2.2.2.2.2.2.2.2.1, H3.2.2.2.2.2.2.2.2.2.2.2.2.2.1, H3.2.2.2.2.2.2.2.2.2.2.2.2.2.2.1, H3.2.2.2.2.2.2.2.2.2.2.2.2.2.2.2.1, trivial⟩
    · skip
      rw [decide_eq_false hm, if_neg Bool.false_ne_true]
      refine wp_skip ?_
      exact ⟨rfl, _, rfl, (by rw [show d.N 0 = d.fi from if_neg hm]; exact H2.2.1), H2.2.2.1, H2.2.2.2.1, H2.2.2.2.2.1, H2.2.2.2.2.2.1, H2.2.2.2.2.2.2.1, H2.2.2.2.2.2.2.2.1, H2.2.2.2.2.2.2.2.2.1, H2.2.2.2.2.2.2.2.2.2.1, H2.2.2.2.2.2.2.2.2.2.2.1, H2.2.2.2.2.2.2.2.2.2.2.2.1, H2.2.2.2.2.2.2.2.2.2.2.2.2.1, H2.2.2.2.2.2.2.2.2.2.2.2.2.2.1, H2.2.2.2.2.2.2.2.2.2.2.2.2.2.2.1, H2.2.2.2.2.2.2.2.2.2.2.2.2.2.2.2.1, trivial⟩
  · skip
    rintro a wa' ⟨rfl, p, rfl, Hp⟩
    refine wp_seq (wp_use (f31 gp (d.N 0) _ wa' (hgr.cell (by omega)) (hgr.frozen 6) p Hp.2.2.2.2.2.2.2.2.2.2.2.2.1 Hp.1 _ ?_))
    intro f21  S21  
    have H21 : Has f21 [(24, .int .u8 ((d.N 0 : Nat) : Int)), (0, .slice a0 d.m c0), (1, .int .u8 ((d.seed : Nat) : Int)), (2, .int .u16 ((d.py : Nat) : Int)), (3, .bool udp), (4, .slice a4 tl c4), (5, .int .u32 ((ct : Nat) : Int)), (6, .bool dc), (15, .int .u8 ((d.fi : Nat) : Int)), (16, .slice (some ⟨kb, 0, none⟩) d.m d.m), (17, .slice (some ⟨sb, 0, none⟩) d.m d.m), (18, .slice (some ⟨ob, 0, none⟩) d.m d.m), (20, .slice (some ⟨gp, 0, none⟩) 40 40), (21, .slice (some ⟨gp + 1, 0, none⟩) 16 16), (22, .slice (some ⟨gp + 2, 0, none⟩) 16 16)] := Hp.keep S21
    obtain ⟨w1, hw1⟩ : ∃ x, wa'.setCell ⟨gp, 6, none⟩ (.int .u8 ((d.N 0 : Nat) : Int)) = x := ⟨_, rfl⟩
    have o1 : Only gp wa' w1 := by rw [← hw1]; exact only_set gp 6 _ wa'
    have r1 : w1.rowIs gp 5 40 (U d.base) := by rw [← hw1]; exact U_set hgr (fun _ _ => rfl)
    rw [hw1]
    have h5 : Rows5 d kb sb ob (gp + 1) (gp + 2) 0 w1 := ⟨hr3.k.of_block (o1.block _ (by omega)), hr3.s.of_block (o1.block _ (by omega)), (hr3.o.of_block (o1.block _ (by omega))).congr (fun k hk => by simp only [V]; rw [if_neg (by omega)]), hrr.of_block (o1.block _ (by omega)), hdr.of_block (o1.block _ (by omega))⟩
    exact partC F d hd udp hu a0 xb xo c0 kb sb ob (gp + 1) (gp + 2) gp 40 ha0 zp ea ce te B w w1 (below_only hb hBg o1) (by rw [o1.size]; exact hBs) hBw hF hx hea hg0 hg3 a4 tb to tl c4 ha4 htl hT ct dc hct h5 ⟨by omega, by omega, by omega, by omega, by omega⟩ ⟨hdis.1, hdis.2, by omega, by omega⟩ hBo (own_row r1 hBg (by omega)) f21 ⟨H21.2.1, H21.2.2.2.1, H21.2.2.2.2.1, H21.2.2.2.2.2.1, H21.2.2.2.2.2.2.1, H21.2.2.2.2.2.2.2.1, H21.2.2.2.2.2.2.2.2.1, H21.2.2.2.2.2.2.2.2.2.1, H21.2.2.2.2.2.2.2.2.2.2.1, H21.2.2.2.2.2.2.2.2.2.2.2.1, H21.2.2.2.2.2.2.2.2.2.2.2.2.1, H21.2.2.2.2.2.2.2.2.2.2.2.2.2.1, H21.2.2.2.2.2.2.2.2.2.2.2.2.2.2.1, trivial⟩
set_option maxRecDepth 100000 in
set_option maxHeartbeats 1000000 in
theorem partB2 (F : Interp) (d : D) (hd : d.Ok) (udp : Bool) (hu : d.fi = if udp then 17 else 6) (a0 : Option Addr) (xb xo c0 kb sb ob : Nat) (ha0 : 0 < d.m → a0 = some ⟨xb, xo, none⟩) (zp : Option Addr) (ea : Addr) (ce : Array Value) (te : TypeId) (B : Nat) (w wa : World) (hb : Below B w wa) (hBs : B ≤ wa.heap.size) (hBw : w.heap.size ≤ B) (hF : F.answers w.tape)
    (hx : ∀ i, i < d.m → w.cell? ⟨xb, xo + i * 4, none⟩ = some (.int .u8 ((d.kd i : Nat) : Int)) ∧ w.cell? ⟨xb, xo + i * 4 + 1, none⟩ = some (.int .u8 ((d.L i : Nat) : Int)) ∧ w.cell? ⟨xb, xo + i * 4 + 2, none⟩ = some (.int .u16 ((d.Fr i : Nat) : Int)) ∧ w.cell? ⟨xb, xo + i * 4 + 3, none⟩ = some (.int .u8 ((d.Z i : Nat) : Int)))
    (hea : w.heap[ea.block]? = some (.cells ce te (0, 0))) (hg0 : w.cell? ⟨0, 0, none⟩ = some (.iface 108 (.pointer (some ea)))) (hg3 : w.cell? ⟨3, 0, none⟩ = some (.pointer zp))
    (a4 : Option Addr) (tb to tl c4 : Nat) (ha4 : 0 < tl → a4 = some ⟨tb, to, none⟩) (htl : tl ≤ 4096) (hT : ∀ k, k < tl → w.cell? ⟨tb, to + k, none⟩ = some (.int .u8 ((d.T k : Nat) : Int))) (ct : Nat) (dc : Bool) (hct : ct < 4294967296) (gp : Nat) (hr3 : Rows3 d kb sb ob wa) (hlt : kb < gp ∧ sb < gp ∧ ob < gp) (hdis : ob ≠ kb ∧ ob ≠ sb) (hBo : B ≤ ob) (hBg : B ≤ gp) (hgr : wa.rowIs gp 5 40 (U d.b0)) (hrr : wa.rowIs (gp + 1) 5 16 (U (fun _ => 0))) (hdr : wa.rowIs (gp + 2) 5 16 (U (fun _ => 0)))
    (f : Nat → Value) (H : Has f [(0, .slice a0 d.m c0), (1, .int .u8 ((d.seed : Nat) : Int)), (2, .int .u16 ((d.py : Nat) : Int)), (3, .bool udp), (4, .slice a4 tl c4), (5, .int .u32 ((ct : Nat) : Int)), (6, .bool dc), (15, .int .u8 ((d.fi : Nat) : Int)), (16, .slice (some ⟨kb, 0, none⟩) d.m d.m), (17, .slice (some ⟨sb, 0, none⟩) d.m d.m), (18, .slice (some ⟨ob, 0, none⟩) d.m d.m), (20, .slice (some ⟨gp, 0, none⟩) 40 40), (21, .slice (some ⟨gp + 1, 0, none⟩) 16 16), (22, .slice (some ⟨gp + 2, 0, none⟩) 16 16)]) :
    Code.wp Ybaf.prog (dropC 14 l4) (bodyPost Ybaf.prog Ybaf.f4 fun e w' => e = .returned (.bool true) ∧ Below B w w') (F4 f) wa := by
  rw [l4_14]
  refine wp_seq (wp_seq (wp_use (f21 wa f  _ ?_)))
  intro f1  S1 e1_23 
  have H1 : Has f1 [(23, .int .i64 ((0 : Nat) : Int)), (0, .slice a0 d.m c0), (1, .int .u8 ((d.seed : Nat) : Int)), (2, .int .u16 ((d.py : Nat) : Int)), (3, .bool udp), (4, .slice a4 tl c4), (5, .int .u32 ((ct : Nat) : Int)), (6, .bool dc), (15, .int .u8 ((d.fi : Nat) : Int)), (16, .slice (some ⟨kb, 0, none⟩) d.m d.m), (17, .slice (some ⟨sb, 0, none⟩) d.m d.m), (18, .slice (some ⟨ob, 0, none⟩) d.m d.m), (20, .slice (some ⟨gp, 0, none⟩) 40 40), (21, .slice (some ⟨gp + 1, 0, none⟩) 16 16), (22, .slice (some ⟨gp + 2, 0, none⟩) 16 16)] := ⟨e1_23, H.keep S1⟩
  refine wp_block (wp_loop (fun a wq => ∃ (q : Nat → Value) (j : Nat), a = F4 q ∧ j ≤ 16 ∧ Has q [(0, .slice a0 d.m c0), (1, .int .u8 ((d.seed : Nat) : Int)), (2, .int .u16 ((d.py : Nat) : Int)), (3, .bool udp), (4, .slice a4 tl c4), (5, .int .u32 ((ct : Nat) : Int)), (6, .bool dc), (15, .int .u8 ((d.fi : Nat) : Int)), (16, .slice (some ⟨kb, 0, none⟩) d.m d.m), (17, .slice (some ⟨sb, 0, none⟩) d.m d.m), (18, .slice (some ⟨ob, 0, none⟩) d.m d.m), (20, .slice (some ⟨gp, 0, none⟩) 40 40), (21, .slice (some ⟨gp + 1, 0, none⟩) 16 16), (22, .slice (some ⟨gp + 2, 0, none⟩) 16 16), (23, .int .i64 ((j : Nat) : Int))] ∧ Below B w wq ∧ B ≤ wq.heap.size ∧ Rows3 d kb sb ob wq ∧ wq.rowIs gp 5 40 (U (d.b1 j)) ∧ wq.rowIs (gp + 1) 5 16 (U (fun k => if k < j then d.sr k else 0)) ∧ wq.rowIs (gp + 2) 5 16 (U (fun k => if k < j then d.ds k else 0))) (fun a _ => 16 - (intOf (a.tmps.getD 23 undef)).toNat) ⟨f1, 0, rfl, by omega, ⟨H1.2.1, H1.2.2.1, H1.2.2.2.1, H1.2.2.2.2.1, H1.2.2.2.2.2.1, H1.2.2.2.2.2.2.1, H1.2.2.2.2.2.2.2.1, H1.2.2.2.2.2.2.2.2.1, H1.2.2.2.2.2.2.2.2.2.1, H1.2.2.2.2.2.2.2.2.2.2.1, H1.2.2.2.2.2.2.2.2.2.2.2.1, H1.2.2.2.2.2.2.2.2.2.2.2.2.1, H1.2.2.2.2.2.2.2.2.2.2.2.2.2.1, H1.2.2.2.2.2.2.2.2.2.2.2.2.2.2.1, H1.1, trivial⟩, hb, hBs, hr3, hgr.congr (fun k hk => by simp only [U, D.b1]; rw [if_neg (by omega), if_neg (by omega)]), hrr, hdr⟩ ?_)
  rintro a wq ⟨q, j, rfl, hj, Q, hbq, hBq, hrq, g1, g2, g3⟩
  rw [l4b_eq]
  refine wp_seq (wp_seq (wp_use (f22 j wq q Q.2.2.2.2.2.2.2.2.2.2.2.2.2.2.1 _ ?_)))
  intro f11  S11 e11_102 
  have H11 : Has f11 [(102, .bool (decide (j < 16))), (0, .slice a0 d.m c0), (1, .int .u8 ((d.seed : Nat) : Int)), (2, .int .u16 ((d.py : Nat) : Int)), (3, .bool udp), (4, .slice a4 tl c4), (5, .int .u32 ((ct : Nat) : Int)), (6, .bool dc), (15, .int .u8 ((d.fi : Nat) : Int)), (16, .slice (some ⟨kb, 0, none⟩) d.m d.m), (17, .slice (some ⟨sb, 0, none⟩) d.m d.m), (18, .slice (some ⟨ob, 0, none⟩) d.m d.m), (20, .slice (some ⟨gp, 0, none⟩) 40 40), (21, .slice (some ⟨gp + 1, 0, none⟩) 16 16), (22, .slice (some ⟨gp + 2, 0, none⟩) 16 16), (23, .int .i64 ((j : Nat) : Int))] := ⟨e11_102, Q.keep S11⟩
  refine wp_cond (t := decide (j < 16)) (ev rfl e11_102) ?_
  by_cases hj2 : j < 16
  · skip
    rw [decide_eq_true hj2, if_pos rfl]
    refine wp_skip ?_
    refine wp_seq (wp_block ?_)
    refine wp_seq (wp_use (f24 d.seed j (gp + 1) _ wq (g2.cell hj2) (g2.frozen j) hj2 f11 H11.2.2.1 H11.2.2.2.2.2.2.2.2.2.2.2.2.2.1 H11.2.2.2.2.2.2.2.2.2.2.2.2.2.2.2.1 _ ?_))
    intro f12  S12  
    have H12 : Has f12 [(102, .bool (decide (j < 16))), (0, .slice a0 d.m c0), (1, .int .u8 ((d.seed : Nat) : Int)), (2, .int .u16 ((d.py : Nat) : Int)), (3, .bool udp), (4, .slice a4 tl c4), (5, .int .u32 ((ct : Nat) : Int)), (6, .bool dc), (15, .int .u8 ((d.fi : Nat) : Int)), (16, .slice (some ⟨kb, 0, none⟩) d.m d.m), (17, .slice (some ⟨sb, 0, none⟩) d.m d.m), (18, .slice (some ⟨ob, 0, none⟩) d.m d.m), (20, .slice (some ⟨gp, 0, none⟩) 40 40), (21, .slice (some ⟨gp + 1, 0, none⟩) 16 16), (22, .slice (some ⟨gp + 2, 0, none⟩) 16 16), (23, .int .i64 ((j : Nat) : Int))] := H11.keep S12
    obtain ⟨w1, hw1⟩ : ∃ x, wq.setCell ⟨gp + 1, j, none⟩ (.int .u8 (((d.seed + j) % 256 : Nat) : Int)) = x := ⟨_, rfl⟩
    have o1 : Only (gp + 1) wq w1 := by rw [← hw1]; exact only_set (gp + 1) j _ wq
    have r1 : w1.rowIs (gp + 1) 5 16 (U (fun k => if k < j + 1 then d.sr k else 0)) := by
      rw [← hw1]
      refine U_set g2 (fun k hk => ?_)
      by_cases e : k = j
      · subst e; rw [if_pos rfl, if_pos (by omega)]; rfl
      · rw [if_neg e]
        by_cases e2 : k < j
        · rw [if_pos e2, if_pos (by omega)]
        · rw [if_neg e2, if_neg (by omega)]
    rw [hw1]
    have d1 := g3.of_block (o1.block (gp + 2) (by omega))
    have p1 := g1.of_block (o1.block gp (by omega))
    refine wp_seq (wp_use (f25 d.seed j (gp + 2) _ w1 (d1.cell hj2) (d1.frozen j) hj2 f12 H12.2.2.1 H12.2.2.2.2.2.2.2.2.2.2.2.2.2.2.1 H12.2.2.2.2.2.2.2.2.2.2.2.2.2.2.2.1 _ ?_))
    intro f13  S13  
    have H13 : Has f13 [(102, .bool (decide (j < 16))), (0, .slice a0 d.m c0), (1, .int .u8 ((d.seed : Nat) : Int)), (2, .int .u16 ((d.py : Nat) : Int)), (3, .bool udp), (4, .slice a4 tl c4), (5, .int .u32 ((ct : Nat) : Int)), (6, .bool dc), (15, .int .u8 ((d.fi : Nat) : Int)), (16, .slice (some ⟨kb, 0, none⟩) d.m d.m), (17, .slice (some ⟨sb, 0, none⟩) d.m d.m), (18, .slice (some ⟨ob, 0, none⟩) d.m d.m), (20, .slice (some ⟨gp, 0, none⟩) 40 40), (21, .slice (some ⟨gp + 1, 0, none⟩) 16 16), (22, .slice (some ⟨gp + 2, 0, none⟩) 16 16), (23, .int .i64 ((j : Nat) : Int))] := H12.keep S13
    obtain ⟨w2, hw2⟩ : ∃ x, w1.setCell ⟨gp + 2, j, none⟩ (.int .u8 (((d.seed * 3 + j + 1) % 256 : Nat) : Int)) = x := ⟨_, rfl⟩
    have o2 : Only (gp + 2) w1 w2 := by rw [← hw2]; exact only_set (gp + 2) j _ w1
    have d2 : w2.rowIs (gp + 2) 5 16 (U (fun k => if k < j + 1 then d.ds k else 0)) := by
      rw [← hw2]
      refine U_set d1 (fun k hk => ?_)
      by_cases e : k = j
      · subst e; rw [if_pos rfl, if_pos (by omega)]; rfl
      · rw [if_neg e]
        by_cases e2 : k < j
        · rw [if_pos e2, if_pos (by omega)]
        · rw [if_neg e2, if_neg (by omega)]
    rw [hw2]
    have r2 := r1.of_block (o2.block (gp + 1) (by omega))
    have p2 := p1.of_block (o2.block gp (by omega))
    refine wp_seq (wp_use (f26 (gp + 1) gp j (d.sr j) _ w2 (p2.cell (by omega)) (p2.frozen (8 + j)) hj2 (by rw [r2.cell hj2]; simp only [U]; rw [if_pos (by omega)]) f13 H13.2.2.2.2.2.2.2.2.2.2.2.2.1 H13.2.2.2.2.2.2.2.2.2.2.2.2.2.1 H13.2.2.2.2.2.2.2.2.2.2.2.2.2.2.2.1 _ ?_))
    intro f14  S14  
    have H14 : Has f14 [(102, .bool (decide (j < 16))), (0, .slice a0 d.m c0), (1, .int .u8 ((d.seed : Nat) : Int)), (2, .int .u16 ((d.py : Nat) : Int)), (3, .bool udp), (4, .slice a4 tl c4), (5, .int .u32 ((ct : Nat) : Int)), (6, .bool dc), (15, .int .u8 ((d.fi : Nat) : Int)), (16, .slice (some ⟨kb, 0, none⟩) d.m d.m), (17, .slice (some ⟨sb, 0, none⟩) d.m d.m), (18, .slice (some ⟨ob, 0, none⟩) d.m d.m), (20, .slice (some ⟨gp, 0, none⟩) 40 40), (21, .slice (some ⟨gp + 1, 0, none⟩) 16 16), (22, .slice (some ⟨gp + 2, 0, none⟩) 16 16), (23, .int .i64 ((j : Nat) : Int))] := H13.keep S14
    obtain ⟨w3, hw3⟩ : ∃ x, w2.setCell ⟨gp, 8 + j, none⟩ (.int .u8 ((d.sr j : Nat) : Int)) = x := ⟨_, rfl⟩
    have o3 : Only gp w2 w3 := by rw [← hw3]; exact only_set gp (8 + j) _ w2
    have p3 : w3.rowIs gp 5 40 (U (fun k => if k = 8 + j then d.sr j else d.b1 j k)) := by rw [← hw3]; exact U_set p2 (fun _ _ => rfl)
    rw [hw3]
    have r3 := r2.of_block (o3.block (gp + 1) (by omega))
    have d3 := d2.of_block (o3.block (gp + 2) (by omega))
    refine wp_use (f27 (gp + 2) gp j (d.ds j) _ w3 (p3.cell (by omega)) (p3.frozen (24 + j)) hj2 (by rw [d3.cell hj2]; simp only [U]; rw [if_pos (by omega)]) f14 H14.2.2.2.2.2.2.2.2.2.2.2.2.1 H14.2.2.2.2.2.2.2.2.2.2.2.2.2.2.1 H14.2.2.2.2.2.2.2.2.2.2.2.2.2.2.2.1 _ ?_)
    intro f15  S15  
    have H15 : Has f15 [(102, .bool (decide (j < 16))), (0, .slice a0 d.m c0), (1, .int .u8 ((d.seed : Nat) : Int)), (2, .int .u16 ((d.py : Nat) : Int)), (3, .bool udp), (4, .slice a4 tl c4), (5, .int .u32 ((ct : Nat) : Int)), (6, .bool dc), (15, .int .u8 ((d.fi : Nat) : Int)), (16, .slice (some ⟨kb, 0, none⟩) d.m d.m), (17, .slice (some ⟨sb, 0, none⟩) d.m d.m), (18, .slice (some ⟨ob, 0, none⟩) d.m d.m), (20, .slice (some ⟨gp, 0, none⟩) 40 40), (21, .slice (some ⟨gp + 1, 0, none⟩) 16 16), (22, .slice (some ⟨gp + 2, 0, none⟩) 16 16), (23, .int .i64 ((j : Nat) : Int))] := H14.keep S15
    obtain ⟨w4, hw4⟩ : ∃ x, w3.setCell ⟨gp, 24 + j, none⟩ (.int .u8 ((d.ds j : Nat) : Int)) = x := ⟨_, rfl⟩
    have o4 : Only gp w3 w4 := by rw [← hw4]; exact only_set gp (24 + j) _ w3
    have p4 : w4.rowIs gp 5 40 (U (d.b1 (j + 1))) := by
      rw [← hw4]
      refine U_set p3 (fun k hk => ?_)
      unfold D.b1
      by_cases e : k = 24 + j
      · subst e; rw [if_pos rfl, if_pos (by omega), Nat.add_sub_cancel_left]
      · rw [if_neg e]
        by_cases e2 : k = 8 + j
        · subst e2; rw [if_pos rfl, if_neg (by omega), if_pos (by omega), Nat.add_sub_cancel_left]
        · rw [if_neg e2]
          by_cases e3 : 24 ≤ k ∧ k < 24 + j
          · rw [if_pos e3, if_pos (by omega)]
          · rw [if_neg e3, if_neg (by omega)]
            by_cases e4 : 8 ≤ k ∧ k < 8 + j
            · rw [if_pos e4, if_pos (by omega)]
            · rw [if_neg e4, if_neg (by omega)]
    rw [hw4]
    have bb1 := below_only hbq (by omega) o1
    have bb2 := below_only bb1 (by omega) o2
    have bb3 := below_only bb2 hBg o3
    have bb4 := below_only bb3 hBg o4
    have kk : ∀ b, b < gp → w4.heap[b]? = wq.heap[b]? := fun b hb' => (o4.block b (by omega)).trans ((o3.block b (by omega)).trans ((o2.block b (by omega)).trans (o1.block b (by omega))))
    show Code.wp _ _ _ _ _
    refine wp_use (f23 j w4 hj2 f15 H15.2.2.2.2.2.2.2.2.2.2.2.2.2.2.2.1 _ ?_)
    intro f16  S16 e16_23 
    have H16 : Has f16 [(23, .int .i64 ((j + 1 : Nat) : Int)), (102, .bool (decide (j < 16))), (0, .slice a0 d.m c0), (1, .int .u8 ((d.seed : Nat) : Int)), (2, .int .u16 ((d.py : Nat) : Int)), (3, .bool udp), (4, .slice a4 tl c4), (5, .int .u32 ((ct : Nat) : Int)), (6, .bool dc), (15, .int .u8 ((d.fi : Nat) : Int)), (16, .slice (some ⟨kb, 0, none⟩) d.m d.m), (17, .slice (some ⟨sb, 0, none⟩) d.m d.m), (18, .slice (some ⟨ob, 0, none⟩) d.m d.m), (20, .slice (some ⟨gp, 0, none⟩) 40 40), (21, .slice (some ⟨gp + 1, 0, none⟩) 16 16), (22, .slice (some ⟨gp + 2, 0, none⟩) 16 16)] := ⟨e16_23, H15.keep S16⟩
    refine ⟨⟨_, j + 1, rfl, hj2, ⟨H16.2.2.1, H16.2.2.2.1, H16.2.2.2.2.1, H16.2.2.2.2.2.1, H16.2.2.2.2.2.2.1, H16.2.2.2.2.2.2.2.1, H16.2.2.2.2.2.2.2.2.1, H16.2.2.2.2.2.2.2.2.2.1, H16.2.2.2.2.2.2.2.2.2.2.1, H16.2.2.2.2.2.2.2.2.2.2.2.1, H16.2.2.2.2.2.2.2.2.2.2.2.2.1, H16.2.2.2.2.2.2.2.2.2.2.2.2.2.1, H16.2.2.2.2.2.2.2.2.2.2.2.2.2.2.1, H16.2.2.2.2.2.2.2.2.2.2.2.2.2.2.2.1, H16.1, trivial⟩, bb4, by rw [o4.size, o3.size, o2.size, o1.size]; exact hBq, hrq.keep hlt kk, p4, r3.of_block (o4.block _ (by omega)), d3.of_block (o4.block _ (by omega))⟩, ?_⟩
    show 16 - (intOf ((F4 f16).tmps.getD 23 undef)).toNat < 16 - (intOf ((F4 q).tmps.getD 23 undef)).toNat
    rw [evG (N := 422) rfl e16_23, evG (N := 422) rfl Q.2.2.2.2.2.2.2.2.2.2.2.2.2.2.1]
    simp only [intOf]
    omega
  · skip
    rw [decide_eq_false hj2, if_neg Bool.false_ne_true]
    refine wp_exit ?_
    simp only [Exit.inBlock, Exit.then, if_true]
    obtain rfl : j = 16 := by omega
    exact partB3 F d hd udp hu a0 xb xo c0 kb sb ob ha0 zp ea ce te B w wq hbq hBq hBw hF hx hea hg0 hg3 a4 tb to tl c4 ha4 htl hT ct dc hct gp hrq hlt hdis hBo hBg g1 (g2.congr (fun k hk => by simp only [U]; rw [if_pos hk])) (g3.congr (fun k hk => by simp only [U]; rw [if_pos hk])) f11 ⟨H11.2.1, H11.2.2.1, H11.2.2.2.1, H11.2.2.2.2.1, H11.2.2.2.2.2.1, H11.2.2.2.2.2.2.1, H11.2.2.2.2.2.2.2.1, H11.2.2.2.2.2.2.2.2.1, H11.2.2.2.2.2.2.2.2.2.1, H11.2.2.2.2.2.2.2.2.2.2.1, H11.2.2.2.2.2.2.2.2.2.2.2.1, H11.2.2.2.2.2.2.2.2.2.2.2.2.1, H11.2.2.2.2.2.2.2.2.2.2.2.2.2.1, H11.2.2.2.2.2.2.2.2.2.2.2.2.2.2.1, trivial⟩
set_option maxRecDepth 100000 in
set_option maxHeartbeats 1000000 in
theorem partB1 (F : Interp) (d : D) (hd : d.Ok) (udp : Bool) (hu : d.fi = if udp then 17 else 6) (a0 : Option Addr) (xb xo c0 kb sb ob : Nat) (ha0 : 0 < d.m → a0 = some ⟨xb, xo, none⟩) (zp : Option Addr) (ea : Addr) (ce : Array Value) (te : TypeId) (B : Nat) (w wa : World) (hb : Below B w wa) (hBs : B ≤ wa.heap.size) (hBw : w.heap.size ≤ B) (hF : F.answers w.tape)
    (hx : ∀ i, i < d.m → w.cell? ⟨xb, xo + i * 4, none⟩ = some (.int .u8 ((d.kd i : Nat) : Int)) ∧ w.cell? ⟨xb, xo + i * 4 + 1, none⟩ = some (.int .u8 ((d.L i : Nat) : Int)) ∧ w.cell? ⟨xb, xo + i * 4 + 2, none⟩ = some (.int .u16 ((d.Fr i : Nat) : Int)) ∧ w.cell? ⟨xb, xo + i * 4 + 3, none⟩ = some (.int .u8 ((d.Z i : Nat) : Int)))
    (hea : w.heap[ea.block]? = some (.cells ce te (0, 0))) (hg0 : w.cell? ⟨0, 0, none⟩ = some (.iface 108 (.pointer (some ea)))) (hg3 : w.cell? ⟨3, 0, none⟩ = some (.pointer zp))
    (a4 : Option Addr) (tb to tl c4 : Nat) (ha4 : 0 < tl → a4 = some ⟨tb, to, none⟩) (htl : tl ≤ 4096) (hT : ∀ k, k < tl → w.cell? ⟨tb, to + k, none⟩ = some (.int .u8 ((d.T k : Nat) : Int))) (ct : Nat) (dc : Bool) (hct : ct < 4294967296) (hr3 : Rows3 d kb sb ob wa) (hdis : ob ≠ kb ∧ ob ≠ sb) (hBo : B ≤ ob)
    (f : Nat → Value) (H : Has f [(0, .slice a0 d.m c0), (1, .int .u8 ((d.seed : Nat) : Int)), (2, .int .u16 ((d.py : Nat) : Int)), (3, .bool udp), (4, .slice a4 tl c4), (5, .int .u32 ((ct : Nat) : Int)), (6, .bool dc), (15, .int .u8 ((d.fi : Nat) : Int)), (16, .slice (some ⟨kb, 0, none⟩) d.m d.m), (17, .slice (some ⟨sb, 0, none⟩) d.m d.m), (18, .slice (some ⟨ob, 0, none⟩) d.m d.m)]) :
    Code.wp Ybaf.prog (dropC 8 l4) (bodyPost Ybaf.prog Ybaf.f4 fun e w' => e = .returned (.bool true) ∧ Below B w w') (F4 f) wa := by
  have hk := hr3.k.lt
  have hs := hr3.s.lt
  have ho := hr3.o.lt
  rw [l4_8]
  refine wp_seq (wp_use (f15 wa f  _ ?_))
  intro f1  S1 e1_20 
  have H1 : Has f1 [(20, .slice (some ⟨wa.heap.size, 0, none⟩) 40 40), (0, .slice a0 d.m c0), (1, .int .u8 ((d.seed : Nat) : Int)), (2, .int .u16 ((d.py : Nat) : Int)), (3, .bool udp), (4, .slice a4 tl c4), (5, .int .u32 ((ct : Nat) : Int)), (6, .bool dc), (15, .int .u8 ((d.fi : Nat) : Int)), (16, .slice (some ⟨kb, 0, none⟩) d.m d.m), (17, .slice (some ⟨sb, 0, none⟩) d.m d.m), (18, .slice (some ⟨ob, 0, none⟩) d.m d.m)] := ⟨e1_20, H.keep S1⟩
  obtain ⟨gp, hgp⟩ : ∃ x, x = wa.heap.size := ⟨_, rfl⟩
  obtain ⟨w1, hw1⟩ : ∃ x, wa.alloc (.cells (madeCells #[.int .u8 0] 40) 5) = x := ⟨_, rfl⟩
  have sw1 : w1.heap.size = gp + 1 := by rw [← hw1, hgp]; simp
  have kw1 : ∀ b, b < gp → w1.heap[b]? = wa.heap[b]? := fun b hb' => by rw [← hw1]; exact Below.heap_alloc _ _ _ (by omega)
  have rw1 : w1.rowIs gp 5 40 (U (fun _ => 0)) := by rw [← hw1, hgp]; exact World.rowIs_made _ _ _ _
  rw [hw1]
  rw [← hgp] at H1
  have b1 : Below B w w1 := by rw [← hw1]; exact hb.alloc hBs _
  refine wp_seq (wp_use (f16 gp _ w1 (rw1.cell (by omega)) (rw1.frozen 0) f1 H1.1 _ ?_))
  intro f2  S2  
  have H2 : Has f2 [(20, .slice (some ⟨gp, 0, none⟩) 40 40), (0, .slice a0 d.m c0), (1, .int .u8 ((d.seed : Nat) : Int)), (2, .int .u16 ((d.py : Nat) : Int)), (3, .bool udp), (4, .slice a4 tl c4), (5, .int .u32 ((ct : Nat) : Int)), (6, .bool dc), (15, .int .u8 ((d.fi : Nat) : Int)), (16, .slice (some ⟨kb, 0, none⟩) d.m d.m), (17, .slice (some ⟨sb, 0, none⟩) d.m d.m), (18, .slice (some ⟨ob, 0, none⟩) d.m d.m)] := H1.keep S2
  obtain ⟨w2, hw2⟩ : ∃ x, w1.setCell ⟨gp, 0, none⟩ (.int .u8 96) = x := ⟨_, rfl⟩
  have o2 : Only gp w1 w2 := by rw [← hw2]; exact only_set gp 0 _ w1
  have r2 : w2.rowIs gp 5 40 (U (fun k => if k = 0 then 96 else 0)) := by rw [← hw2]; exact U_set (v := 96) rw1 (fun _ _ => rfl)
  rw [hw2]
  refine wp_seq (wp_use (f17 gp d.py _ w2 (r2.cell (by omega)) (r2.frozen 4) hd.py f2 H2.2.2.2.1 H2.1 _ ?_))
  intro f3  S3  
  have H3 : Has f3 [(20, .slice (some ⟨gp, 0, none⟩) 40 40), (0, .slice a0 d.m c0), (1, .int .u8 ((d.seed : Nat) : Int)), (2, .int .u16 ((d.py : Nat) : Int)), (3, .bool udp), (4, .slice a4 tl c4), (5, .int .u32 ((ct : Nat) : Int)), (6, .bool dc), (15, .int .u8 ((d.fi : Nat) : Int)), (16, .slice (some ⟨kb, 0, none⟩) d.m d.m), (17, .slice (some ⟨sb, 0, none⟩) d.m d.m), (18, .slice (some ⟨ob, 0, none⟩) d.m d.m)] := H2.keep S3
  obtain ⟨w3, hw3⟩ : ∃ x, w2.setCell ⟨gp, 4, none⟩ (.int .u8 ((d.py / 256 : Nat) : Int)) = x := ⟨_, rfl⟩
  have o3 : Only gp w2 w3 := by rw [← hw3]; exact only_set gp 4 _ w2
  have r3 : w3.rowIs gp 5 40 (U (fun k => if k = 4 then d.py / 256 else if k = 0 then 96 else 0)) := by rw [← hw3]; exact U_set r2 (fun _ _ => rfl)
  rw [hw3]
  refine wp_seq (wp_use (f18 gp d.py _ w3 (r3.cell (by omega)) (r3.frozen 5) f3 H3.2.2.2.1 H3.1 _ ?_))
  intro f4  S4  
  have H4 : Has f4 [(20, .slice (some ⟨gp, 0, none⟩) 40 40), (0, .slice a0 d.m c0), (1, .int .u8 ((d.seed : Nat) : Int)), (2, .int .u16 ((d.py : Nat) : Int)), (3, .bool udp), (4, .slice a4 tl c4), (5, .int .u32 ((ct : Nat) : Int)), (6, .bool dc), (15, .int .u8 ((d.fi : Nat) : Int)), (16, .slice (some ⟨kb, 0, none⟩) d.m d.m), (17, .slice (some ⟨sb, 0, none⟩) d.m d.m), (18, .slice (some ⟨ob, 0, none⟩) d.m d.m)] := H3.keep S4
  obtain ⟨w4, hw4⟩ : ∃ x, w3.setCell ⟨gp, 5, none⟩ (.int .u8 ((d.py % 256 : Nat) : Int)) = x := ⟨_, rfl⟩
  have o4 : Only gp w3 w4 := by rw [← hw4]; exact only_set gp 5 _ w3
  have r4 : w4.rowIs gp 5 40 (U d.b0) := by rw [← hw4]; exact U_set r3 (fun _ _ => rfl)
  rw [hw4]
  have oo := (o2.trans o3).trans o4
  have s4 : w4.heap.size = gp + 1 := oo.size.trans sw1
  have b4 := below_only b1 (by omega) oo
  refine wp_seq (wp_use (f19 w4 f4  _ ?_))
  intro f5  S5 e5_21 
  have H5 : Has f5 [(21, .slice (some ⟨w4.heap.size, 0, none⟩) 16 16), (20, .slice (some ⟨gp, 0, none⟩) 40 40), (0, .slice a0 d.m c0), (1, .int .u8 ((d.seed : Nat) : Int)), (2, .int .u16 ((d.py : Nat) : Int)), (3, .bool udp), (4, .slice a4 tl c4), (5, .int .u32 ((ct : Nat) : Int)), (6, .bool dc), (15, .int .u8 ((d.fi : Nat) : Int)), (16, .slice (some ⟨kb, 0, none⟩) d.m d.m), (17, .slice (some ⟨sb, 0, none⟩) d.m d.m), (18, .slice (some ⟨ob, 0, none⟩) d.m d.m)] := ⟨e5_21, H4.keep S5⟩
  obtain ⟨rb, hrb⟩ : ∃ x, x = w4.heap.size := ⟨_, rfl⟩
  obtain ⟨w5, hw5⟩ : ∃ x, w4.alloc (.cells (madeCells #[.int .u8 0] 16) 5) = x := ⟨_, rfl⟩
  have sw5 : w5.heap.size = rb + 1 := by rw [← hw5, hrb]; simp
  have kw5 : ∀ b, b < rb → w5.heap[b]? = w4.heap[b]? := fun b hb' => by rw [← hw5]; exact Below.heap_alloc _ _ _ (by omega)
  have rw5 : w5.rowIs rb 5 16 (U (fun _ => 0)) := by rw [← hw5, hrb]; exact World.rowIs_made _ _ _ _
  rw [hw5]
  rw [← hrb] at H5
  refine wp_seq (wp_use (f20 w5 f5  _ ?_))
  intro f6  S6 e6_22 
  have H6 : Has f6 [(22, .slice (some ⟨w5.heap.size, 0, none⟩) 16 16), (21, .slice (some ⟨rb, 0, none⟩) 16 16), (20, .slice (some ⟨gp, 0, none⟩) 40 40), (0, .slice a0 d.m c0), (1, .int .u8 ((d.seed : Nat) : Int)), (2, .int .u16 ((d.py : Nat) : Int)), (3, .bool udp), (4, .slice a4 tl c4), (5, .int .u32 ((ct : Nat) : Int)), (6, .bool dc), (15, .int .u8 ((d.fi : Nat) : Int)), (16, .slice (some ⟨kb, 0, none⟩) d.m d.m), (17, .slice (some ⟨sb, 0, none⟩) d.m d.m), (18, .slice (some ⟨ob, 0, none⟩) d.m d.m)] := ⟨e6_22, H5.keep S6⟩
  obtain ⟨db, hdb⟩ : ∃ x, x = w5.heap.size := ⟨_, rfl⟩
  obtain ⟨w6, hw6⟩ : ∃ x, w5.alloc (.cells (madeCells #[.int .u8 0] 16) 5) = x := ⟨_, rfl⟩
  have sw6 : w6.heap.size = db + 1 := by rw [← hw6, hdb]; simp
  have kw6 : ∀ b, b < db → w6.heap[b]? = w5.heap[b]? := fun b hb' => by rw [← hw6]; exact Below.heap_alloc _ _ _ (by omega)
  have rw6 : w6.rowIs db 5 16 (U (fun _ => 0)) := by rw [← hw6, hdb]; exact World.rowIs_made _ _ _ _
  rw [hw6]
  rw [← hdb] at H6
  obtain rfl : rb = gp + 1 := by omega
  obtain rfl : db = gp + 2 := by omega
  have b6 : Below B w w6 := by rw [← hw6]; exact Below.alloc (by rw [← hw5]; exact b4.alloc (by omega) _) (by omega) _
  have kk : ∀ b, b < gp → w6.heap[b]? = wa.heap[b]? := fun b hb' => (kw6 b (by omega)).trans ((kw5 b (by omega)).trans ((oo.block b (by omega)).trans (kw1 b hb')))
  exact partB2 F d hd udp hu a0 xb xo c0 kb sb ob ha0 zp ea ce te B w w6 b6 (by omega) hBw hF hx hea hg0 hg3 a4 tb to tl c4 ha4 htl hT ct dc hct gp (hr3.keep ⟨by omega, by omega, by omega⟩ kk) ⟨by omega, by omega, by omega⟩ hdis hBo (by omega) (r4.of_block ((kw6 gp (by omega)).trans (kw5 gp (by omega)))) (rw5.of_block (kw6 _ (by omega))) rw6 f6 ⟨H6.2.2.2.1, H6.2.2.2.2.1, H6.2.2.2.2.2.1, H6.2.2.2.2.2.2.1, H6.2.2.2.2.2.2.2.1, H6.2.2.2.2.2.2.2.2.1, H6.2.2.2.2.2.2.2.2.2.1, H6.2.2.2.2.2.2.2.2.2.2.1, H6.2.2.2.2.2.2.2.2.2.2.2.1, H6.2.2.2.2.2.2.2.2.2.2.2.2.1, H6.2.2.2.2.2.2.2.2.2.2.2.2.2.1, H6.2.2.1, H6.2.1, H6.1, trivial⟩
set_option maxRecDepth 100000 in
set_option maxHeartbeats 1000000 in
theorem partA2 (F : Interp) (d : D) (hd : d.Ok) (udp : Bool) (hu : d.fi = if udp then 17 else 6) (a0 : Option Addr) (xb xo c0 kb sb ob : Nat) (ha0 : 0 < d.m → a0 = some ⟨xb, xo, none⟩) (zp : Option Addr) (ea : Addr) (ce : Array Value) (te : TypeId) (B : Nat) (w wa : World) (hb : Below B w wa) (hBs : B ≤ wa.heap.size) (hBw : w.heap.size ≤ B) (hF : F.answers w.tape)
    (hx : ∀ i, i < d.m → w.cell? ⟨xb, xo + i * 4, none⟩ = some (.int .u8 ((d.kd i : Nat) : Int)) ∧ w.cell? ⟨xb, xo + i * 4 + 1, none⟩ = some (.int .u8 ((d.L i : Nat) : Int)) ∧ w.cell? ⟨xb, xo + i * 4 + 2, none⟩ = some (.int .u16 ((d.Fr i : Nat) : Int)) ∧ w.cell? ⟨xb, xo + i * 4 + 3, none⟩ = some (.int .u8 ((d.Z i : Nat) : Int)))
    (hea : w.heap[ea.block]? = some (.cells ce te (0, 0))) (hg0 : w.cell? ⟨0, 0, none⟩ = some (.iface 108 (.pointer (some ea)))) (hg3 : w.cell? ⟨3, 0, none⟩ = some (.pointer zp))
    (a4 : Option Addr) (tb to tl c4 : Nat) (ha4 : 0 < tl → a4 = some ⟨tb, to, none⟩) (htl : tl ≤ 4096) (hT : ∀ k, k < tl → w.cell? ⟨tb, to + k, none⟩ = some (.int .u8 ((d.T k : Nat) : Int))) (ct : Nat) (dc : Bool) (hct : ct < 4294967296) (hrk : wa.rowIs kb 5 d.m (U (fun _ => 0))) (hrs : wa.rowIs sb 3 d.m (V (fun _ => 0))) (hro : wa.rowIs ob 3 d.m (V (fun _ => 0))) (hks : kb ≠ sb) (hdis : ob ≠ kb ∧ ob ≠ sb) (hBo : B ≤ ob) (hBk : B ≤ kb) (hBsb : B ≤ sb)
    (f : Nat → Value) (H : Has f [(0, .slice a0 d.m c0), (1, .int .u8 ((d.seed : Nat) : Int)), (2, .int .u16 ((d.py : Nat) : Int)), (3, .bool udp), (4, .slice a4 tl c4), (5, .int .u32 ((ct : Nat) : Int)), (6, .bool dc), (15, .int .u8 ((d.fi : Nat) : Int)), (16, .slice (some ⟨kb, 0, none⟩) d.m d.m), (17, .slice (some ⟨sb, 0, none⟩) d.m d.m), (18, .slice (some ⟨ob, 0, none⟩) d.m d.m)]) :
    Code.wp Ybaf.prog (dropC 7 l4) (bodyPost Ybaf.prog Ybaf.f4 fun e w' => e = .returned (.bool true) ∧ Below B w w') (F4 f) wa := by
  have cel : ∀ (x : World), Below B w x → ∀ b o v, w.cell? ⟨b, o, none⟩ = some v → x.cell? ⟨b, o, none⟩ = some v := fun x hx b o v hc => by
    rw [hx.cell (by have := World.block_lt_of_cell? w _ hc; exact Nat.lt_of_lt_of_le this hBw)]; exact hc
  rw [l4_7]
  refine wp_seq (wp_seq (wp_use (f9 a0 d.m c0 wa f H.1 _ ?_)))
  intro f1  S1 e1_60 e1_61 
  have H1 : Has f1 [(60, .int .i64 ((d.m : Nat) : Int)), (61, .int .i64 ((0 : Nat) : Int)), (0, .slice a0 d.m c0), (1, .int .u8 ((d.seed : Nat) : Int)), (2, .int .u16 ((d.py : Nat) : Int)), (3, .bool udp), (4, .slice a4 tl c4), (5, .int .u32 ((ct : Nat) : Int)), (6, .bool dc), (15, .int .u8 ((d.fi : Nat) : Int)), (16, .slice (some ⟨kb, 0, none⟩) d.m d.m), (17, .slice (some ⟨sb, 0, none⟩) d.m d.m), (18, .slice (some ⟨ob, 0, none⟩) d.m d.m)] := ⟨e1_60, e1_61, H.keep S1⟩
  refine wp_block (wp_loop (fun a wq => ∃ (q : Nat → Value) (i : Nat), a = F4 q ∧ i ≤ d.m ∧ Has q [(0, .slice a0 d.m c0), (1, .int .u8 ((d.seed : Nat) : Int)), (2, .int .u16 ((d.py : Nat) : Int)), (3, .bool udp), (4, .slice a4 tl c4), (5, .int .u32 ((ct : Nat) : Int)), (6, .bool dc), (15, .int .u8 ((d.fi : Nat) : Int)), (16, .slice (some ⟨kb, 0, none⟩) d.m d.m), (17, .slice (some ⟨sb, 0, none⟩) d.m d.m), (18, .slice (some ⟨ob, 0, none⟩) d.m d.m), (60, .int .i64 ((d.m : Nat) : Int)), (61, .int .i64 ((i : Nat) : Int))] ∧ Below B w wq ∧ B ≤ wq.heap.size ∧ wq.rowIs kb 5 d.m (U (fun k => if k < i then d.K k else 0)) ∧ wq.rowIs sb 3 d.m (V (fun k => if k < i then d.S k else 0)) ∧ wq.rowIs ob 3 d.m (V (fun _ => 0))) (fun a _ => d.m - (intOf (a.tmps.getD 61 undef)).toNat) ⟨f1, 0, rfl, Nat.zero_le _, ⟨H1.2.2.1, H1.2.2.2.1, H1.2.2.2.2.1, H1.2.2.2.2.2.1, H1.2.2.2.2.2.2.1, H1.2.2.2.2.2.2.2.1, H1.2.2.2.2.2.2.2.2.1, H1.2.2.2.2.2.2.2.2.2.1, H1.2.2.2.2.2.2.2.2.2.2.1, H1.2.2.2.2.2.2.2.2.2.2.2.1, H1.2.2.2.2.2.2.2.2.2.2.2.2.1, H1.1, H1.2.1, trivial⟩, hb, hBs, hrk, hrs, hro⟩ ?_)
  rintro a wq ⟨q, i, rfl, him, Q, hbq, hBq, g1, g2, g3⟩
  rw [l4a_eq]
  refine wp_seq (wp_use (f10 i d.m wq q Q.2.2.2.2.2.2.2.2.2.2.2.1 Q.2.2.2.2.2.2.2.2.2.2.2.2.1 _ ?_))
  intro f101  S101 e101_62 
  have H101 : Has f101 [(62, .bool (decide (i < d.m))), (0, .slice a0 d.m c0), (1, .int .u8 ((d.seed : Nat) : Int)), (2, .int .u16 ((d.py : Nat) : Int)), (3, .bool udp), (4, .slice a4 tl c4), (5, .int .u32 ((ct : Nat) : Int)), (6, .bool dc), (15, .int .u8 ((d.fi : Nat) : Int)), (16, .slice (some ⟨kb, 0, none⟩) d.m d.m), (17, .slice (some ⟨sb, 0, none⟩) d.m d.m), (18, .slice (some ⟨ob, 0, none⟩) d.m d.m), (60, .int .i64 ((d.m : Nat) : Int)), (61, .int .i64 ((i : Nat) : Int))] := ⟨e101_62, Q.keep S101⟩
  refine wp_seq (wp_cond (t := decide (i < d.m)) (ev rfl e101_62) ?_)
  by_cases hi : i < d.m
  · skip
    rw [decide_eq_true hi, if_pos rfl]
    refine wp_skip ?_
    obtain rfl := ha0 (by omega)
    obtain ⟨x0, x1, x2, x3⟩ := hx i hi
    refine wp_seq (wp_block ?_)
    refine wp_seq (wp_use (f11 i wq f101 H101.2.2.2.2.2.2.2.2.2.2.2.2.2.1 _ ?_))
    intro f102  S102 e102_19 
    have H102 : Has f102 [(19, .int .i64 ((i : Nat) : Int)), (62, .bool (decide (i < d.m))), (0, .slice (some ⟨xb, xo, none⟩) d.m c0), (1, .int .u8 ((d.seed : Nat) : Int)), (2, .int .u16 ((d.py : Nat) : Int)), (3, .bool udp), (4, .slice a4 tl c4), (5, .int .u32 ((ct : Nat) : Int)), (6, .bool dc), (15, .int .u8 ((d.fi : Nat) : Int)), (16, .slice (some ⟨kb, 0, none⟩) d.m d.m), (17, .slice (some ⟨sb, 0, none⟩) d.m d.m), (18, .slice (some ⟨ob, 0, none⟩) d.m d.m), (60, .int .i64 ((d.m : Nat) : Int)), (61, .int .i64 ((i : Nat) : Int))] := ⟨e102_19, H101.keep S102⟩
    refine wp_seq (wp_use (f12 xb xo d.m c0 kb i (d.kd i) _ wq hi (cel wq hbq _ _ _ x0) (g1.cell hi) (g1.frozen i) f102 H102.2.2.1 H102.2.2.2.2.2.2.2.2.2.2.1 H102.1 _ ?_))
    intro f103  S103  
    have H103 : Has f103 [(19, .int .i64 ((i : Nat) : Int)), (62, .bool (decide (i < d.m))), (0, .slice (some ⟨xb, xo, none⟩) d.m c0), (1, .int .u8 ((d.seed : Nat) : Int)), (2, .int .u16 ((d.py : Nat) : Int)), (3, .bool udp), (4, .slice a4 tl c4), (5, .int .u32 ((ct : Nat) : Int)), (6, .bool dc), (15, .int .u8 ((d.fi : Nat) : Int)), (16, .slice (some ⟨kb, 0, none⟩) d.m d.m), (17, .slice (some ⟨sb, 0, none⟩) d.m d.m), (18, .slice (some ⟨ob, 0, none⟩) d.m d.m), (60, .int .i64 ((d.m : Nat) : Int)), (61, .int .i64 ((i : Nat) : Int))] := H102.keep S103
    obtain ⟨w1, hw1⟩ : ∃ x, wq.setCell ⟨kb, i, none⟩ (.int .u8 ((knd (d.kd i) : Nat) : Int)) = x := ⟨_, rfl⟩
    have o1 : Only kb wq w1 := by rw [← hw1]; exact only_set kb i _ wq
    have r1 : w1.rowIs kb 5 d.m (U (fun k => if k < i + 1 then d.K k else 0)) := by
      rw [← hw1]
      refine U_set g1 (fun k hk => ?_)
      by_cases e : k = i
      · subst e; rw [if_pos rfl, if_pos (by omega)]; rfl
      · rw [if_neg e]
        by_cases e2 : k < i
        · rw [if_pos e2, if_pos (by omega)]
        · rw [if_neg e2, if_neg (by omega)]
    rw [hw1]
    have bb1 := below_only hbq hBk o1
    have z1 := g2.of_block (o1.block sb (Ne.symm hks))
    have q1 := g3.of_block (o1.block ob hdis.1)
    refine wp_use (f13 xb xo d.m c0 kb sb i (d.K i) (d.L i) _ w1 hi (by rw [r1.cell hi]; simp only [U]; rw [if_pos (by omega)]) (cel w1 bb1 _ _ _ x1) (hd.L i) (z1.cell hi) (z1.frozen i) f103 H103.2.2.1 H103.2.2.2.2.2.2.2.2.2.2.1 H103.2.2.2.2.2.2.2.2.2.2.2.1 H103.1 _ ?_)
    intro f104  S104  
    have H104 : Has f104 [(19, .int .i64 ((i : Nat) : Int)), (62, .bool (decide (i < d.m))), (0, .slice (some ⟨xb, xo, none⟩) d.m c0), (1, .int .u8 ((d.seed : Nat) : Int)), (2, .int .u16 ((d.py : Nat) : Int)), (3, .bool udp), (4, .slice a4 tl c4), (5, .int .u32 ((ct : Nat) : Int)), (6, .bool dc), (15, .int .u8 ((d.fi : Nat) : Int)), (16, .slice (some ⟨kb, 0, none⟩) d.m d.m), (17, .slice (some ⟨sb, 0, none⟩) d.m d.m), (18, .slice (some ⟨ob, 0, none⟩) d.m d.m), (60, .int .i64 ((d.m : Nat) : Int)), (61, .int .i64 ((i : Nat) : Int))] := H103.keep S104
    obtain ⟨w2, hw2⟩ : ∃ x, w1.drew.setCell ⟨sb, i, none⟩ (.int .i64 ((siz (d.K i) (d.L i) : Nat) : Int)) = x := ⟨_, rfl⟩
    have o2 : Only sb w1 w2 := by rw [← hw2]; exact only_drew (only_set sb i _ w1.drew)
    have z2 : w2.rowIs sb 3 d.m (V (fun k => if k < i + 1 then d.S k else 0)) := by
      rw [← hw2]
      refine V_set z1.drew (fun k hk => ?_)
      by_cases e : k = i
      · subst e; rw [if_pos rfl, if_pos (by omega)]; rfl
      · rw [if_neg e]
        by_cases e2 : k < i
        · rw [if_pos e2, if_pos (by omega)]
        · rw [if_neg e2, if_neg (by omega)]
    rw [hw2]
    have bb2 := below_only bb1 hBsb o2
    show Code.wp _ _ _ _ _
    refine wp_use (f14 i d.m w2 hi hd.m f104 H104.2.2.2.2.2.2.2.2.2.2.2.2.2.2.1 _ ?_)
    intro f105  S105 e105_61 
    have H105 : Has f105 [(61, .int .i64 ((i + 1 : Nat) : Int)), (19, .int .i64 ((i : Nat) : Int)), (62, .bool (decide (i < d.m))), (0, .slice (some ⟨xb, xo, none⟩) d.m c0), (1, .int .u8 ((d.seed : Nat) : Int)), (2, .int .u16 ((d.py : Nat) : Int)), (3, .bool udp), (4, .slice a4 tl c4), (5, .int .u32 ((ct : Nat) : Int)), (6, .bool dc), (15, .int .u8 ((d.fi : Nat) : Int)), (16, .slice (some ⟨kb, 0, none⟩) d.m d.m), (17, .slice (some ⟨sb, 0, none⟩) d.m d.m), (18, .slice (some ⟨ob, 0, none⟩) d.m d.m), (60, .int .i64 ((d.m : Nat) : Int))] := ⟨e105_61, H104.keep S105⟩
    refine ⟨⟨_, i + 1, rfl, hi, ⟨H105.2.2.2.1, H105.2.2.2.2.1, H105.2.2.2.2.2.1, H105.2.2.2.2.2.2.1, H105.2.2.2.2.2.2.2.1, H105.2.2.2.2.2.2.2.2.1, H105.2.2.2.2.2.2.2.2.2.1, H105.2.2.2.2.2.2.2.2.2.2.1, H105.2.2.2.2.2.2.2.2.2.2.2.1, H105.2.2.2.2.2.2.2.2.2.2.2.2.1, H105.2.2.2.2.2.2.2.2.2.2.2.2.2.1, H105.2.2.2.2.2.2.2.2.2.2.2.2.2.2.1, H105.1, trivial⟩, bb2, by rw [o2.size, o1.size]; exact hBq, r1.of_block (o2.block kb hks), z2, q1.of_block (o2.block ob hdis.2)⟩, ?_⟩
    show d.m - (intOf ((F4 f105).tmps.getD 61 undef)).toNat < d.m - (intOf ((F4 q).tmps.getD 61 undef)).toNat
    rw [evG (N := 422) rfl e105_61, evG (N := 422) rfl Q.2.2.2.2.2.2.2.2.2.2.2.2.1]
    simp only [intOf]
    omega
  · skip
    rw [decide_eq_false hi, if_neg Bool.false_ne_true]
    refine wp_exit ?_
    simp only [Exit.inBlock, Exit.then, if_true]
    obtain rfl : i = d.m := by omega
    exact partB1 F d hd udp hu a0 xb xo c0 kb sb ob ha0 zp ea ce te B w wq hbq hBq hBw hF hx hea hg0 hg3 a4 tb to tl c4 ha4 htl hT ct dc hct ⟨g1.congr (fun k hk => by simp only [U]; rw [if_pos hk]), g2.congr (fun k hk => by simp only [V]; rw [if_pos hk]), g3⟩ hdis hBo f101 ⟨H101.2.1, H101.2.2.1, H101.2.2.2.1, H101.2.2.2.2.1, H101.2.2.2.2.2.1, H101.2.2.2.2.2.2.1, H101.2.2.2.2.2.2.2.1, H101.2.2.2.2.2.2.2.2.1, H101.2.2.2.2.2.2.2.2.2.1, H101.2.2.2.2.2.2.2.2.2.2.1, H101.2.2.2.2.2.2.2.2.2.2.2.1, trivial⟩
set_option maxRecDepth 100000 in
set_option maxHeartbeats 1000000 in
theorem partA1 (F : Interp) (d : D) (hd : d.Ok) (udp : Bool) (hu : d.fi = if udp then 17 else 6) (a0 : Option Addr) (xb xo c0 _n : Nat) (ha0 : 0 < d.m → a0 = some ⟨xb, xo, none⟩) (zp : Option Addr) (ea : Addr) (ce : Array Value) (te : TypeId) (B : Nat) (w wa : World) (hb : Below B w wa) (hBs : B ≤ wa.heap.size) (hBw : w.heap.size ≤ B) (hF : F.answers w.tape)
    (hx : ∀ i, i < d.m → w.cell? ⟨xb, xo + i * 4, none⟩ = some (.int .u8 ((d.kd i : Nat) : Int)) ∧ w.cell? ⟨xb, xo + i * 4 + 1, none⟩ = some (.int .u8 ((d.L i : Nat) : Int)) ∧ w.cell? ⟨xb, xo + i * 4 + 2, none⟩ = some (.int .u16 ((d.Fr i : Nat) : Int)) ∧ w.cell? ⟨xb, xo + i * 4 + 3, none⟩ = some (.int .u8 ((d.Z i : Nat) : Int)))
    (hea : w.heap[ea.block]? = some (.cells ce te (0, 0))) (hg0 : w.cell? ⟨0, 0, none⟩ = some (.iface 108 (.pointer (some ea)))) (hg3 : w.cell? ⟨3, 0, none⟩ = some (.pointer zp))
    (a4 : Option Addr) (tb to tl c4 : Nat) (ha4 : 0 < tl → a4 = some ⟨tb, to, none⟩) (htl : tl ≤ 4096) (hT : ∀ k, k < tl → w.cell? ⟨tb, to + k, none⟩ = some (.int .u8 ((d.T k : Nat) : Int))) (ct : Nat) (dc : Bool) (hct : ct < 4294967296)
    (f : Nat → Value) (H : Has f [(0, .slice a0 d.m c0), (1, .int .u8 ((d.seed : Nat) : Int)), (2, .int .u16 ((d.py : Nat) : Int)), (3, .bool udp), (4, .slice a4 tl c4), (5, .int .u32 ((ct : Nat) : Int)), (6, .bool dc)]) :
    Code.wp Ybaf.prog (dropC 2 l4) (bodyPost Ybaf.prog Ybaf.f4 fun e w' => e = .returned (.bool true) ∧ Below B w w') (F4 f) wa := by
  have hm256 := hd.m
  rw [l4_2]
  refine wp_seq (wp_use (f3 wa f  _ ?_))
  intro f1  S1 e1_15 
  have H1 : Has f1 [(15, .int .u8 ((6 : Nat) : Int)), (0, .slice a0 d.m c0), (1, .int .u8 ((d.seed : Nat) : Int)), (2, .int .u16 ((d.py : Nat) : Int)), (3, .bool udp), (4, .slice a4 tl c4), (5, .int .u32 ((ct : Nat) : Int)), (6, .bool dc)] := ⟨e1_15, H.keep S1⟩
  refine wp_join (fun a w' => w' = wa ∧ ∃ f', a = F4 f' ∧ Has f' [(15, .int .u8 ((d.fi : Nat) : Int)), (0, .slice a0 d.m c0), (1, .int .u8 ((d.seed : Nat) : Int)), (2, .int .u16 ((d.py : Nat) : Int)), (3, .bool udp), (4, .slice a4 tl c4), (5, .int .u32 ((ct : Nat) : Int)), (6, .bool dc)]) ?_ ?_
  · skip
    refine wp_seq (wp_use (f4 udp wa f1 H1.2.2.2.2.1 _ ?_))
    intro f2  S2 e2_49 
    have H2 : Has f2 [(49, .bool udp), (15, .int .u8 ((6 : Nat) : Int)), (0, .slice a0 d.m c0), (1, .int .u8 ((d.seed : Nat) : Int)), (2, .int .u16 ((d.py : Nat) : Int)), (3, .bool udp), (4, .slice a4 tl c4), (5, .int .u32 ((ct : Nat) : Int)), (6, .bool dc)] := ⟨e2_49, H1.keep S2⟩
    refine wp_cond (t := udp) (ev rfl e2_49) ?_
    cases udp with
    | true =>
      rw [if_pos rfl]
      refine wp_use (f5 wa f2  _ ?_)
      intro f3  S3 e3_15 
      have H3 : Has f3 [(15, .int .u8 ((17 : Nat) : Int)), (49, .bool true), (0, .slice a0 d.m c0), (1, .int .u8 ((d.seed : Nat) : Int)), (2, .int .u16 ((d.py : Nat) : Int)), (3, .bool true), (4, .slice a4 tl c4), (5, .int .u32 ((ct : Nat) : Int)), (6, .bool dc)] := ⟨e3_15, H2.keep S3⟩
      exact ⟨rfl, _, rfl, (by rw [hu]; exact H3.1), H3.2.2.1, H3.2.2.2.1, H3.2.2.2.2.1, H3.2.2.2.2.2.1, H3.2.2.2.2.2.2.1, H3.2.2.2.2.2.2.2.1, H3.2.2.2.2.2.2.2.2.1, trivial⟩
    | false =>
      rw [if_neg Bool.false_ne_true]
      refine wp_skip ?_
      exact ⟨rfl, _, rfl, (by rw [hu]; exact H2.2.1), H2.2.2.1, H2.2.2.2.1, H2.2.2.2.2.1, H2.2.2.2.2.2.1, H2.2.2.2.2.2.2.1, H2.2.2.2.2.2.2.2.1, H2.2.2.2.2.2.2.2.2.1, trivial⟩
  · skip
    rintro a wa' ⟨rfl, p, rfl, Hp⟩
    refine wp_seq (wp_use (f6 a0 d.m c0 wa' hm256 p Hp.2.1 _ ?_))
    intro f21  S21 e21_16 
    have H21 : Has f21 [(16, .slice (some ⟨wa'.heap.size, 0, none⟩) d.m d.m), (15, .int .u8 ((d.fi : Nat) : Int)), (0, .slice a0 d.m c0), (1, .int .u8 ((d.seed : Nat) : Int)), (2, .int .u16 ((d.py : Nat) : Int)), (3, .bool udp), (4, .slice a4 tl c4), (5, .int .u32 ((ct : Nat) : Int)), (6, .bool dc)] := ⟨e21_16, Hp.keep S21⟩
    obtain ⟨kb, hkb⟩ : ∃ x, x = wa'.heap.size := ⟨_, rfl⟩
    obtain ⟨w1, hw1⟩ : ∃ x, wa'.alloc (.cells (madeCells #[.int .u8 0] d.m) 5) = x := ⟨_, rfl⟩
    have sw1 : w1.heap.size = kb + 1 := by rw [← hw1, hkb]; simp
    have kw1 : ∀ b, b < kb → w1.heap[b]? = wa'.heap[b]? := fun b hb' => by rw [← hw1]; exact Below.heap_alloc _ _ _ (by omega)
    have rw1 : w1.rowIs kb 5 d.m (U (fun _ => 0)) := by rw [← hw1, hkb]; exact World.rowIs_made _ _ _ _
    rw [hw1]
    rw [← hkb] at H21
    refine wp_seq (wp_use (f7 a0 d.m c0 w1 hm256 f21 H21.2.2.1 _ ?_))
    intro f22  S22 e22_17 
    have H22 : Has f22 [(17, .slice (some ⟨w1.heap.size, 0, none⟩) d.m d.m), (16, .slice (some ⟨kb, 0, none⟩) d.m d.m), (15, .int .u8 ((d.fi : Nat) : Int)), (0, .slice a0 d.m c0), (1, .int .u8 ((d.seed : Nat) : Int)), (2, .int .u16 ((d.py : Nat) : Int)), (3, .bool udp), (4, .slice a4 tl c4), (5, .int .u32 ((ct : Nat) : Int)), (6, .bool dc)] := ⟨e22_17, H21.keep S22⟩
    obtain ⟨sb, hsb⟩ : ∃ x, x = w1.heap.size := ⟨_, rfl⟩
    obtain ⟨w2, hw2⟩ : ∃ x, w1.alloc (.cells (madeCells #[.int .i64 0] d.m) 3) = x := ⟨_, rfl⟩
    have sw2 : w2.heap.size = sb + 1 := by rw [← hw2, hsb]; simp
    have kw2 : ∀ b, b < sb → w2.heap[b]? = w1.heap[b]? := fun b hb' => by rw [← hw2]; exact Below.heap_alloc _ _ _ (by omega)
    have rw2 : w2.rowIs sb 3 d.m (V (fun _ => 0)) := by rw [← hw2, hsb]; exact World.rowIs_made _ _ _ _
    rw [hw2]
    rw [← hsb] at H22
    refine wp_seq (wp_use (f8 a0 d.m c0 w2 hm256 f22 H22.2.2.2.1 _ ?_))
    intro f23  S23 e23_18 
    have H23 : Has f23 [(18, .slice (some ⟨w2.heap.size, 0, none⟩) d.m d.m), (17, .slice (some ⟨sb, 0, none⟩) d.m d.m), (16, .slice (some ⟨kb, 0, none⟩) d.m d.m), (15, .int .u8 ((d.fi : Nat) : Int)), (0, .slice a0 d.m c0), (1, .int .u8 ((d.seed : Nat) : Int)), (2, .int .u16 ((d.py : Nat) : Int)), (3, .bool udp), (4, .slice a4 tl c4), (5, .int .u32 ((ct : Nat) : Int)), (6, .bool dc)] := ⟨e23_18, H22.keep S23⟩
    obtain ⟨ob, hob⟩ : ∃ x, x = w2.heap.size := ⟨_, rfl⟩
    obtain ⟨w3, hw3⟩ : ∃ x, w2.alloc (.cells (madeCells #[.int .i64 0] d.m) 3) = x := ⟨_, rfl⟩
    have sw3 : w3.heap.size = ob + 1 := by rw [← hw3, hob]; simp
    have kw3 : ∀ b, b < ob → w3.heap[b]? = w2.heap[b]? := fun b hb' => by rw [← hw3]; exact Below.heap_alloc _ _ _ (by omega)
    have rw3 : w3.rowIs ob 3 d.m (V (fun _ => 0)) := by rw [← hw3, hob]; exact World.rowIs_made _ _ _ _
    rw [hw3]
    rw [← hob] at H23
    have b1 : Below B w w1 := by rw [← hw1]; exact hb.alloc hBs _
    have b2 : Below B w w2 := by rw [← hw2]; exact b1.alloc (by omega) _
    have b3 : Below B w w3 := by rw [← hw3]; exact b2.alloc (by omega) _
    exact partA2 F d hd udp hu a0 xb xo c0 kb sb ob ha0 zp ea ce te B w w3 b3 (by omega) hBw hF hx hea hg0 hg3 a4 tb to tl c4 ha4 htl hT ct dc hct (rw1.of_block ((kw3 kb (by omega)).trans (kw2 kb (by omega)))) (rw2.of_block (kw3 sb (by omega))) rw3 (by omega) ⟨by omega, by omega⟩ (by omega) (by omega) (by omega) f23 ⟨H23.2.2.2.2.1, H23.2.2.2.2.2.1, H23.2.2.2.2.2.2.1, H23.2.2.2.2.2.2.2.1, H23.2.2.2.2.2.2.2.2.1, H23.2.2.2.2.2.2.2.2.2.1, H23.2.2.2.2.2.2.2.2.2.2.1, H23.2.2.2.1, H23.2.2.1, H23.2.1, H23.1, trivial⟩
end Go.Proofs.YbulkblsgFmt

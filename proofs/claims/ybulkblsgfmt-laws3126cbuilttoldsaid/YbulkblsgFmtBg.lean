import Derived.Test.YbulkblsgFmtBf
namespace Go.Proofs.YbulkblsgFmt
open Go.RowKit Go.Extern.Stop Go.Stop Go.Extern
set_option linter.unusedVariables false
set_option linter.unusedSimpArgs false
structure Mem (d : D) (xb xo kb ob rb db : Nat) (wa : World) : Prop where
  fr : ∀ i, i < d.m → wa.cell? ⟨xb, xo + i * 4 + 2, none⟩ = some (.int .u16 ((d.Fr i : Nat) : Int))
  k : ∀ i, i < d.m → wa.cell? ⟨kb, i, none⟩ = some (.int .u8 ((d.K i : Nat) : Int))
  o : ∀ i, i < d.m → wa.cell? ⟨ob, i, none⟩ = some (.int .i64 ((d.O i : Nat) : Int))
  s : ∀ k, k < 16 → wa.cell? ⟨rb, k, none⟩ = some (.int .u8 ((d.C (8 + k) : Nat) : Int))
  d : ∀ k, k < 16 → wa.cell? ⟨db, k, none⟩ = some (.int .u8 ((d.C (24 + k) : Nat) : Int))
theorem Mem.grow {d : D} {xb xo kb ob rb db gp : Nat} {wa wy : World} (h : Mem d xb xo kb ob rb db wa) (hx : 0 < d.m → xb ≠ gp) (hk : kb ≠ gp) (ho : ob ≠ gp) (hr : rb ≠ gp) (hd : db ≠ gp) (e : ∀ b, b < wa.heap.size → b ≠ gp → wy.heap[b]? = wa.heap[b]?) : Mem d xb xo kb ob rb db wy := by
  have cc : ∀ (b o : Nat) (v : Value), b ≠ gp → wa.cell? ⟨b, o, none⟩ = some v → wy.cell? ⟨b, o, none⟩ = some v := fun b o v hb hc => by
    rw [World.cell?_of_block (w := wa) (e b (World.block_lt_of_cell? wa _ hc) hb)]; exact hc
  exact ⟨fun i hi => cc _ _ _ (hx (by omega)) (h.fr i hi), fun i hi => cc _ _ _ hk (h.k i hi), fun i hi => cc _ _ _ ho (h.o i hi), fun i hi => cc _ _ _ hr (h.s i hi), fun i hi => cc _ _ _ hd (h.d i hi)⟩
theorem Mem.below {d : D} {xb xo kb ob rb db : Nat} {wa wy : World} (h : Mem d xb xo kb ob rb db wa) (e : ∀ b, b < wa.heap.size → wy.heap[b]? = wa.heap[b]?) : Mem d xb xo kb ob rb db wy := by
  have cc : ∀ (b o : Nat) (v : Value), wa.cell? ⟨b, o, none⟩ = some v → wy.cell? ⟨b, o, none⟩ = some v := fun b o v hc => by
    rw [World.cell?_of_block (w := wa) (e b (World.block_lt_of_cell? wa _ hc))]; exact hc
  exact ⟨fun i hi => cc _ _ _ (h.fr i hi), fun i hi => cc _ _ _ (h.k i hi), fun i hi => cc _ _ _ (h.o i hi), fun i hi => cc _ _ _ (h.s i hi), fun i hi => cc _ _ _ (h.d i hi)⟩
theorem own_cells {w : World} {base g n cap : Nat} {X : Nat → Nat} (h : w.ownsRow base 5 1 (.slice (some ⟨g, 0, none⟩) n cap) n (byt X n)) (hn : 0 < n) : (∀ k, k < n → w.cell? ⟨g, k, none⟩ = some (.int .u8 ((X k : Nat) : Int))) ∧ n ≤ cap ∧ base ≤ g ∧ g < w.heap.size := by
  obtain ⟨h1, ⟨h2, h3⟩ | ⟨g', cap', cur, hv, hb, hh, hc, hm, hs, ht⟩⟩ := h
  · omega
  · injection hv with e1 e2 e3
    injection e1 with e1
    injection e1 with e1
    subst e1; subst e3
    refine ⟨fun k hk => ?_, hc, hb, (Array.getElem?_eq_some_iff.1 hh).1⟩
    have e := byt_at X n k hk
    rw [← ht, List.getElem?_take, if_pos (by omega)] at e
    rw [cell_of_row w g k cur 5 (0, 0) hh]
    simpa using e
theorem l4_19 : dropC 19 l4 = (headC (dropC 19 l4)).seq ((headC (dropC 20 l4)).seq (dropC 21 l4)) := by kernel_rfl
theorem l4_21 : dropC 21 l4 = (headC (dropC 21 l4)).seq (((headC (headC (dropC 22 l4))).seq (Code.cond (.tmp 222) (thnC (tailC (headC (dropC 22 l4)))) .skip)).seq ((headC (dropC 23 l4)).seq (dropC 24 l4))) := by kernel_rfl
set_option maxRecDepth 100000 in
set_option maxHeartbeats 1000000 in
theorem partE (F : Interp) (d : D) (hd : d.Ok) (udp : Bool) (hu : d.fi = if udp then 17 else 6) (a0 : Option Addr) (xb xo c0 kb ob rb db gp n cap : Nat) (ha0 : 0 < d.m → a0 = some ⟨xb, xo, none⟩) (zp : Option Addr) (ea : Addr) (ce : Array Value) (te : TypeId) (B : Nat) (w wa : World) (hb : Below B w wa) (hBs : B ≤ wa.heap.size) (hF : F.answers wa.tape) (hm : Mem d xb xo kb ob rb db wa)
    (hea : wa.heap[ea.block]? = some (.cells ce te (0, 0))) (hg0 : wa.cell? ⟨0, 0, none⟩ = some (.iface 108 (.pointer (some ea)))) (hg3 : wa.cell? ⟨3, 0, none⟩ = some (.pointer zp)) (l : Nat) (hl : l ≤ n) (hC : ∀ k, k < n → wa.cell? ⟨gp, k, none⟩ = some (.int .u8 ((d.C k : Nat) : Int))) (hn : n ≤ 1000000) (hcap : n ≤ cap) (hOm : d.O d.m ≤ n)
    (f : Nat → Value) (H : Has f [(0, .slice a0 d.m c0), (2, .int .u16 ((d.py : Nat) : Int)), (3, .bool udp), (16, .slice (some ⟨kb, 0, none⟩) d.m d.m), (18, .slice (some ⟨ob, 0, none⟩) d.m d.m), (20, .slice (some ⟨gp, 0, none⟩) n cap), (21, .slice (some ⟨rb, 0, none⟩) 16 16), (22, .slice (some ⟨db, 0, none⟩) 16 16), (30, .int .i64 ((d.O d.m : Nat) : Int)), (31, .int .i64 ((l : Nat) : Int)), (32, .slice (some ⟨gp, 0, none⟩) l cap)]) :
    Code.wp Ybaf.prog (dropC 24 l4) (bodyPost Ybaf.prog Ybaf.f4 fun e w' => e = .returned (.bool true) ∧ Below B w w') (F4 f) wa := by
  have hbad : l < 40 ∨ ¬ l < 40 := by omega
  rw [l4_24]
  refine wp_seq (wp_use (f59 F gp l cap d.C zp (.iface 108 (.pointer (some ea))) wa hF (fun k hk => ⟨by rw [Nat.zero_add]; exact hC k (by omega), D.C_le hd k⟩) (by omega) (by omega) hg0 hg3 f H.2.2.2.2.2.2.2.2.2.2.1 _ ?_))
  intro f1 NP ok er pk wy S1 e1_33 e1_34 e1_35 hres bwy hNP hp
  have H1 : Has f1 [(33, .pointer (some ⟨NP, 0, none⟩)), (34, .bool ok), (35, er), (0, .slice a0 d.m c0), (2, .int .u16 ((d.py : Nat) : Int)), (3, .bool udp), (16, .slice (some ⟨kb, 0, none⟩) d.m d.m), (18, .slice (some ⟨ob, 0, none⟩) d.m d.m), (20, .slice (some ⟨gp, 0, none⟩) n cap), (21, .slice (some ⟨rb, 0, none⟩) 16 16), (22, .slice (some ⟨db, 0, none⟩) 16 16), (30, .int .i64 ((d.O d.m : Nat) : Int)), (31, .int .i64 ((l : Nat) : Int)), (32, .slice (some ⟨gp, 0, none⟩) l cap)] := ⟨e1_33, e1_34, e1_35, H.keep S1⟩
  have bW : Below B w wy := hb.trans (below_le bwy hBs)
  have hBy : B ≤ wy.heap.size := by have := bwy.size; omega
  have lea : ea.block < wa.heap.size := (Array.getElem?_eq_some_iff.1 hea).1
  have heay : wy.heap[ea.block]? = some (.cells ce te (0, 0)) := by rw [bwy.block _ lea]; exact hea
  have hg0y : wy.cell? ⟨0, 0, none⟩ = some (.iface 108 (.pointer (some ea))) := by rw [bwy.cell (World.block_lt_of_cell? wa _ hg0)]; exact hg0
  have hmy : Mem d xb xo kb ob rb db wy := hm.below bwy.block
  refine wp_seq (wp_seq (wp_use (f60 l wy f1 H1.2.2.2.2.2.2.2.2.2.2.2.2.1 _ ?_)))
  intro f2  S2 e2_241 
  have H2 : Has f2 [(241, .bool (decide (l < 40))), (33, .pointer (some ⟨NP, 0, none⟩)), (34, .bool ok), (35, er), (0, .slice a0 d.m c0), (2, .int .u16 ((d.py : Nat) : Int)), (3, .bool udp), (16, .slice (some ⟨kb, 0, none⟩) d.m d.m), (18, .slice (some ⟨ob, 0, none⟩) d.m d.m), (20, .slice (some ⟨gp, 0, none⟩) n cap), (21, .slice (some ⟨rb, 0, none⟩) 16 16), (22, .slice (some ⟨db, 0, none⟩) 16 16), (30, .int .i64 ((d.O d.m : Nat) : Int)), (31, .int .i64 ((l : Nat) : Int)), (32, .slice (some ⟨gp, 0, none⟩) l cap)] := ⟨e2_241, H1.keep S2⟩
  refine wp_cond (t := decide (l < 40)) (ev rfl e2_241) ?_
  by_cases h40 : l < 40
  · skip
    rw [decide_eq_true h40, if_pos rfl]
    rw [Res, if_pos (Or.inl h40)] at hres
    obtain ⟨rfl, rfl, bb, cs, ts, rfl, hb1, hb2⟩ := hres
    refine wp_seq (wp_use (f61 NP wy ea bb cs ce ts te hb2 heay (fun e => by rw [← e] at lea; exact absurd lea (by show ¬ bb < wa.heap.size; omega)) hg0y hp f2 H2.2.1 H2.2.2.1 H2.2.2.2.1 _ ?_))
    intro f3 wz S3 e3_14 bz
    have H3 : Has f3 [(14, .bool true), (241, .bool (decide (l < 40))), (33, .pointer (some ⟨NP, 0, none⟩)), (34, .bool false), (35, .iface 108 (.pointer (some ⟨bb, 0, none⟩))), (0, .slice a0 d.m c0), (2, .int .u16 ((d.py : Nat) : Int)), (3, .bool udp), (16, .slice (some ⟨kb, 0, none⟩) d.m d.m), (18, .slice (some ⟨ob, 0, none⟩) d.m d.m), (20, .slice (some ⟨gp, 0, none⟩) n cap), (21, .slice (some ⟨rb, 0, none⟩) 16 16), (22, .slice (some ⟨db, 0, none⟩) 16 16), (30, .int .i64 ((d.O d.m : Nat) : Int)), (31, .int .i64 ((l : Nat) : Int)), (32, .slice (some ⟨gp, 0, none⟩) l cap)] := ⟨e3_14, H2.keep S3⟩
    exact wp_ret (ret4 e3_14 (bW.trans (below_le bz hBy)))
  · skip
    rw [decide_eq_false h40, if_neg Bool.false_ne_true]
    refine wp_skip ?_
    exact partE2 d hd udp hu a0 xb xo c0 kb ob rb db gp n cap l NP ha0 zp ea ce te wa.heap.size ok er pk B w wy bW hBy hmy.fr hmy.k hmy.o hmy.s hmy.d (fun k hk => by rw [bwy.cell (World.block_lt_of_cell? wa _ (hC k hk))]; exact hC k hk) hl hn hcap hOm heay lea hg0y hp h40 hres f2 ⟨H2.2.2.2.2.1, H2.2.2.2.2.2.1, H2.2.2.2.2.2.2.1, H2.2.2.2.2.2.2.2.1, H2.2.2.2.2.2.2.2.2.1, H2.2.2.2.2.2.2.2.2.2.1, H2.2.2.2.2.2.2.2.2.2.2.1, H2.2.2.2.2.2.2.2.2.2.2.2.1, H2.2.2.2.2.2.2.2.2.2.2.2.2.1, H2.2.2.2.2.2.2.2.2.2.2.2.2.2.1, H2.2.1, H2.2.2.1, H2.2.2.2.1, trivial⟩
set_option maxRecDepth 100000 in
set_option maxHeartbeats 1000000 in
theorem partD2 (F : Interp) (d : D) (hd : d.Ok) (udp : Bool) (hu : d.fi = if udp then 17 else 6) (a0 : Option Addr) (xb xo c0 kb ob rb db gp n cap : Nat) (ha0 : 0 < d.m → a0 = some ⟨xb, xo, none⟩) (zp : Option Addr) (ea : Addr) (ce : Array Value) (te : TypeId) (B : Nat) (w wa : World) (hb : Below B w wa) (hBs : B ≤ wa.heap.size) (hF : F.answers wa.tape) (hm : Mem d xb xo kb ob rb db wa)
    (hea : wa.heap[ea.block]? = some (.cells ce te (0, 0))) (hg0 : wa.cell? ⟨0, 0, none⟩ = some (.iface 108 (.pointer (some ea)))) (hg3 : wa.cell? ⟨3, 0, none⟩ = some (.pointer zp)) (ct : Nat) (dc : Bool) (hct : ct < 4294967296) (hC : ∀ k, k < n → wa.cell? ⟨gp, k, none⟩ = some (.int .u8 ((d.C k : Nat) : Int))) (hn : n ≤ 1000000) (hcap : n ≤ cap) (hOm : d.O d.m ≤ n)
    (f : Nat → Value) (H : Has f [(0, .slice a0 d.m c0), (2, .int .u16 ((d.py : Nat) : Int)), (3, .bool udp), (5, .int .u32 ((ct : Nat) : Int)), (6, .bool dc), (16, .slice (some ⟨kb, 0, none⟩) d.m d.m), (18, .slice (some ⟨ob, 0, none⟩) d.m d.m), (20, .slice (some ⟨gp, 0, none⟩) n cap), (21, .slice (some ⟨rb, 0, none⟩) 16 16), (22, .slice (some ⟨db, 0, none⟩) 16 16), (30, .int .i64 ((d.O d.m : Nat) : Int))]) :
    Code.wp Ybaf.prog (dropC 21 l4) (bodyPost Ybaf.prog Ybaf.f4 fun e w' => e = .returned (.bool true) ∧ Below B w w') (F4 f) wa := by
  rw [l4_21]
  refine wp_seq (wp_use (f55 gp n cap wa f H.2.2.2.2.2.2.2.1 _ ?_))
  intro f1  S1 e1_31 
  have H1 : Has f1 [(31, .int .i64 ((n : Nat) : Int)), (0, .slice a0 d.m c0), (2, .int .u16 ((d.py : Nat) : Int)), (3, .bool udp), (5, .int .u32 ((ct : Nat) : Int)), (6, .bool dc), (16, .slice (some ⟨kb, 0, none⟩) d.m d.m), (18, .slice (some ⟨ob, 0, none⟩) d.m d.m), (20, .slice (some ⟨gp, 0, none⟩) n cap), (21, .slice (some ⟨rb, 0, none⟩) 16 16), (22, .slice (some ⟨db, 0, none⟩) 16 16), (30, .int .i64 ((d.O d.m : Nat) : Int))] := ⟨e1_31, H.keep S1⟩
  refine wp_join (fun a w' => w' = wa ∧ ∃ f' l, a = F4 f' ∧ l ≤ n ∧ Has f' [(31, .int .i64 ((l : Nat) : Int)), (0, .slice a0 d.m c0), (2, .int .u16 ((d.py : Nat) : Int)), (3, .bool udp), (5, .int .u32 ((ct : Nat) : Int)), (6, .bool dc), (16, .slice (some ⟨kb, 0, none⟩) d.m d.m), (18, .slice (some ⟨ob, 0, none⟩) d.m d.m), (20, .slice (some ⟨gp, 0, none⟩) n cap), (21, .slice (some ⟨rb, 0, none⟩) 16 16), (22, .slice (some ⟨db, 0, none⟩) 16 16), (30, .int .i64 ((d.O d.m : Nat) : Int))]) ?_ ?_
  · skip
    refine wp_seq (wp_use (f56 dc wa f1 H1.2.2.2.2.2.1 _ ?_))
    intro f2  S2 e2_222 
    have H2 : Has f2 [(222, .bool dc), (31, .int .i64 ((n : Nat) : Int)), (0, .slice a0 d.m c0), (2, .int .u16 ((d.py : Nat) : Int)), (3, .bool udp), (5, .int .u32 ((ct : Nat) : Int)), (6, .bool dc), (16, .slice (some ⟨kb, 0, none⟩) d.m d.m), (18, .slice (some ⟨ob, 0, none⟩) d.m d.m), (20, .slice (some ⟨gp, 0, none⟩) n cap), (21, .slice (some ⟨rb, 0, none⟩) 16 16), (22, .slice (some ⟨db, 0, none⟩) 16 16), (30, .int .i64 ((d.O d.m : Nat) : Int))] := ⟨e2_222, H1.keep S2⟩
    refine wp_cond (t := dc) (ev rfl e2_222) ?_
    cases dc with
    | true =>
      rw [if_pos rfl]
      refine wp_use (f57 n ct wa hn hct f2 H2.2.2.2.2.2.1 H2.2.1 _ ?_)
      intro f3  S3 e3_31 
      have H3 : Has f3 [(31, .int .i64 ((n - ct % (n + 1) : Nat) : Int)), (222, .bool true), (0, .slice a0 d.m c0), (2, .int .u16 ((d.py : Nat) : Int)), (3, .bool udp), (5, .int .u32 ((ct : Nat) : Int)), (6, .bool true), (16, .slice (some ⟨kb, 0, none⟩) d.m d.m), (18, .slice (some ⟨ob, 0, none⟩) d.m d.m), (20, .slice (some ⟨gp, 0, none⟩) n cap), (21, .slice (some ⟨rb, 0, none⟩) 16 16), (22, .slice (some ⟨db, 0, none⟩) 16 16), (30, .int .i64 ((d.O d.m : Nat) : Int))] := ⟨e3_31, H2.keep S3⟩
      exact ⟨rfl, _, _, rfl, by omega, H3.1, H3.2.2.1, H3.2.2.2.1, H3.2.2.2.2.1, H3.2.2.2.2.2.1, H3.2.2.2.2.2.2.1, H3.2.2.2.2.2.2.2.1, H3.2.2.2.2.2.2.2.2.1, H3.2.2.2.2.2.2.2.2.2.1, H3.2.2.2.2.2.2.2.2.2.2.1, H3.2.2.2.2.2.2.2.2.2.2.2.1, H3.2.2.2.2.2.2.2.2.2.2.2.2.1, trivial⟩
    | false =>
      rw [if_neg Bool.false_ne_true]
      refine wp_skip ?_
      exact ⟨rfl, _, _, rfl, Nat.le_refl _, H2.2.1, H2.2.2.1, H2.2.2.2.1, H2.2.2.2.2.1, H2.2.2.2.2.2.1, H2.2.2.2.2.2.2.1, H2.2.2.2.2.2.2.2.1, H2.2.2.2.2.2.2.2.2.1, H2.2.2.2.2.2.2.2.2.2.1, H2.2.2.2.2.2.2.2.2.2.2.1, H2.2.2.2.2.2.2.2.2.2.2.2.1, H2.2.2.2.2.2.2.2.2.2.2.2.2.1, trivial⟩
  · skip
    rintro a wa ⟨rfl, p, l, rfl, hl, Hp⟩
    refine wp_seq (wp_use (f58 gp n cap l wa (by omega) p Hp.2.2.2.2.2.2.2.2.1 Hp.1 _ ?_))
    intro f31  S31 e31_32 
    have H31 : Has f31 [(32, .slice (some ⟨gp, 0, none⟩) l cap), (31, .int .i64 ((l : Nat) : Int)), (0, .slice a0 d.m c0), (2, .int .u16 ((d.py : Nat) : Int)), (3, .bool udp), (5, .int .u32 ((ct : Nat) : Int)), (6, .bool dc), (16, .slice (some ⟨kb, 0, none⟩) d.m d.m), (18, .slice (some ⟨ob, 0, none⟩) d.m d.m), (20, .slice (some ⟨gp, 0, none⟩) n cap), (21, .slice (some ⟨rb, 0, none⟩) 16 16), (22, .slice (some ⟨db, 0, none⟩) 16 16), (30, .int .i64 ((d.O d.m : Nat) : Int))] := ⟨e31_32, Hp.keep S31⟩
    exact partE F d hd udp hu a0 xb xo c0 kb ob rb db gp n cap ha0 zp ea ce te B w wa hb hBs hF hm hea hg0 hg3 l hl hC hn hcap hOm f31 ⟨H31.2.2.1, H31.2.2.2.1, H31.2.2.2.2.1, H31.2.2.2.2.2.2.2.1, H31.2.2.2.2.2.2.2.2.1, H31.2.2.2.2.2.2.2.2.2.1, H31.2.2.2.2.2.2.2.2.2.2.1, H31.2.2.2.2.2.2.2.2.2.2.2.1, H31.2.2.2.2.2.2.2.2.2.2.2.2.1, H31.2.1, H31.1, trivial⟩
set_option maxRecDepth 100000 in
set_option maxHeartbeats 1000000 in
theorem partD (F : Interp) (d : D) (hd : d.Ok) (udp : Bool) (hu : d.fi = if udp then 17 else 6) (a0 : Option Addr) (xb xo c0 kb ob rb db gp cap : Nat) (ha0 : 0 < d.m → a0 = some ⟨xb, xo, none⟩) (zp : Option Addr) (ea : Addr) (ce : Array Value) (te : TypeId) (B : Nat) (w wa : World) (hb : Below B w wa) (hBs : B ≤ wa.heap.size) (hF : F.answers wa.tape) (hm : Mem d xb xo kb ob rb db wa)
    (hea : wa.heap[ea.block]? = some (.cells ce te (0, 0))) (hg0 : wa.cell? ⟨0, 0, none⟩ = some (.iface 108 (.pointer (some ea)))) (hg3 : wa.cell? ⟨3, 0, none⟩ = some (.pointer zp)) (a4 : Option Addr) (tb to tl c4 : Nat) (ha4 : 0 < tl → a4 = some ⟨tb, to, none⟩) (htl : tl ≤ 4096) (hT : ∀ k, k < tl → wa.cell? ⟨tb, to + k, none⟩ = some (.int .u8 ((d.T k : Nat) : Int))) (ct : Nat) (dc : Bool) (hct : ct < 4294967296)
    (hxB : 0 < d.m → xb ≠ gp) (hkg : kb ≠ gp) (hog : ob ≠ gp) (hrg : rb ≠ gp) (hdg : db ≠ gp) (hB4 : 4 ≤ B) (heB : ea.block < B) (hown : wa.ownsRow B 5 1 (.slice (some ⟨gp, 0, none⟩) (d.O d.m) cap) (d.O d.m) (byt (d.P d.m) (d.O d.m)))
    (f : Nat → Value) (H : Has f [(0, .slice a0 d.m c0), (2, .int .u16 ((d.py : Nat) : Int)), (3, .bool udp), (4, .slice a4 tl c4), (5, .int .u32 ((ct : Nat) : Int)), (6, .bool dc), (16, .slice (some ⟨kb, 0, none⟩) d.m d.m), (18, .slice (some ⟨ob, 0, none⟩) d.m d.m), (20, .slice (some ⟨gp, 0, none⟩) (d.O d.m) cap), (21, .slice (some ⟨rb, 0, none⟩) 16 16), (22, .slice (some ⟨db, 0, none⟩) 16 16)]) :
    Code.wp Ybaf.prog (dropC 19 l4) (bodyPost Ybaf.prog Ybaf.f4 fun e w' => e = .returned (.bool true) ∧ Below B w w') (F4 f) wa := by
  have hO := D.O_le hd d.m
  have hO2 := d.O_ge d.m
  have hm256 := hd.m
  obtain ⟨hcl, hcap, hBg, hgl⟩ := own_cells hown (by omega)
  rw [l4_19]
  refine wp_seq (wp_use (f53 gp (d.O d.m) cap wa f H.2.2.2.2.2.2.2.2.1 _ ?_))
  intro f1  S1 e1_30 
  have H1 : Has f1 [(30, .int .i64 ((d.O d.m : Nat) : Int)), (0, .slice a0 d.m c0), (2, .int .u16 ((d.py : Nat) : Int)), (3, .bool udp), (4, .slice a4 tl c4), (5, .int .u32 ((ct : Nat) : Int)), (6, .bool dc), (16, .slice (some ⟨kb, 0, none⟩) d.m d.m), (18, .slice (some ⟨ob, 0, none⟩) d.m d.m), (20, .slice (some ⟨gp, 0, none⟩) (d.O d.m) cap), (21, .slice (some ⟨rb, 0, none⟩) 16 16), (22, .slice (some ⟨db, 0, none⟩) 16 16)] := ⟨e1_30, H.keep S1⟩
  by_cases ht : tl = 0
  · skip
    subst ht
    refine wp_seq (wp_use (f54z gp (d.O d.m) cap c4 a4 wa hcap f1 H1.2.2.2.2.2.2.2.2.2.1 H1.2.2.2.2.1 _ ?_))
    intro f2  S2 e2_20 
    have H2 : Has f2 [(20, .slice (some ⟨gp, 0, none⟩) (d.O d.m) cap), (30, .int .i64 ((d.O d.m : Nat) : Int)), (0, .slice a0 d.m c0), (2, .int .u16 ((d.py : Nat) : Int)), (3, .bool udp), (4, .slice a4 0 c4), (5, .int .u32 ((ct : Nat) : Int)), (6, .bool dc), (16, .slice (some ⟨kb, 0, none⟩) d.m d.m), (18, .slice (some ⟨ob, 0, none⟩) d.m d.m), (21, .slice (some ⟨rb, 0, none⟩) 16 16), (22, .slice (some ⟨db, 0, none⟩) 16 16)] := ⟨e2_20, H1.keep S2⟩
    exact partD2 F d hd udp hu a0 xb xo c0 kb ob rb db gp (d.O d.m) cap ha0 zp ea ce te B w wa hb hBs hF hm hea hg0 hg3 ct dc hct (fun k hk => by rw [show d.C k = d.P d.m k from if_pos hk]; exact hcl k hk) (by omega) hcap (Nat.le_refl _) f2 ⟨H2.2.2.1, H2.2.2.2.1, H2.2.2.2.2.1, H2.2.2.2.2.2.2.1, H2.2.2.2.2.2.2.2.1, H2.2.2.2.2.2.2.2.2.1, H2.2.2.2.2.2.2.2.2.2.1, H2.1, H2.2.2.2.2.2.2.2.2.2.2.1, H2.2.2.2.2.2.2.2.2.2.2.2.1, H2.2.1, trivial⟩
  · skip
    obtain rfl := ha4 (by omega)
    refine wp_seq (wp_use (f54 gp (d.O d.m) cap tb to tl c4 B (d.P d.m) d.T wa (by omega) (by omega) hBs hown hT f1 H1.2.2.2.2.2.2.2.2.2.1 H1.2.2.2.2.1 _ ?_))
    intro f2 g cap' wy S2 e2_20 hown2 hgrow hg2 hgl2
    have H2 : Has f2 [(20, .slice (some ⟨g, 0, none⟩) (d.O d.m + tl) cap'), (30, .int .i64 ((d.O d.m : Nat) : Int)), (0, .slice a0 d.m c0), (2, .int .u16 ((d.py : Nat) : Int)), (3, .bool udp), (4, .slice (some ⟨tb, to, none⟩) tl c4), (5, .int .u32 ((ct : Nat) : Int)), (6, .bool dc), (16, .slice (some ⟨kb, 0, none⟩) d.m d.m), (18, .slice (some ⟨ob, 0, none⟩) d.m d.m), (21, .slice (some ⟨rb, 0, none⟩) 16 16), (22, .slice (some ⟨db, 0, none⟩) 16 16)] := ⟨e2_20, H1.keep S2⟩
    rw [byt_app] at hown2
    have hown3 : wy.ownsRow B 5 1 (.slice (some ⟨g, 0, none⟩) (d.O d.m + tl) cap') (d.O d.m + tl) (byt d.C (d.O d.m + tl)) := hown2
    obtain ⟨hcl2, hcap2, hBg2, hgl3⟩ := own_cells hown3 (by omega)
    have bW : Below B w wy := hb.grown hgrow hBs (fun k hk => by injection hk with hk; omega)
    have blk : ∀ b, b < wa.heap.size → b ≠ gp → wy.heap[b]? = wa.heap[b]? := fun b h1 h2 => hgrow.block b h1 (fun q => h2 (by injection q))
    have hmy : Mem d xb xo kb ob rb db wy := hm.grow hxB hkg hog hrg hdg blk
    have heay : wy.heap[ea.block]? = some (.cells ce te (0, 0)) := by rw [blk _ (by omega) (by omega)]; exact hea
    have cel : ∀ b, b < 4 → ∀ v, wa.cell? ⟨b, 0, none⟩ = some v → wy.cell? ⟨b, 0, none⟩ = some v := fun b h4 v hc => by
      rw [World.cell?_of_block (w := wa) (blk b (World.block_lt_of_cell? wa _ hc) (by omega))]; exact hc
    exact partD2 F d hd udp hu a0 xb xo c0 kb ob rb db g (d.O d.m + tl) cap' ha0 zp ea ce te B w wy bW (by have := hgrow.size; omega) (by rw [hgrow.tape]; exact hF) hmy heay (cel 0 (by omega) _ hg0) (cel 3 (by omega) _ hg3) ct dc hct hcl2 (by omega) hcap2 (by omega) f2 ⟨H2.2.2.1, H2.2.2.2.1, H2.2.2.2.2.1, H2.2.2.2.2.2.2.1, H2.2.2.2.2.2.2.2.1, H2.2.2.2.2.2.2.2.2.1, H2.2.2.2.2.2.2.2.2.2.1, H2.1, H2.2.2.2.2.2.2.2.2.2.2.1, H2.2.2.2.2.2.2.2.2.2.2.2.1, H2.2.1, trivial⟩
end Go.Proofs.YbulkblsgFmt

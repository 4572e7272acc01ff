import Derived.Test.YbulkblsgFmtBg
namespace Go.Proofs.YbulkblsgFmt
open Go.RowKit Go.Extern.Stop Go.Stop Go.Extern
set_option linter.unusedVariables false
set_option linter.unusedSimpArgs false
def U (C : Nat → Nat) : Nat → Value := fun i => .int .u8 ((C i : Nat) : Int)
def V (C : Nat → Nat) : Nat → Value := fun i => .int .i64 ((C i : Nat) : Int)
theorem U_set {w : World} {b n i v : Nat} {C C' : Nat → Nat} (h : w.rowIs b 5 n (U C)) (e : ∀ j, j < n → C' j = if j = i then v else C j) : (w.setCell ⟨b, i, none⟩ (.int .u8 ((v : Nat) : Int))).rowIs b 5 n (U C') :=
  (h.set i _).congr fun j hj => by
    unfold U
    rw [e j hj]
    split <;> rfl
theorem V_set {w : World} {b n i v : Nat} {C C' : Nat → Nat} (h : w.rowIs b 3 n (V C)) (e : ∀ j, j < n → C' j = if j = i then v else C j) : (w.setCell ⟨b, i, none⟩ (.int .i64 ((v : Nat) : Int))).rowIs b 3 n (V C') :=
  (h.set i _).congr fun j hj => by
    unfold V
    rw [e j hj]
    split <;> rfl
/-- Only block b has changed. -/
structure Only (b : Nat) (w w' : World) : Prop where
  os : w'.os = w.os
  tape : w'.tape = w.tape
  output : w'.output = w.output
  size : w'.heap.size = w.heap.size
  block : ∀ k, k ≠ b → w'.heap[k]? = w.heap[k]?
theorem Only.refl (b : Nat) (w : World) : Only b w w := ⟨rfl, rfl, rfl, rfl, fun _ _ => rfl⟩
theorem Only.trans {b : Nat} {w w' w'' : World} (h : Only b w w') (k : Only b w' w'') : Only b w w'' := ⟨k.os.trans h.os, k.tape.trans h.tape, k.output.trans h.output, k.size.trans h.size, fun j hj => (k.block j hj).trans (h.block j hj)⟩
theorem only_set (b i : Nat) (v : Value) (w : World) : Only b w (w.setCell ⟨b, i, none⟩ v) := ⟨rfl, rfl, rfl, by simp [World.setCell], fun k hk => by simp [World.setCell, Array.getElem?_modify, Ne.symm hk]⟩
theorem only_drew {b : Nat} {w w' : World} (h : Only b w.drew w') : Only b w w' := ⟨h.os, h.tape, h.output, h.size, h.block⟩
theorem below_only {B b : Nat} {w wa wy : World} (h : Below B w wa) (hb : B ≤ b) (o : Only b wa wy) : Below B w wy :=
  ⟨o.os.trans h.os, o.tape.trans h.tape, o.output.trans h.output, by rw [o.size]; exact h.size, fun k hk => by rw [o.block k (by omega)]; exact h.block k hk⟩
theorem Same.trans {f f1 f2 : Nat → Value} {L L2 : List Nat} (h1 : Same f f1 L) (h2 : Same f1 f2 L2) (hsub : (L2.all fun k => L.contains k) = true) : Same f f2 L := fun k hk => by
  rw [← h1 k hk]
  refine h2 k ?_
  cases h : L2.contains k with
  | false => rfl
  | true =>
    rw [List.all_eq_true] at hsub
    have := hsub k (by simpa using h)
    rw [hk] at this; cases this
theorem Same.wide {f f1 : Nat → Value} {L L2 : List Nat} (h : Same f f1 L2) (hsub : (L2.all fun k => L.contains k) = true) : Same f f1 L := Same.trans (f1 := f) (fun k _ => rfl) h hsub
structure Rows5 (d : D) (kb sb ob rb db i : Nat) (wq : World) : Prop where
  k : wq.rowIs kb 5 d.m (U d.K)
  s : wq.rowIs sb 3 d.m (V d.S)
  o : wq.rowIs ob 3 d.m (V (fun k => if k < i then d.O k else 0))
  r : wq.rowIs rb 5 16 (U d.sr)
  t : wq.rowIs db 5 16 (U d.ds)
theorem Rows5.keep {d : D} {kb sb ob rb db i x : Nat} {wq wy : World} (h : Rows5 d kb sb ob rb db i wq) (hk : kb ≠ x) (hs : sb ≠ x) (ho : ob ≠ x) (hr : rb ≠ x) (ht : db ≠ x) (e : ∀ b, b < wq.heap.size → b ≠ x → wy.heap[b]? = wq.heap[b]?) : Rows5 d kb sb ob rb db i wy :=
  ⟨h.k.of_block (e _ h.k.lt hk), h.s.of_block (e _ h.s.lt hs), h.o.of_block (e _ h.o.lt ho), h.r.of_block (e _ h.r.lt hr), h.t.of_block (e _ h.t.lt ht)⟩
theorem own_block {w w' : World} {B g n cap : Nat} {xs : List Value} (h : w.ownsRow B 5 1 (.slice (some ⟨g, 0, none⟩) n cap) n xs) (e : w'.heap[g]? = w.heap[g]?) : w'.ownsRow B 5 1 (.slice (some ⟨g, 0, none⟩) n cap) n xs := by
  obtain ⟨h1, ⟨h2, h3⟩ | ⟨g', cap', cur, hv, hb, hh, hc, hm, hs, ht⟩⟩ := h
  · cases h2
  · refine ⟨h1, Or.inr ⟨g', cap', cur, hv, hb, ?_, hc, hm, hs, ht⟩⟩
    injection hv with e1 e2 e3
    injection e1 with e1
    injection e1 with e1
    subst e1
    rw [e]; exact hh
theorem l4_18 : dropC 18 l4 = ((headC (headC (dropC 18 l4))).seq (Code.block 4 (.loop l4c))).seq (dropC 19 l4) := by kernel_rfl
theorem l4c_eq : l4c = (headC l4c).seq ((Code.cond (.tmp 150) .skip (.exit 4)).seq ((Code.block 5 l4d).seq (dropC 3 l4c))) := by kernel_rfl
theorem l4d_eq : l4d = (headC l4d).seq ((headC (dropC 1 l4d)).seq ((headC (dropC 2 l4d)).seq ((headC (dropC 3 l4d)).seq (((headC (headC (dropC 4 l4d))).seq (Code.cond (.tmp 166) (thnC (tailC (headC (dropC 4 l4d)))) .skip)).seq ((headC (dropC 5 l4d)).seq ((headC (dropC 6 l4d)).seq ((headC (dropC 7 l4d)).seq ((headC (dropC 8 l4d)).seq (((headC (headC (dropC 9 l4d))).seq (Code.cond (.tmp 199) ((headC (thnC (tailC (headC (dropC 9 l4d))))).seq (tailC (thnC (tailC (headC (dropC 9 l4d)))))) .skip)).seq (dropC 10 l4d)))))))))) := by kernel_rfl
theorem l4d6_eq : headC (dropC 6 l4d) = (headC (headC (dropC 6 l4d))).seq (Code.block 6 (.loop l4f)) := by kernel_rfl
theorem l4f_eq : l4f = (headC l4f).seq ((Code.cond (.tmp 180) .skip (.exit 6)).seq ((Code.block 7 ((headC (blkC (headC (dropC 2 l4f)))).seq (dropC 1 (blkC (headC (dropC 2 l4f)))))).seq (dropC 3 l4f))) := by kernel_rfl
set_option maxRecDepth 100000 in
set_option maxHeartbeats 1000000 in
theorem loop4 (hb s eb z : Nat) (wa : World) (hs : s ≤ 100000) (hrow : wa.rowIs hb 5 s (U (fun _ => 0))) (hz : wa.cell? ⟨eb, 3, none⟩ = some (.int .u8 (z : Nat))) (hne : eb ≠ hb) (f : Nat → Value) (H : Has f [(26, .pointer (some ⟨eb, 0, none⟩)), (28, .slice (some ⟨hb, 0, none⟩) s s)]) (K : Act → World → Prop)
    (hK : ∀ (f' : Nat → Value) (wy : World), Same f f' [177, 178, 179, 180, 181, 29, 182, 183, 184, 185, 186, 187] → Only hb wa wy → wy.rowIs hb 5 s (U (fun _ => z)) → K (F4 f') wy) :
    Code.wp Ybaf.prog (headC (dropC 6 l4d)) (only K) (F4 f) wa := by
  rw [l4d6_eq]
  refine wp_seq (wp_use (f41 hb s wa f H.2.1 _ ?_))
  intro f1  S1 e1_178 e1_179 
  have H1 : Has f1 [(178, .int .i64 ((s : Nat) : Int)), (179, .int .i64 ((0 : Nat) : Int)), (26, .pointer (some ⟨eb, 0, none⟩)), (28, .slice (some ⟨hb, 0, none⟩) s s)] := ⟨e1_178, e1_179, H.keep S1⟩
  refine wp_block (wp_loop (fun a wq => ∃ (g : Nat → Value) (j : Nat), a = F4 g ∧ j ≤ s ∧ Same f g [177, 178, 179, 180, 181, 29, 182, 183, 184, 185, 186, 187] ∧ Has g [(26, .pointer (some ⟨eb, 0, none⟩)), (28, .slice (some ⟨hb, 0, none⟩) s s), (178, .int .i64 ((s : Nat) : Int)), (179, .int .i64 ((j : Nat) : Int))] ∧ Only hb wa wq ∧ wq.rowIs hb 5 s (U (fun k => if k < j then z else 0))) (fun a _ => s - (intOf (a.tmps.getD 179 undef)).toNat) ⟨f1, 0, rfl, Nat.zero_le _, S1.wide rfl, ⟨H1.2.2.1, H1.2.2.2.1, H1.1, H1.2.1, trivial⟩, Only.refl _ _, hrow.congr (fun k hk => by unfold U; simp)⟩ ?_)
  rintro a wq ⟨g, j, rfl, hj, SG, G, oq, rq⟩
  rw [l4f_eq]
  refine wp_seq (wp_use (f42 j s wq g G.2.2.1 G.2.2.2.1 _ ?_))
  intro f11  S11 e11_180 
  have H11 : Has f11 [(180, .bool (decide (j < s))), (26, .pointer (some ⟨eb, 0, none⟩)), (28, .slice (some ⟨hb, 0, none⟩) s s), (178, .int .i64 ((s : Nat) : Int)), (179, .int .i64 ((j : Nat) : Int))] := ⟨e11_180, G.keep S11⟩
  refine wp_seq (wp_cond (t := decide (j < s)) (ev rfl e11_180) ?_)
  by_cases hjs : j < s
  · skip
    rw [decide_eq_true hjs, if_pos rfl]
    refine wp_skip ?_
    refine wp_seq (wp_block ?_)
    refine wp_seq (wp_use (f43 j wq f11 H11.2.2.2.2.1 _ ?_))
    intro f12  S12 e12_29 
    have H12 : Has f12 [(29, .int .i64 ((j : Nat) : Int)), (180, .bool (decide (j < s))), (26, .pointer (some ⟨eb, 0, none⟩)), (28, .slice (some ⟨hb, 0, none⟩) s s), (178, .int .i64 ((s : Nat) : Int)), (179, .int .i64 ((j : Nat) : Int))] := ⟨e12_29, H11.keep S12⟩
    refine wp_use (f44 hb s eb j z _ wq (rq.cell hjs) (rq.frozen j) hjs (by rw [World.cell?_of_block (w := wa) (oq.block eb hne)]; exact hz) f12 H12.2.2.1 H12.2.2.2.1 H12.1 _ ?_)
    intro f13  S13  
    have H13 : Has f13 [(29, .int .i64 ((j : Nat) : Int)), (180, .bool (decide (j < s))), (26, .pointer (some ⟨eb, 0, none⟩)), (28, .slice (some ⟨hb, 0, none⟩) s s), (178, .int .i64 ((s : Nat) : Int)), (179, .int .i64 ((j : Nat) : Int))] := H12.keep S13
    show Code.wp _ _ _ _ _
    refine wp_use (f45 j s _ hjs hs f13 H13.2.2.2.2.2.1 _ ?_)
    intro f14  S14 e14_179 
    have H14 : Has f14 [(179, .int .i64 ((j + 1 : Nat) : Int)), (29, .int .i64 ((j : Nat) : Int)), (180, .bool (decide (j < s))), (26, .pointer (some ⟨eb, 0, none⟩)), (28, .slice (some ⟨hb, 0, none⟩) s s), (178, .int .i64 ((s : Nat) : Int))] := ⟨e14_179, H13.keep S14⟩
    refine ⟨⟨_, j + 1, rfl, hjs, (((SG.trans S11 rfl).trans S12 rfl).trans S13 rfl).trans S14 rfl, ⟨H14.2.2.2.1, H14.2.2.2.2.1, H14.2.2.2.2.2.1, H14.1, trivial⟩, oq.trans (only_set hb j _ wq), U_set rq (fun k hk => ?_)⟩, ?_⟩
    · show (if k < j + 1 then z else 0) = if k = j then z else (if k < j then z else 0)
      repeat' split
      all_goals omega
    · show s - (intOf ((F4 f14).tmps.getD 179 undef)).toNat < s - (intOf ((F4 g).tmps.getD 179 undef)).toNat
      rw [evG (N := 422) rfl e14_179, evG (N := 422) rfl G.2.2.2.1]
      simp only [intOf]
      omega
  · skip
    rw [decide_eq_false hjs, if_neg Bool.false_ne_true]
    refine wp_exit ?_
    simp only [Exit.inBlock, Exit.then, if_true]
    exact hK _ wq (SG.trans S11 rfl) oq (rq.congr (fun k hk => by simp only [U]; rw [if_pos (by omega)]))
set_option maxRecDepth 100000 in
set_option maxHeartbeats 1000000 in
theorem round3 (d : D) (hd : d.Ok) (xb xo c0 kb sb ob rb db gp cap i B : Nat) (w wq : World) (hi : i < d.m) (hb : Below B w wq) (hBs : B ≤ wq.heap.size) (hx0 : wq.cell? ⟨xb, xo + i * 4, none⟩ = some (.int .u8 ((d.kd i : Nat) : Int))) (hx1 : wq.cell? ⟨xb, xo + i * 4 + 1, none⟩ = some (.int .u8 ((d.L i : Nat) : Int))) (hx2 : wq.cell? ⟨xb, xo + i * 4 + 2, none⟩ = some (.int .u16 ((d.Fr i : Nat) : Int))) (hx3 : wq.cell? ⟨xb, xo + i * 4 + 3, none⟩ = some (.int .u8 ((d.Z i : Nat) : Int)))
    (hr5 : Rows5 d kb sb ob rb db i wq) (hne : kb ≠ gp ∧ sb ≠ gp ∧ ob ≠ gp ∧ rb ≠ gp ∧ db ≠ gp) (hdis : ob ≠ kb ∧ ob ≠ sb ∧ ob ≠ rb ∧ ob ≠ db) (hBo : B ≤ ob) (hown : wq.ownsRow B 5 1 (.slice (some ⟨gp, 0, none⟩) (d.O i) cap) (d.O i) (byt (d.P i) (d.O i)))
    (f : Nat → Value) (H : Has f [(0, .slice (some ⟨xb, xo, none⟩) d.m c0), (15, .int .u8 ((d.fi : Nat) : Int)), (16, .slice (some ⟨kb, 0, none⟩) d.m d.m), (17, .slice (some ⟨sb, 0, none⟩) d.m d.m), (18, .slice (some ⟨ob, 0, none⟩) d.m d.m), (20, .slice (some ⟨gp, 0, none⟩) (d.O i) cap), (149, .int .i64 ((i : Nat) : Int))]) (K : Act → World → Prop)
    (hK : ∀ (f' : Nat → Value) (g' cap' : Nat) (wy : World), Same f f' [25, 26, 27, 28, 20, 151, 152, 153, 154, 155, 156, 157, 158, 159, 160, 161, 162, 163, 164, 165, 166, 167, 168, 169, 170, 171, 172, 173, 174, 175, 176, 177, 178, 179, 180, 181, 182, 183, 184, 185, 186, 187, 188, 189, 190, 191, 192, 193, 194, 195, 196, 197, 198, 199, 200, 201, 202, 203, 204, 205, 206, 207, 208, 209, 210, 211, 212, 213, 29] → f' 20 = .slice (some ⟨g', 0, none⟩) (d.O (i + 1)) cap' → Below B w wy → B ≤ wy.heap.size → Rows5 d kb sb ob rb db (i + 1) wy → kb ≠ g' ∧ sb ≠ g' ∧ ob ≠ g' ∧ rb ≠ g' ∧ db ≠ g' → wy.ownsRow B 5 1 (.slice (some ⟨g', 0, none⟩) (d.O (i + 1)) cap') (d.O (i + 1)) (byt (d.P (i + 1)) (d.O (i + 1))) → K (F4 f') wy) :
    Code.wp Ybaf.prog l4d (only K) (F4 f) wq := by
  have hS := d.S_ge i
  have hS2 := D.S_le hd i
  have hO1 := D.O_le hd i
  have hO2 := d.O_ge i
  have hm256 := hd.m
  have hOs : d.O (i + 1) = d.O i + d.S i := rfl
  obtain ⟨hcl, hcap, hBg, hgl⟩ := own_cells hown (by omega)
  obtain ⟨nk, ns, no, nr, nt⟩ := hne
  obtain ⟨ok1, ok2, ok3, ok4⟩ := hdis
  rw [l4d_eq]
  refine wp_seq (wp_use (f34 i wq f H.2.2.2.2.2.2.1 _ ?_))
  intro f1  S1 e1_25 
  have H1 : Has f1 [(25, .int .i64 ((i : Nat) : Int)), (0, .slice (some ⟨xb, xo, none⟩) d.m c0), (15, .int .u8 ((d.fi : Nat) : Int)), (16, .slice (some ⟨kb, 0, none⟩) d.m d.m), (17, .slice (some ⟨sb, 0, none⟩) d.m d.m), (18, .slice (some ⟨ob, 0, none⟩) d.m d.m), (20, .slice (some ⟨gp, 0, none⟩) (d.O i) cap), (149, .int .i64 ((i : Nat) : Int))] := ⟨e1_25, H.keep S1⟩
  refine wp_seq (wp_use (f35 xb xo d.m c0 i (d.kd i) (d.L i) (d.Fr i) (d.Z i) wq hi hx0 hx1 hx2 hx3 f1 H1.2.1 H1.1 _ ?_))
  intro f2  S2 e2_26 
  have H2 : Has f2 [(26, .pointer (some ⟨wq.heap.size, 0, none⟩)), (25, .int .i64 ((i : Nat) : Int)), (0, .slice (some ⟨xb, xo, none⟩) d.m c0), (15, .int .u8 ((d.fi : Nat) : Int)), (16, .slice (some ⟨kb, 0, none⟩) d.m d.m), (17, .slice (some ⟨sb, 0, none⟩) d.m d.m), (18, .slice (some ⟨ob, 0, none⟩) d.m d.m), (20, .slice (some ⟨gp, 0, none⟩) (d.O i) cap), (149, .int .i64 ((i : Nat) : Int))] := ⟨e2_26, H1.keep S2⟩
  obtain ⟨eb, heb⟩ : ∃ x, x = wq.heap.size := ⟨_, rfl⟩
  obtain ⟨w1, hw1⟩ : ∃ x, wq.alloc (.cells #[.int .u8 ((d.kd i : Nat) : Int), .int .u8 ((d.L i : Nat) : Int), .int .u16 ((d.Fr i : Nat) : Int), .int .u8 ((d.Z i : Nat) : Int)] 56) = x := ⟨_, rfl⟩
  have s1 : w1.heap.size = eb + 1 := by rw [← hw1, heb]; simp
  have k1 : ∀ b, b < eb → w1.heap[b]? = wq.heap[b]? := fun b hb' => by rw [← hw1]; exact Below.heap_alloc _ _ _ (by omega)
  have re1 : w1.heap[eb]? = some (.cells #[.int .u8 ((d.kd i : Nat) : Int), .int .u8 ((d.L i : Nat) : Int), .int .u16 ((d.Fr i : Nat) : Int), .int .u8 ((d.Z i : Nat) : Int)] 56 (0, 0)) := by rw [← hw1, heb]; exact heap_alloc_new _ _
  have b1 : Below B w w1 := by rw [← hw1]; exact hb.alloc hBs _
  rw [hw1]
  rw [← heb] at H2
  have o1 : w1.rowIs ob 3 d.m (V (fun k => if k < i then d.O k else 0)) := hr5.o.of_block (k1 _ (by have := hr5.o.lt; omega))
  refine wp_seq (wp_use (f36 gp (d.O i) cap ob d.m i _ w1 (o1.cell hi) (o1.frozen i) hi f2 H2.2.2.2.2.2.2.1 H2.2.2.2.2.2.2.2.1 H2.2.1 _ ?_))
  intro f3  S3  
  have H3 : Has f3 [(26, .pointer (some ⟨eb, 0, none⟩)), (25, .int .i64 ((i : Nat) : Int)), (0, .slice (some ⟨xb, xo, none⟩) d.m c0), (15, .int .u8 ((d.fi : Nat) : Int)), (16, .slice (some ⟨kb, 0, none⟩) d.m d.m), (17, .slice (some ⟨sb, 0, none⟩) d.m d.m), (18, .slice (some ⟨ob, 0, none⟩) d.m d.m), (20, .slice (some ⟨gp, 0, none⟩) (d.O i) cap), (149, .int .i64 ((i : Nat) : Int))] := H2.keep S3
  obtain ⟨w2, hw2⟩ : ∃ x, w1.setCell ⟨ob, i, none⟩ (.int .i64 ((d.O i : Nat) : Int)) = x := ⟨_, rfl⟩
  have y2 : Only ob w1 w2 := by rw [← hw2]; exact only_set ob i _ w1
  have o2 : w2.rowIs ob 3 d.m (V (fun k => if k < i + 1 then d.O k else 0)) := by
    rw [← hw2]
    refine V_set o1 (fun k hk => ?_)
    by_cases e : k = i
    · subst e; rw [if_pos rfl, if_pos (by omega)]
    · rw [if_neg e]
      by_cases e2 : k < i
      · rw [if_pos e2, if_pos (by omega)]
      · rw [if_neg e2, if_neg (by omega)]
  have lo : ob < eb := by have := hr5.o.lt; omega
  rw [hw2]
  have k2 : ∀ b, b < eb → b ≠ ob → w2.heap[b]? = wq.heap[b]? := fun b h1 h2 => (y2.block b h2).trans (k1 b h1)
  have re2 : w2.heap[eb]? = some (.cells #[.int .u8 ((d.kd i : Nat) : Int), .int .u8 ((d.L i : Nat) : Int), .int .u16 ((d.Fr i : Nat) : Int), .int .u8 ((d.Z i : Nat) : Int)] 56 (0, 0)) := (y2.block eb (by omega)).trans re1
  have b2 : Below B w w2 := below_only b1 hBo y2
  have s2 : w2.heap.size = eb + 1 := y2.size.trans s1
  refine wp_seq (wp_use (f37 d.fi w2 f3 H3.2.2.2.1 _ ?_))
  intro f4  S4 e4_27 
  have H4 : Has f4 [(27, .int .u8 ((d.fi : Nat) : Int)), (26, .pointer (some ⟨eb, 0, none⟩)), (25, .int .i64 ((i : Nat) : Int)), (0, .slice (some ⟨xb, xo, none⟩) d.m c0), (15, .int .u8 ((d.fi : Nat) : Int)), (16, .slice (some ⟨kb, 0, none⟩) d.m d.m), (17, .slice (some ⟨sb, 0, none⟩) d.m d.m), (18, .slice (some ⟨ob, 0, none⟩) d.m d.m), (20, .slice (some ⟨gp, 0, none⟩) (d.O i) cap), (149, .int .i64 ((i : Nat) : Int))] := ⟨e4_27, H3.keep S4⟩
  refine wp_join (fun a w' => w' = w2 ∧ ∃ f', a = F4 f' ∧ Same f f' [25, 26, 27, 28, 20, 151, 152, 153, 154, 155, 156, 157, 158, 159, 160, 161, 162, 163, 164, 165, 166, 167, 168, 169, 170, 171, 172, 173, 174, 175, 176, 177, 178, 179, 180, 181, 182, 183, 184, 185, 186, 187, 188, 189, 190, 191, 192, 193, 194, 195, 196, 197, 198, 199, 200, 201, 202, 203, 204, 205, 206, 207, 208, 209, 210, 211, 212, 213, 29] ∧ Has f' [(27, .int .u8 ((d.N (i + 1) : Nat) : Int)), (26, .pointer (some ⟨eb, 0, none⟩)), (25, .int .i64 ((i : Nat) : Int)), (0, .slice (some ⟨xb, xo, none⟩) d.m c0), (15, .int .u8 ((d.fi : Nat) : Int)), (16, .slice (some ⟨kb, 0, none⟩) d.m d.m), (17, .slice (some ⟨sb, 0, none⟩) d.m d.m), (18, .slice (some ⟨ob, 0, none⟩) d.m d.m), (20, .slice (some ⟨gp, 0, none⟩) (d.O i) cap), (149, .int .i64 ((i : Nat) : Int))]) ?_ ?_
  · skip
    refine wp_seq (wp_use (f38 (some ⟨xb, xo, none⟩) d.m c0 i w2 (by omega) f4 H4.2.2.2.1 H4.2.2.1 _ ?_))
    intro f5  S5 e5_166 
    have H5 : Has f5 [(166, .bool (decide (i + 1 < d.m))), (27, .int .u8 ((d.fi : Nat) : Int)), (26, .pointer (some ⟨eb, 0, none⟩)), (25, .int .i64 ((i : Nat) : Int)), (0, .slice (some ⟨xb, xo, none⟩) d.m c0), (15, .int .u8 ((d.fi : Nat) : Int)), (16, .slice (some ⟨kb, 0, none⟩) d.m d.m), (17, .slice (some ⟨sb, 0, none⟩) d.m d.m), (18, .slice (some ⟨ob, 0, none⟩) d.m d.m), (20, .slice (some ⟨gp, 0, none⟩) (d.O i) cap), (149, .int .i64 ((i : Nat) : Int))] := ⟨e5_166, H4.keep S5⟩
    refine wp_cond (t := decide (i + 1 < d.m)) (ev rfl e5_166) ?_
    by_cases hi1 : i + 1 < d.m
    · skip
      rw [decide_eq_true hi1, if_pos rfl]
      refine wp_use (f39 kb d.m i (d.K (i + 1)) w2 hi1 hm256 (by rw [World.cell?_of_block (w := wq) (k2 kb (by have := hr5.k.lt; omega) (Ne.symm ok1))]; exact hr5.k.cell hi1) f5 H5.2.2.2.2.2.2.1 H5.2.2.2.1 _ ?_)
      intro f6  S6 e6_27 
      have H6 : Has f6 [(27, .int .u8 ((d.K (i + 1) : Nat) : Int)), (166, .bool (decide (i + 1 < d.m))), (26, .pointer (some ⟨eb, 0, none⟩)), (25, .int .i64 ((i : Nat) : Int)), (0, .slice (some ⟨xb, xo, none⟩) d.m c0), (15, .int .u8 ((d.fi : Nat) : Int)), (16, .slice (some ⟨kb, 0, none⟩) d.m d.m), (17, .slice (some ⟨sb, 0, none⟩) d.m d.m), (18, .slice (some ⟨ob, 0, none⟩) d.m d.m), (20, .slice (some ⟨gp, 0, none⟩) (d.O i) cap), (149, .int .i64 ((i : Nat) : Int))] := ⟨e6_27, H5.keep S6⟩
      exact ⟨rfl, _, rfl, ((((((Same.wide S1 (L := [25, 26, 27, 28, 20, 151, 152, 153, 154, 155, 156, 157, 158, 159, 160, 161, 162, 163, 164, 165, 166, 167, 168, 169, 170, 171, 172, 173, 174, 175, 176, 177, 178, 179, 180, 181, 182, 183, 184, 185, 186, 187, 188, 189, 190, 191, 192, 193, 194, 195, 196, 197, 198, 199, 200, 201, 202, 203, 204, 205, 206, 207, 208, 209, 210, 211, 212, 213, 29]) rfl).trans S2 rfl).trans S3 rfl).trans S4 rfl).trans S5 rfl).trans S6 rfl), (by rw [show d.N (i + 1) = d.K (i + 1) from if_pos hi1]; exact H6.1), H6.2.2.1, H6.2.2.2.1, H6.2.2.2.2.1, H6.2.2.2.2.2.1, H6.2.2.2.2.2.2.1, H6.2.2.2.2.2.2.2.1, H6.2.2.2.2.2.2.2.2.1, H6.2.2.2.2.2.2.2.2.2.1, H6.2.2.2.2.2.2.2.2.2.2.1, trivial⟩
    · skip
      rw [decide_eq_false hi1, if_neg Bool.false_ne_true]
      refine wp_skip ?_
      exact ⟨rfl, _, rfl, (((((Same.wide S1 (L := [25, 26, 27, 28, 20, 151, 152, 153, 154, 155, 156, 157, 158, 159, 160, 161, 162, 163, 164, 165, 166, 167, 168, 169, 170, 171, 172, 173, 174, 175, 176, 177, 178, 179, 180, 181, 182, 183, 184, 185, 186, 187, 188, 189, 190, 191, 192, 193, 194, 195, 196, 197, 198, 199, 200, 201, 202, 203, 204, 205, 206, 207, 208, 209, 210, 211, 212, 213, 29]) rfl).trans S2 rfl).trans S3 rfl).trans S4 rfl).trans S5 rfl), (by rw [show d.N (i + 1) = d.fi from if_neg hi1]; exact H5.2.1), H5.2.2.1, H5.2.2.2.1, H5.2.2.2.2.1, H5.2.2.2.2.2.1, H5.2.2.2.2.2.2.1, H5.2.2.2.2.2.2.2.1, H5.2.2.2.2.2.2.2.2.1, H5.2.2.2.2.2.2.2.2.2.1, H5.2.2.2.2.2.2.2.2.2.2.1, trivial⟩
  · skip
    rintro a w2' ⟨rfl, p, rfl, SP, Hp⟩
    refine wp_seq (wp_use (f40 sb d.m i (d.S i) w2' hi (by rw [World.cell?_of_block (w := wq) (k2 sb (by have := hr5.s.lt; omega) (Ne.symm ok2))]; exact hr5.s.cell hi) (by omega) p Hp.2.2.2.2.2.2.1 Hp.2.2.1 _ ?_))
    intro f21  S21 e21_28 
    have H21 : Has f21 [(28, .slice (some ⟨w2'.heap.size, 0, none⟩) (d.S i) (d.S i)), (27, .int .u8 ((d.N (i + 1) : Nat) : Int)), (26, .pointer (some ⟨eb, 0, none⟩)), (25, .int .i64 ((i : Nat) : Int)), (0, .slice (some ⟨xb, xo, none⟩) d.m c0), (15, .int .u8 ((d.fi : Nat) : Int)), (16, .slice (some ⟨kb, 0, none⟩) d.m d.m), (17, .slice (some ⟨sb, 0, none⟩) d.m d.m), (18, .slice (some ⟨ob, 0, none⟩) d.m d.m), (20, .slice (some ⟨gp, 0, none⟩) (d.O i) cap), (149, .int .i64 ((i : Nat) : Int))] := ⟨e21_28, Hp.keep S21⟩
    obtain ⟨hbk, hhb⟩ : ∃ x, x = w2'.heap.size := ⟨_, rfl⟩
    obtain ⟨w3, hw3⟩ : ∃ x, w2'.alloc (.cells (madeCells #[.int .u8 0] (d.S i)) 5) = x := ⟨_, rfl⟩
    have s3 : w3.heap.size = hbk + 1 := by rw [← hw3, hhb]; simp
    have k3 : ∀ b, b < hbk → w3.heap[b]? = w2'.heap[b]? := fun b hb' => by rw [← hw3]; exact Below.heap_alloc _ _ _ (by omega)
    have r3 : w3.rowIs hbk 5 (d.S i) (U (fun _ => 0)) := by rw [← hw3, hhb]; exact World.rowIs_made _ _ _ _
    have b3 : Below B w w3 := by rw [← hw3]; exact b2.alloc (by omega) _
    have hbe : hbk = eb + 1 := by omega
    rw [hw3]
    rw [← hhb] at H21
    have re3 : w3.heap[eb]? = some (.cells #[.int .u8 ((d.kd i : Nat) : Int), .int .u8 ((d.L i : Nat) : Int), .int .u16 ((d.Fr i : Nat) : Int), .int .u8 ((d.Z i : Nat) : Int)] 56 (0, 0)) := (k3 eb (by omega)).trans re2
    have ce : ∀ wX, Only hbk w3 wX → wX.heap[eb]? = some (.cells #[.int .u8 ((d.kd i : Nat) : Int), .int .u8 ((d.L i : Nat) : Int), .int .u16 ((d.Fr i : Nat) : Int), .int .u8 ((d.Z i : Nat) : Int)] 56 (0, 0)) := fun wX oX => (oX.block eb (by omega)).trans re3
    refine wp_seq (wp_use (loop4 hbk (d.S i) eb (d.Z i) w3 (by omega) r3 (by rw [cell_of_row _ _ 3 _ 56 (0, 0) re3]; rfl) (by omega) f21 ⟨H21.2.2.1, H21.1, trivial⟩ _ ?_))
    intro q w4 SQ o4 r4
    have HQ : Has q [(28, .slice (some ⟨hbk, 0, none⟩) (d.S i) (d.S i)), (27, .int .u8 ((d.N (i + 1) : Nat) : Int)), (26, .pointer (some ⟨eb, 0, none⟩)), (25, .int .i64 ((i : Nat) : Int)), (0, .slice (some ⟨xb, xo, none⟩) d.m c0), (15, .int .u8 ((d.fi : Nat) : Int)), (16, .slice (some ⟨kb, 0, none⟩) d.m d.m), (17, .slice (some ⟨sb, 0, none⟩) d.m d.m), (18, .slice (some ⟨ob, 0, none⟩) d.m d.m), (20, .slice (some ⟨gp, 0, none⟩) (d.O i) cap), (149, .int .i64 ((i : Nat) : Int))] := H21.keep SQ
    refine wp_seq (wp_use (f46 hbk (d.S i) (d.N (i + 1)) _ w4 (r4.cell (by omega)) (r4.frozen 0) (by omega) q HQ.2.1 HQ.1 _ ?_))
    intro f41  S41  
    have H41 : Has f41 [(28, .slice (some ⟨hbk, 0, none⟩) (d.S i) (d.S i)), (27, .int .u8 ((d.N (i + 1) : Nat) : Int)), (26, .pointer (some ⟨eb, 0, none⟩)), (25, .int .i64 ((i : Nat) : Int)), (0, .slice (some ⟨xb, xo, none⟩) d.m c0), (15, .int .u8 ((d.fi : Nat) : Int)), (16, .slice (some ⟨kb, 0, none⟩) d.m d.m), (17, .slice (some ⟨sb, 0, none⟩) d.m d.m), (18, .slice (some ⟨ob, 0, none⟩) d.m d.m), (20, .slice (some ⟨gp, 0, none⟩) (d.O i) cap), (149, .int .i64 ((i : Nat) : Int))] := HQ.keep S41
    obtain ⟨w5, hw5⟩ : ∃ x, w4.setCell ⟨hbk, 0, none⟩ (.int .u8 ((d.N (i + 1) : Nat) : Int)) = x := ⟨_, rfl⟩
    have o5 : Only hbk w3 w5 := by rw [← hw5]; exact o4.trans (only_set hbk 0 _ w4)
    have r5 : w5.rowIs hbk 5 (d.S i) (U (fun j => if j = 0 then d.N (i + 1) else d.Z i)) := by rw [← hw5]; exact U_set r4 (fun _ _ => rfl)
    rw [hw5]
    refine wp_seq (wp_use (f47 hbk (d.S i) eb (d.L i) _ w5 (r5.cell (by omega)) (r5.frozen 1) (by omega) (by rw [cell_of_row _ _ 1 _ 56 (0, 0) (ce w5 o5)]; rfl) f41 H41.2.2.1 H41.1 _ ?_))
    intro f42  S42  
    have H42 : Has f42 [(28, .slice (some ⟨hbk, 0, none⟩) (d.S i) (d.S i)), (27, .int .u8 ((d.N (i + 1) : Nat) : Int)), (26, .pointer (some ⟨eb, 0, none⟩)), (25, .int .i64 ((i : Nat) : Int)), (0, .slice (some ⟨xb, xo, none⟩) d.m c0), (15, .int .u8 ((d.fi : Nat) : Int)), (16, .slice (some ⟨kb, 0, none⟩) d.m d.m), (17, .slice (some ⟨sb, 0, none⟩) d.m d.m), (18, .slice (some ⟨ob, 0, none⟩) d.m d.m), (20, .slice (some ⟨gp, 0, none⟩) (d.O i) cap), (149, .int .i64 ((i : Nat) : Int))] := H41.keep S42
    obtain ⟨w6, hw6⟩ : ∃ x, w5.setCell ⟨hbk, 1, none⟩ (.int .u8 ((d.L i : Nat) : Int)) = x := ⟨_, rfl⟩
    have o6 : Only hbk w3 w6 := by rw [← hw6]; exact o5.trans (only_set hbk 1 _ w5)
    have r6 : w6.rowIs hbk 5 (d.S i) (U (fun j => if j = 1 then d.L i else if j = 0 then d.N (i + 1) else d.Z i)) := by rw [← hw6]; exact U_set r5 (fun _ _ => rfl)
    rw [hw6]
    refine wp_join (fun a w' => ∃ f', a = F4 f' ∧ Same p f' [25, 26, 27, 28, 20, 151, 152, 153, 154, 155, 156, 157, 158, 159, 160, 161, 162, 163, 164, 165, 166, 167, 168, 169, 170, 171, 172, 173, 174, 175, 176, 177, 178, 179, 180, 181, 182, 183, 184, 185, 186, 187, 188, 189, 190, 191, 192, 193, 194, 195, 196, 197, 198, 199, 200, 201, 202, 203, 204, 205, 206, 207, 208, 209, 210, 211, 212, 213, 29] ∧ Has f' [(28, .slice (some ⟨hbk, 0, none⟩) (d.S i) (d.S i)), (27, .int .u8 ((d.N (i + 1) : Nat) : Int)), (26, .pointer (some ⟨eb, 0, none⟩)), (25, .int .i64 ((i : Nat) : Int)), (0, .slice (some ⟨xb, xo, none⟩) d.m c0), (15, .int .u8 ((d.fi : Nat) : Int)), (16, .slice (some ⟨kb, 0, none⟩) d.m d.m), (17, .slice (some ⟨sb, 0, none⟩) d.m d.m), (18, .slice (some ⟨ob, 0, none⟩) d.m d.m), (20, .slice (some ⟨gp, 0, none⟩) (d.O i) cap), (149, .int .i64 ((i : Nat) : Int))] ∧ Only hbk w3 w' ∧ w'.rowIs hbk 5 (d.S i) (U (d.hd i))) ?_ ?_
    · skip
      refine wp_seq (wp_use (f48 kb d.m i (d.K i) w6 hi (by rw [World.cell?_of_block (w := wq) ((o6.block kb (by have := hr5.k.lt; omega)).trans ((k3 kb (by have := hr5.k.lt; omega)).trans (k2 kb (by have := hr5.k.lt; omega) (Ne.symm ok1))))]; exact hr5.k.cell hi) f42 H42.2.2.2.2.2.2.1 H42.2.2.2.1 _ ?_))
      intro f43  S43 e43_199 
      have H43 : Has f43 [(199, .bool (decide (d.K i = 44))), (28, .slice (some ⟨hbk, 0, none⟩) (d.S i) (d.S i)), (27, .int .u8 ((d.N (i + 1) : Nat) : Int)), (26, .pointer (some ⟨eb, 0, none⟩)), (25, .int .i64 ((i : Nat) : Int)), (0, .slice (some ⟨xb, xo, none⟩) d.m c0), (15, .int .u8 ((d.fi : Nat) : Int)), (16, .slice (some ⟨kb, 0, none⟩) d.m d.m), (17, .slice (some ⟨sb, 0, none⟩) d.m d.m), (18, .slice (some ⟨ob, 0, none⟩) d.m d.m), (20, .slice (some ⟨gp, 0, none⟩) (d.O i) cap), (149, .int .i64 ((i : Nat) : Int))] := ⟨e43_199, H42.keep S43⟩
      refine wp_cond (t := decide (d.K i = 44)) (ev rfl e43_199) ?_
      by_cases hk : d.K i = 44
      · skip
        rw [decide_eq_true hk, if_pos rfl]
        refine wp_seq (wp_use (f49 hbk (d.S i) eb (d.Fr i) _ w6 (r6.cell (by omega)) (r6.frozen 2) (by omega) (by rw [cell_of_row _ _ 2 _ 56 (0, 0) (ce w6 o6)]; rfl) (hd.Fr i) f43 H43.2.2.2.1 H43.2.1 _ ?_))
        intro f44  S44  
        have H44 : Has f44 [(199, .bool (decide (d.K i = 44))), (28, .slice (some ⟨hbk, 0, none⟩) (d.S i) (d.S i)), (27, .int .u8 ((d.N (i + 1) : Nat) : Int)), (26, .pointer (some ⟨eb, 0, none⟩)), (25, .int .i64 ((i : Nat) : Int)), (0, .slice (some ⟨xb, xo, none⟩) d.m c0), (15, .int .u8 ((d.fi : Nat) : Int)), (16, .slice (some ⟨kb, 0, none⟩) d.m d.m), (17, .slice (some ⟨sb, 0, none⟩) d.m d.m), (18, .slice (some ⟨ob, 0, none⟩) d.m d.m), (20, .slice (some ⟨gp, 0, none⟩) (d.O i) cap), (149, .int .i64 ((i : Nat) : Int))] := H43.keep S44
        obtain ⟨w7, hw7⟩ : ∃ x, w6.setCell ⟨hbk, 2, none⟩ (.int .u8 ((d.Fr i / 256 : Nat) : Int)) = x := ⟨_, rfl⟩
        have o7 : Only hbk w3 w7 := by rw [← hw7]; exact o6.trans (only_set hbk 2 _ w6)
        have r7 : w7.rowIs hbk 5 (d.S i) (U (fun j => if j = 2 then d.Fr i / 256 else if j = 1 then d.L i else if j = 0 then d.N (i + 1) else d.Z i)) := by rw [← hw7]; exact U_set r6 (fun _ _ => rfl)
        rw [hw7]
        refine wp_use (f50 hbk (d.S i) eb (d.Fr i) _ w7 (r7.cell (by omega)) (r7.frozen 3) (by omega) (by rw [cell_of_row _ _ 2 _ 56 (0, 0) (ce w7 o7)]; rfl) f44 H44.2.2.2.1 H44.2.1 _ ?_)
        intro f45  S45  
        have H45 : Has f45 [(199, .bool (decide (d.K i = 44))), (28, .slice (some ⟨hbk, 0, none⟩) (d.S i) (d.S i)), (27, .int .u8 ((d.N (i + 1) : Nat) : Int)), (26, .pointer (some ⟨eb, 0, none⟩)), (25, .int .i64 ((i : Nat) : Int)), (0, .slice (some ⟨xb, xo, none⟩) d.m c0), (15, .int .u8 ((d.fi : Nat) : Int)), (16, .slice (some ⟨kb, 0, none⟩) d.m d.m), (17, .slice (some ⟨sb, 0, none⟩) d.m d.m), (18, .slice (some ⟨ob, 0, none⟩) d.m d.m), (20, .slice (some ⟨gp, 0, none⟩) (d.O i) cap), (149, .int .i64 ((i : Nat) : Int))] := H44.keep S45
        exact ⟨_, rfl, (((((((Same.wide S21 (L := [25, 26, 27, 28, 20, 151, 152, 153, 154, 155, 156, 157, 158, 159, 160, 161, 162, 163, 164, 165, 166, 167, 168, 169, 170, 171, 172, 173, 174, 175, 176, 177, 178, 179, 180, 181, 182, 183, 184, 185, 186, 187, 188, 189, 190, 191, 192, 193, 194, 195, 196, 197, 198, 199, 200, 201, 202, 203, 204, 205, 206, 207, 208, 209, 210, 211, 212, 213, 29]) rfl).trans SQ rfl).trans S41 rfl).trans S42 rfl).trans S43 rfl).trans S44 rfl).trans S45 rfl), ⟨H45.2.1, H45.2.2.1, H45.2.2.2.1, H45.2.2.2.2.1, H45.2.2.2.2.2.1, H45.2.2.2.2.2.2.1, H45.2.2.2.2.2.2.2.1, H45.2.2.2.2.2.2.2.2.1, H45.2.2.2.2.2.2.2.2.2.1, H45.2.2.2.2.2.2.2.2.2.2.1, H45.2.2.2.2.2.2.2.2.2.2.2.1, trivial⟩, o7.trans (only_set hbk 3 _ w7), U_set r7 (fun j hj => by unfold D.hd; rw [if_pos hk])⟩
      · skip
        rw [decide_eq_false hk, if_neg Bool.false_ne_true]
        refine wp_skip ?_
        exact ⟨_, rfl, (((((Same.wide S21 (L := [25, 26, 27, 28, 20, 151, 152, 153, 154, 155, 156, 157, 158, 159, 160, 161, 162, 163, 164, 165, 166, 167, 168, 169, 170, 171, 172, 173, 174, 175, 176, 177, 178, 179, 180, 181, 182, 183, 184, 185, 186, 187, 188, 189, 190, 191, 192, 193, 194, 195, 196, 197, 198, 199, 200, 201, 202, 203, 204, 205, 206, 207, 208, 209, 210, 211, 212, 213, 29]) rfl).trans SQ rfl).trans S41 rfl).trans S42 rfl).trans S43 rfl), ⟨H43.2.1, H43.2.2.1, H43.2.2.2.1, H43.2.2.2.2.1, H43.2.2.2.2.2.1, H43.2.2.2.2.2.2.1, H43.2.2.2.2.2.2.2.1, H43.2.2.2.2.2.2.2.2.1, H43.2.2.2.2.2.2.2.2.2.1, H43.2.2.2.2.2.2.2.2.2.2.1, H43.2.2.2.2.2.2.2.2.2.2.2.1, trivial⟩, o6, r6.congr (fun j hj => by simp only [U, D.hd]; rw [if_neg hk])⟩
    · skip
      rintro a w8 ⟨u, rfl, SU, Hu, o8, r8⟩
      have k8 : ∀ b, b < eb → b ≠ ob → w8.heap[b]? = wq.heap[b]? := fun b h1 h2 => (o8.block b (by omega)).trans ((k3 b (by omega)).trans (k2 b h1 h2))
      have s8 : w8.heap.size = hbk + 1 := o8.size.trans s3
      have b8 : Below B w w8 := below_only b3 (by omega) o8
      have own8 := own_block hown (k8 gp (by omega) (Ne.symm no))
      have rows8 : Rows5 d kb sb ob rb db (i + 1) w8 := ⟨hr5.k.of_block (k8 _ (by have := hr5.k.lt; omega) (Ne.symm ok1)), hr5.s.of_block (k8 _ (by have := hr5.s.lt; omega) (Ne.symm ok2)), o2.of_block ((o8.block ob (by omega)).trans (k3 ob (by omega))), hr5.r.of_block (k8 _ (by have := hr5.r.lt; omega) (Ne.symm ok3)), hr5.t.of_block (k8 _ (by have := hr5.t.lt; omega) (Ne.symm ok4))⟩
      refine wp_use (f51 gp (d.O i) cap hbk 0 (d.S i) (d.S i) B (d.P i) (d.hd i) w8 (by omega) (by omega) (by omega) own8 (fun k hk => by rw [Nat.zero_add]; exact r8.cell hk) u Hu.2.2.2.2.2.2.2.2.2.1 Hu.1 _ ?_)
      intro f61 g' cap' wy S61 e61_20 hown2 hgrow hg2 hgl2
      have H61 : Has f61 [(20, .slice (some ⟨g', 0, none⟩) (d.O i + d.S i) cap'), (28, .slice (some ⟨hbk, 0, none⟩) (d.S i) (d.S i)), (27, .int .u8 ((d.N (i + 1) : Nat) : Int)), (26, .pointer (some ⟨eb, 0, none⟩)), (25, .int .i64 ((i : Nat) : Int)), (0, .slice (some ⟨xb, xo, none⟩) d.m c0), (15, .int .u8 ((d.fi : Nat) : Int)), (16, .slice (some ⟨kb, 0, none⟩) d.m d.m), (17, .slice (some ⟨sb, 0, none⟩) d.m d.m), (18, .slice (some ⟨ob, 0, none⟩) d.m d.m), (149, .int .i64 ((i : Nat) : Int))] := ⟨e61_20, Hu.keep S61⟩
      rw [byt_app] at hown2
      have blk : ∀ b, b < w8.heap.size → b ≠ gp → wy.heap[b]? = w8.heap[b]? := fun b h1 h2 => hgrow.block b h1 (fun q => h2 (by injection q))
      have hr' := rows8.keep nk ns no nr nt blk
      have lk := hr5.k.lt
      have ls := hr5.s.lt
      have lr := hr5.r.lt
      have lt' := hr5.t.lt
      refine hK _ g' cap' wy ((SP.trans SU rfl).trans S61 rfl) e61_20 (b8.grown hgrow (by omega) (fun k hk => by injection hk with hk; omega)) (by have := hgrow.size; omega) hr' ?_ hown2
      rcases hg2 with rfl | rfl
      · exact ⟨nk, ns, no, nr, nt⟩
      · exact ⟨by omega, by omega, by omega, by omega, by omega⟩
set_option maxRecDepth 100000 in
set_option maxHeartbeats 1000000 in
theorem partC (F : Interp) (d : D) (hd : d.Ok) (udp : Bool) (hu : d.fi = if udp then 17 else 6) (a0 : Option Addr) (xb xo c0 kb sb ob rb db gp cap : Nat) (ha0 : 0 < d.m → a0 = some ⟨xb, xo, none⟩) (zp : Option Addr) (ea : Addr) (ce : Array Value) (te : TypeId) (B : Nat) (w wa : World) (hb : Below B w wa) (hBs : B ≤ wa.heap.size) (hBw : w.heap.size ≤ B) (hF : F.answers w.tape)
    (hx : ∀ i, i < d.m → w.cell? ⟨xb, xo + i * 4, none⟩ = some (.int .u8 ((d.kd i : Nat) : Int)) ∧ w.cell? ⟨xb, xo + i * 4 + 1, none⟩ = some (.int .u8 ((d.L i : Nat) : Int)) ∧ w.cell? ⟨xb, xo + i * 4 + 2, none⟩ = some (.int .u16 ((d.Fr i : Nat) : Int)) ∧ w.cell? ⟨xb, xo + i * 4 + 3, none⟩ = some (.int .u8 ((d.Z i : Nat) : Int)))
    (hea : w.heap[ea.block]? = some (.cells ce te (0, 0))) (hg0 : w.cell? ⟨0, 0, none⟩ = some (.iface 108 (.pointer (some ea)))) (hg3 : w.cell? ⟨3, 0, none⟩ = some (.pointer zp))
    (a4 : Option Addr) (tb to tl c4 : Nat) (ha4 : 0 < tl → a4 = some ⟨tb, to, none⟩) (htl : tl ≤ 4096) (hT : ∀ k, k < tl → w.cell? ⟨tb, to + k, none⟩ = some (.int .u8 ((d.T k : Nat) : Int))) (ct : Nat) (dc : Bool) (hct : ct < 4294967296)
    (hr5 : Rows5 d kb sb ob rb db 0 wa) (hne : kb ≠ gp ∧ sb ≠ gp ∧ ob ≠ gp ∧ rb ≠ gp ∧ db ≠ gp) (hdis : ob ≠ kb ∧ ob ≠ sb ∧ ob ≠ rb ∧ ob ≠ db) (hBo : B ≤ ob) (hown : wa.ownsRow B 5 1 (.slice (some ⟨gp, 0, none⟩) 40 cap) 40 (byt (d.P 0) 40))
    (f : Nat → Value) (H : Has f [(0, .slice a0 d.m c0), (2, .int .u16 ((d.py : Nat) : Int)), (3, .bool udp), (4, .slice a4 tl c4), (5, .int .u32 ((ct : Nat) : Int)), (6, .bool dc), (15, .int .u8 ((d.fi : Nat) : Int)), (16, .slice (some ⟨kb, 0, none⟩) d.m d.m), (17, .slice (some ⟨sb, 0, none⟩) d.m d.m), (18, .slice (some ⟨ob, 0, none⟩) d.m d.m), (20, .slice (some ⟨gp, 0, none⟩) 40 cap), (21, .slice (some ⟨rb, 0, none⟩) 16 16), (22, .slice (some ⟨db, 0, none⟩) 16 16)]) :
    Code.wp Ybaf.prog (dropC 18 l4) (bodyPost Ybaf.prog Ybaf.f4 fun e w' => e = .returned (.bool true) ∧ Below B w w') (F4 f) wa := by
  have hm256 := hd.m
  have l3 : 3 < w.heap.size := World.block_lt_of_cell? w _ hg3
  have lea : ea.block < w.heap.size := (Array.getElem?_eq_some_iff.1 hea).1
  have cel : ∀ (x : World), Below B w x → ∀ b o v, w.cell? ⟨b, o, none⟩ = some v → x.cell? ⟨b, o, none⟩ = some v := fun x hx b o v hc => by
    rw [hx.cell (by have := World.block_lt_of_cell? w _ hc; exact Nat.lt_of_lt_of_le this hBw)]; exact hc
  rw [l4_18]
  refine wp_seq (wp_seq (wp_use (f32 a0 d.m c0 wa f H.1 _ ?_)))
  intro f1  S1 e1_148 e1_149 
  have H1 : Has f1 [(148, .int .i64 ((d.m : Nat) : Int)), (149, .int .i64 ((0 : Nat) : Int)), (0, .slice a0 d.m c0), (2, .int .u16 ((d.py : Nat) : Int)), (3, .bool udp), (4, .slice a4 tl c4), (5, .int .u32 ((ct : Nat) : Int)), (6, .bool dc), (15, .int .u8 ((d.fi : Nat) : Int)), (16, .slice (some ⟨kb, 0, none⟩) d.m d.m), (17, .slice (some ⟨sb, 0, none⟩) d.m d.m), (18, .slice (some ⟨ob, 0, none⟩) d.m d.m), (20, .slice (some ⟨gp, 0, none⟩) 40 cap), (21, .slice (some ⟨rb, 0, none⟩) 16 16), (22, .slice (some ⟨db, 0, none⟩) 16 16)] := ⟨e1_148, e1_149, H.keep S1⟩
  refine wp_block (wp_loop (fun a wq => ∃ (q : Nat → Value) (i g cp : Nat), a = F4 q ∧ i ≤ d.m ∧ Has q [(0, .slice a0 d.m c0), (2, .int .u16 ((d.py : Nat) : Int)), (3, .bool udp), (4, .slice a4 tl c4), (5, .int .u32 ((ct : Nat) : Int)), (6, .bool dc), (15, .int .u8 ((d.fi : Nat) : Int)), (16, .slice (some ⟨kb, 0, none⟩) d.m d.m), (17, .slice (some ⟨sb, 0, none⟩) d.m d.m), (18, .slice (some ⟨ob, 0, none⟩) d.m d.m), (21, .slice (some ⟨rb, 0, none⟩) 16 16), (22, .slice (some ⟨db, 0, none⟩) 16 16), (20, .slice (some ⟨g, 0, none⟩) (d.O i) cp), (148, .int .i64 ((d.m : Nat) : Int)), (149, .int .i64 ((i : Nat) : Int))] ∧ Below B w wq ∧ B ≤ wq.heap.size ∧ Rows5 d kb sb ob rb db i wq ∧ (kb ≠ g ∧ sb ≠ g ∧ ob ≠ g ∧ rb ≠ g ∧ db ≠ g) ∧ wq.ownsRow B 5 1 (.slice (some ⟨g, 0, none⟩) (d.O i) cp) (d.O i) (byt (d.P i) (d.O i))) (fun a _ => d.m - (intOf (a.tmps.getD 149 undef)).toNat) ⟨f1, 0, gp, cap, rfl, Nat.zero_le _, ⟨H1.2.2.1, H1.2.2.2.1, H1.2.2.2.2.1, H1.2.2.2.2.2.1, H1.2.2.2.2.2.2.1, H1.2.2.2.2.2.2.2.1, H1.2.2.2.2.2.2.2.2.1, H1.2.2.2.2.2.2.2.2.2.1, H1.2.2.2.2.2.2.2.2.2.2.1, H1.2.2.2.2.2.2.2.2.2.2.2.1, H1.2.2.2.2.2.2.2.2.2.2.2.2.2.1, H1.2.2.2.2.2.2.2.2.2.2.2.2.2.2.1, H1.2.2.2.2.2.2.2.2.2.2.2.2.1, H1.1, H1.2.1, trivial⟩, hb, hBs, hr5, hne, hown⟩ ?_)
  rintro a wq ⟨q, i, g, cp, rfl, him, Q, hbq, hBq, hrq, hnq, hoq⟩
  rw [l4c_eq]
  refine wp_seq (wp_use (f33 i d.m wq q Q.2.2.2.2.2.2.2.2.2.2.2.2.2.1 Q.2.2.2.2.2.2.2.2.2.2.2.2.2.2.1 _ ?_))
  intro f11  S11 e11_150 
  have H11 : Has f11 [(150, .bool (decide (i < d.m))), (0, .slice a0 d.m c0), (2, .int .u16 ((d.py : Nat) : Int)), (3, .bool udp), (4, .slice a4 tl c4), (5, .int .u32 ((ct : Nat) : Int)), (6, .bool dc), (15, .int .u8 ((d.fi : Nat) : Int)), (16, .slice (some ⟨kb, 0, none⟩) d.m d.m), (17, .slice (some ⟨sb, 0, none⟩) d.m d.m), (18, .slice (some ⟨ob, 0, none⟩) d.m d.m), (21, .slice (some ⟨rb, 0, none⟩) 16 16), (22, .slice (some ⟨db, 0, none⟩) 16 16), (20, .slice (some ⟨g, 0, none⟩) (d.O i) cp), (148, .int .i64 ((d.m : Nat) : Int)), (149, .int .i64 ((i : Nat) : Int))] := ⟨e11_150, Q.keep S11⟩
  refine wp_seq (wp_cond (t := decide (i < d.m)) (ev rfl e11_150) ?_)
  by_cases hi : i < d.m
  · skip
    rw [decide_eq_true hi, if_pos rfl]
    refine wp_skip ?_
    obtain rfl := ha0 (by omega)
    obtain ⟨x0, x1, x2, x3⟩ := hx i hi
    refine wp_seq (wp_block (wp_use (round3 d hd xb xo c0 kb sb ob rb db g cp i B w wq hi hbq hBq (cel wq hbq _ _ _ x0) (cel wq hbq _ _ _ x1) (cel wq hbq _ _ _ x2) (cel wq hbq _ _ _ x3) hrq hnq hdis hBo hoq f11 ⟨H11.2.1, H11.2.2.2.2.2.2.2.1, H11.2.2.2.2.2.2.2.2.1, H11.2.2.2.2.2.2.2.2.2.1, H11.2.2.2.2.2.2.2.2.2.2.1, H11.2.2.2.2.2.2.2.2.2.2.2.2.2.1, H11.2.2.2.2.2.2.2.2.2.2.2.2.2.2.2.1, trivial⟩ _ ?_)))
    intro u g' cap' wy SU e20 bwy hBy hry hny hoy
    have HU : Has u [(20, .slice (some ⟨g', 0, none⟩) (d.O (i + 1)) cap'), (150, .bool (decide (i < d.m))), (0, .slice (some ⟨xb, xo, none⟩) d.m c0), (2, .int .u16 ((d.py : Nat) : Int)), (3, .bool udp), (4, .slice a4 tl c4), (5, .int .u32 ((ct : Nat) : Int)), (6, .bool dc), (15, .int .u8 ((d.fi : Nat) : Int)), (16, .slice (some ⟨kb, 0, none⟩) d.m d.m), (17, .slice (some ⟨sb, 0, none⟩) d.m d.m), (18, .slice (some ⟨ob, 0, none⟩) d.m d.m), (21, .slice (some ⟨rb, 0, none⟩) 16 16), (22, .slice (some ⟨db, 0, none⟩) 16 16), (148, .int .i64 ((d.m : Nat) : Int)), (149, .int .i64 ((i : Nat) : Int))] := ⟨e20, H11.keep SU⟩
    show Code.wp _ _ _ _ _
    refine wp_use (f52 i d.m wy hi hm256 u HU.2.2.2.2.2.2.2.2.2.2.2.2.2.2.2.1 _ ?_)
    intro f31  S31 e31_149 
    have H31 : Has f31 [(149, .int .i64 ((i + 1 : Nat) : Int)), (20, .slice (some ⟨g', 0, none⟩) (d.O (i + 1)) cap'), (150, .bool (decide (i < d.m))), (0, .slice (some ⟨xb, xo, none⟩) d.m c0), (2, .int .u16 ((d.py : Nat) : Int)), (3, .bool udp), (4, .slice a4 tl c4), (5, .int .u32 ((ct : Nat) : Int)), (6, .bool dc), (15, .int .u8 ((d.fi : Nat) : Int)), (16, .slice (some ⟨kb, 0, none⟩) d.m d.m), (17, .slice (some ⟨sb, 0, none⟩) d.m d.m), (18, .slice (some ⟨ob, 0, none⟩) d.m d.m), (21, .slice (some ⟨rb, 0, none⟩) 16 16), (22, .slice (some ⟨db, 0, none⟩) 16 16), (148, .int .i64 ((d.m : Nat) : Int))] := ⟨e31_149, HU.keep S31⟩
    refine ⟨⟨_, i + 1, g', cap', rfl, hi, ⟨H31.2.2.2.1, H31.2.2.2.2.1, H31.2.2.2.2.2.1, H31.2.2.2.2.2.2.1, H31.2.2.2.2.2.2.2.1, H31.2.2.2.2.2.2.2.2.1, H31.2.2.2.2.2.2.2.2.2.1, H31.2.2.2.2.2.2.2.2.2.2.1, H31.2.2.2.2.2.2.2.2.2.2.2.1, H31.2.2.2.2.2.2.2.2.2.2.2.2.1, H31.2.2.2.2.2.2.2.2.2.2.2.2.2.1, H31.2.2.2.2.2.2.2.2.2.2.2.2.2.2.1, H31.2.1, H31.2.2.2.2.2.2.2.2.2.2.2.2.2.2.2.1, H31.1, trivial⟩, bwy, hBy, hry, hny, hoy⟩, ?_⟩
    show d.m - (intOf ((F4 f31).tmps.getD 149 undef)).toNat < d.m - (intOf ((F4 q).tmps.getD 149 undef)).toNat
    rw [evG (N := 422) rfl e31_149, evG (N := 422) rfl Q.2.2.2.2.2.2.2.2.2.2.2.2.2.2.1]
    simp only [intOf]
    omega
  · skip
    rw [decide_eq_false hi, if_neg Bool.false_ne_true]
    refine wp_exit ?_
    simp only [Exit.inBlock, Exit.then, if_true]
    obtain rfl : i = d.m := by omega
    obtain ⟨nk, ns, no, nr, nt⟩ := hnq
    have hO2 := d.O_ge d.m
    obtain ⟨hcl, hcap, hBg, hgl⟩ := own_cells hoq (by omega)
    have hmem : Mem d xb xo kb ob rb db wq := ⟨fun i hi => cel wq hbq _ _ _ (hx i hi).2.2.1, fun i hi => hrq.k.cell hi, fun i hi => by rw [hrq.o.cell hi]; simp only [V]; rw [if_pos hi], fun k hk => by rw [hrq.r.cell hk, D.C_src hk]; rfl, fun k hk => by rw [hrq.t.cell hk, D.C_dst hk]; rfl⟩
    exact partD F d hd udp hu a0 xb xo c0 kb ob rb db g cp ha0 zp ea ce te B w wq hbq hBq (by rw [hbq.tape]; exact hF) hmem (by rw [hbq.block _ (by omega)]; exact hea) (cel wq hbq _ _ _ hg0) (cel wq hbq _ _ _ hg3) a4 tb to tl c4 ha4 htl (fun k hk => cel wq hbq _ _ _ (hT k hk)) ct dc hct (fun h0 => by have := World.block_lt_of_cell? w _ (hx 0 h0).1; have h2 : xb < w.heap.size := this; omega) nk no nr nt (by omega) (by omega) hoq f11 ⟨H11.2.1, H11.2.2.1, H11.2.2.2.1, H11.2.2.2.2.1, H11.2.2.2.2.2.1, H11.2.2.2.2.2.2.1, H11.2.2.2.2.2.2.2.2.1, H11.2.2.2.2.2.2.2.2.2.2.1, H11.2.2.2.2.2.2.2.2.2.2.2.2.2.1, H11.2.2.2.2.2.2.2.2.2.2.2.1, H11.2.2.2.2.2.2.2.2.2.2.2.2.1, trivial⟩
end Go.Proofs.YbulkblsgFmt

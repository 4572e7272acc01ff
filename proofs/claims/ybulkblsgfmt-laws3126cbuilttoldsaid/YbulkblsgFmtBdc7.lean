import Derived.Test.YbulkblsgFmtBdc6
namespace Go.Proofs.YbulkblsgFmt
open Go.RowKit Go.Extern.Stop Go.Stop Go.Extern
set_option linter.unusedVariables false
set_option linter.unusedSimpArgs false
theorem lp_six {n : Nat} {C : Nat → Nat} {f o : Nat} {fg : Bool} : lp n C (f + 1) 6 o fg = .fin o fg := by rw [lp, if_pos rfl]
theorem lp_cut {n : Nat} {C : Nat → Nat} {f nx o : Nat} {fg : Bool} (h6 : ¬ nx = 6) (h : stp n C nx o fg = .cut) : lp n C (f + 1) nx o fg = .cut := by rw [lp, if_neg h6, h]
theorem lp_skip {n : Nat} {C : Nat → Nat} {f nx o : Nat} {fg : Bool} (h6 : ¬ nx = 6) (h : stp n C nx o fg = .skip) : lp n C (f + 1) nx o fg = .skip := by rw [lp, if_neg h6, h]
theorem lp_go {n : Nat} {C : Nat → Nat} {f nx o m : Nat} {fg fg' : Bool} (h6 : ¬ nx = 6) (h : stp n C nx o fg = .go m fg') : lp n C (f + 1) nx o fg = lp n C f (C o) (o + m) fg' := by rw [lp, if_neg h6, h]
theorem range16 {w : World} {b off n lo : Nat} {C : Nat → Nat} (hC : ∀ k, k < n → w.cell? ⟨b, off + k, none⟩ = some (.int .u8 ((C k : Nat) : Int)) ∧ C k ≤ 255) (h : lo + 16 ≤ n) : w.rangeAt b (off + lo) (row16 (fun k => C (lo + k))).toList := by
  intro j v hv
  have hj : j < 16 := (List.getElem?_eq_some_iff.1 hv).1
  have e := row16_at (fun k => C (lo + k)) j hj
  have hv' : (row16 (fun k => C (lo + k)))[j]? = some v := by simpa using hv
  rw [e] at hv'
  rw [show off + lo + j = off + (lo + j) from by omega, (hC (lo + j) (by omega)).1]
  exact hv'
set_option maxRecDepth 100000 in
set_option maxHeartbeats 1000000 in
theorem decode_any (F : Interp) (a0 : Option Addr) (b off n c : Nat) (C : Nat → Nat) (zp : Option Addr) (ev : Value) (w : World) (hF : F.answers w.tape) (ha : 40 ≤ n → a0 = some ⟨b, off, none⟩)
    (hC : ∀ k, k < n → w.cell? ⟨b, off + k, none⟩ = some (.int .u8 ((C k : Nat) : Int)) ∧ C k ≤ 255) (hn : n ≤ 1000000) (hcap : n ≤ c) (hg0 : w.cell? ⟨0, 0, none⟩ = some ev) (hg3 : w.cell? ⟨3, 0, none⟩ = some (.pointer zp)) :
    Calls Ybaf.prog 14 #[.slice a0 n c] w fun e w' => ∃ pk ok er, e = .returned (.tuple #[.agg pk, .bool ok, er]) ∧ Below w.heap.size w w' ∧ Res b off n c C zp ev w.heap.size w' pk ok er := by
  have l3 : 3 < w.heap.size := World.block_lt_of_cell? w _ hg3
  obtain ⟨w1, hw1⟩ : ∃ x, w.alloc (.cells zpk 67) = x := ⟨_, rfl⟩
  have b1 : Below w.heap.size w w1 := by rw [← hw1]; exact al (Below.refl _ _) _
  have s1 : w1.heap.size = w.heap.size + 1 := by rw [← hw1]; simp
  have r1 : w1.heap[w.heap.size]? = some (.cells zpk 67 (0, 0)) := by rw [← hw1]; exact heap_alloc_new _ _
  have hFx : ∀ x, Below w.heap.size w x → F.answers x.tape := fun x hx => by rw [hx.tape]; exact hF
  go_enter Ybaf.func14, Ybaf.ntmps14
  change Code.wp Ybaf.prog d14 _ _ _
  rw [dH_eq]
  refine wp_seq (wp_use (d0 w _ ?_))
  rw [hw1]
  refine wp_seq (wp_seq (wp_use (d1 a0 n c w1 _ ?_)))
  intro y12 y13
  refine wp_cond (t := decide ((n : Int) < 40)) (by kernel_rfl) ?_
  by_cases h40 : n < 40
  · rw [decide_eq_true (show (n : Int) < 40 by omega), if_pos rfl]
    refine wp_seq (wp_use (d2 F w.heap.size w.heap.size w w1 zpk b1 (Nat.le_refl _) r1 rfl (hFx _ b1) _ ?_))
    intros
    rename_i er wy q1 q2 q3
    refine wp_ret ?_
    simp only [Exit.then]
    exact ret14 (N := w.heap.size) (ok := false) (er := er) ⟨rfl, rfl, rfl, rfl⟩ q1 rfl ⟨_, _, _, rfl, q2, by rw [Res, if_pos (Or.inl h40)]; exact ⟨rfl, rfl, newE_le (by omega) q3⟩⟩
  rw [decide_eq_false (show ¬ (n : Int) < 40 by omega), if_neg Bool.false_ne_true]
  refine wp_skip ?_
  obtain rfl := ha (by omega)
  have lb : b < w.heap.size := World.block_lt_of_cell? w _ (hC 0 (by omega)).1
  have hCx : ∀ x, Below w.heap.size w x → ∀ k, k < n → x.cell? ⟨b, off + k, none⟩ = some (.int .u8 ((C k : Nat) : Int)) ∧ C k ≤ 255 := fun x hx k hk => ⟨by rw [hx.cell (by exact lb)]; exact (hC k hk).1, (hC k hk).2⟩
  refine wp_seq (wp_seq (wp_use (d3 b off n c (C 0) w1 (by omega) (by have := (hCx w1 b1 0 (by omega)).1; rw [Nat.add_zero] at this; exact this) (hC 0 (by omega)).2 _ ?_)))
  intro y17 y18 y19 y20
  refine wp_cond (t := !((C 0 : Int) / 16 == 6)) (by kernel_rfl) ?_
  by_cases hv : ¬ C 0 / 16 = 6
  · have e : (!((C 0 : Int) / 16 == 6)) = true := by simp; omega
    rw [e, if_pos rfl]
    refine wp_seq (wp_use (d4 w.heap.size w.heap.size w w1 zpk b1 (Nat.le_refl _) r1 rfl _ ?_))
    intros
    rename_i er wy q1 q2 q3
    refine wp_ret ?_
    simp only [Exit.then]
    exact ret14 (N := w.heap.size) (ok := false) (er := er) ⟨rfl, rfl, rfl, rfl⟩ q1 rfl ⟨_, _, _, rfl, q2, by rw [Res, if_pos (Or.inr hv)]; exact ⟨rfl, rfl, newE_le (by omega) q3⟩⟩
  have hv' : C 0 / 16 = 6 := by omega
  have e : (!((C 0 : Int) / 16 == 6)) = false := by simp; omega
  rw [e, if_neg Bool.false_ne_true]
  refine wp_skip ?_
  refine wp_seq (wp_use (d5 w1 _ ?_))
  obtain ⟨w2, hw2⟩ : ∃ x, w1.alloc (.cells zpk 67) = x := ⟨_, rfl⟩
  have b2 : Below w.heap.size w w2 := by rw [← hw2]; exact b1.alloc b1.size _
  have r2 : w2.heap[w.heap.size]? = some (.cells zpk 67 (0, 0)) := by rw [← hw2, Below.heap_alloc _ _ _ (by omega)]; exact r1
  have p2 : w2.heap[w.heap.size + 1]? = some (.cells zpk 67 (0, 0)) := by rw [← hw2, ← s1]; exact heap_alloc_new _ _
  rw [hw2, s1]
  have hX : ∀ lo, lo + 16 ≤ n → ∀ k, k < 16 → C (lo + k) ≤ 255 := fun lo hlo k hk => (hC (lo + k) (by omega)).2
  refine wp_seq (wp_use (d6 (fun k => C (8 + k)) (fun k => C (24 + k)) zp b off n c (w.heap.size + 1) w.heap.size w w2 b2 (by omega) (hX 8 (by omega)) (by omega) (by rw [b2.cell (by exact l3)]; exact hg3) (range16 (hCx w2 b2) (by omega)) p2 _ ?_))
  intro y25 y26 y27 y24 y28 y29 y30 w3 p3 b3 o3
  have s2 : w.heap.size + 1 < w2.heap.size := (Array.getElem?_eq_some_iff.1 p2).1
  have r3 : w3.heap[w.heap.size]? = some (.cells zpk 67 (0, 0)) := by rw [o3 _ (by omega) (by omega)]; exact r2
  refine wp_seq (wp_use (d7 (fun k => C (8 + k)) (fun k => C (24 + k)) zp b off n c (w.heap.size + 1) w.heap.size w w3 b3 (by omega) (hX 24 (by omega)) (by omega) (by rw [b3.cell (by exact l3)]; exact hg3) (range16 (hCx w3 b3) (by omega)) p3 _ ?_))
  intro y32 y33 y34 y31 y35 y36 y37 w4 p4 b4 o4
  have s3 : w.heap.size + 1 < w3.heap.size := (Array.getElem?_eq_some_iff.1 p3).1
  have r4 : w4.heap[w.heap.size]? = some (.cells zpk 67 (0, 0)) := by rw [o4 _ (by omega) (by omega)]; exact r3
  have s4 : w.heap.size + 1 < w4.heap.size := (Array.getElem?_eq_some_iff.1 p4).1
  refine wp_seq (wp_use (d8 b off n c (C 4) (C 5) (C 6) w4 (by omega) hcap (hCx w4 b4 4 (by omega)).1 (hCx w4 b4 5 (by omega)).1 (hCx w4 b4 6 (by omega)).1 (hC 4 (by omega)).2 (hC 5 (by omega)).2 _ ?_))
  intro y38 y39 y40 y41 y42 y43 y44 y45 w5 bx
  have b5 : Below w.heap.size w w5 := b4.trans (below_le bx (by omega))
  have r5 : w5.heap[w.heap.size]? = some (.cells zpk 67 (0, 0)) := by rw [bx.block _ (by omega)]; exact r4
  have p5 : w5.heap[w.heap.size + 1]? = some (.cells (hdr C zp none 0 0 0) 67 (0, 0)) := by rw [bx.block _ (by omega)]; exact p4
  refine wp_seq (wp_use (d9 w5 _ ?_))
  have hpay : pay C ≤ 65535 := by have := (hC 4 (by omega)).2; have := (hC 5 (by omega)).2; unfold pay; omega
  have hnot : ¬ (n < 40 ∨ ¬ C 0 / 16 = 6) := by omega
  refine wp_seq (wp_block (wp_loop (fun a wq => ∃ (y10 y11 y46 y47 y48 y50 y51 y52 y53 y54 y55 y56 y57 y58 y61 y62 y63 y64 y65 y66 y67 y68 y69 y70 y71 y72 y73 y74 y75 y78 y79 y80 y81 y82 y83 y84 y85 y86 y87 y88 y89 y90 y91 y92 y95 y96 y97 y98 y99 y100 y101 y102 y103 y105 y106 y107 y108 y109 y110 y111 y112 y113 y114 y115 y116 y117 y118 y119 y120 : Value) (nx o f : Nat) (fg : Bool), a = { tmps := #[.slice (some ⟨b, off, none⟩) n c, undef, .pointer (some ⟨w.heap.size, 0, none⟩), .bool false, .nilIface, .pointer (some ⟨w.heap.size + 1, 0, none⟩), .int .u8 ((nx : Nat) : Int), .int .i64 ((pay C : Int) + 40 - (o : Int)), .int .i64 ((o : Nat) : Int), .bool fg, y10, y11, y12, y13, .bool false, undef, undef, y17, y18, y19, y20, .bool false, undef, undef, y24, y25, y26, y27, y28, y29, y30, y31, y32, y33, y34, y35, y36, y37, y38, y39, y40, y41, y42, y43, y44, y45, y46, y47, y48, undef, y50, y51, y52, y53, y54, y55, y56, y57, y58, undef, undef, y61, y62, y63, y64, y65, y66, y67, y68, y69, y70, y71, y72, y73, y74, y75, undef, undef, y78, y79, y80, y81, y82, y83, y84, y85, y86, y87, y88, y89, y90, y91, y92, undef, undef, y95, y96, y97, y98, y99, y100, y101, y102, y103, undef, y105, y106, y107, y108, y109, y110, y111, y112, y113, y114, y115, y116, y117, y118, y119, y120, undef, undef, undef, undef, undef, undef, undef, undef, undef, undef, undef, undef, undef, undef, undef, undef, undef, undef, undef, undef, undef, undef, undef, undef, undef, undef, undef], defers := [] } ∧ Below w.heap.size w wq ∧ wq.heap[w.heap.size]? = some (.cells zpk 67 (0, 0)) ∧ wq.heap[w.heap.size + 1]? = some (.cells (hdr C zp none 0 0 0) 67 (0, 0)) ∧ lp n C (f + 1) nx o fg = lp n C (n + 2) (C 6) 40 false ∧ n + 2 ≤ f + 1 + o ∧ o ≤ n + 2100) (fun a _ => n + 1 - (intOf (a.tmps.getD 8 undef)).toNat) ⟨undef, undef, undef, undef, undef, undef, undef, undef, undef, undef, undef, undef, undef, undef, undef, undef, undef, undef, undef, undef, undef, undef, undef, undef, undef, undef, undef, undef, undef, undef, undef, undef, undef, undef, undef, undef, undef, undef, undef, undef, undef, undef, undef, undef, undef, undef, undef, undef, undef, undef, undef, undef, undef, undef, undef, undef, undef, undef, undef, undef, undef, undef, undef, undef, undef, undef, undef, undef, undef, C 6, 40, n + 1, false, by rw [show (pay C : Int) + 40 - ((40 : Nat) : Int) = ((C 4 * 256 + C 5 : Nat) : Int) from by unfold pay; omega], b5, r5, p5, rfl, by omega, by omega⟩ ?_))
  rintro a wr ⟨y10, y11, y46, y47, y48, y50, y51, y52, y53, y54, y55, y56, y57, y58, y61, y62, y63, y64, y65, y66, y67, y68, y69, y70, y71, y72, y73, y74, y75, y78, y79, y80, y81, y82, y83, y84, y85, y86, y87, y88, y89, y90, y91, y92, y95, y96, y97, y98, y99, y100, y101, y102, y103, y105, y106, y107, y108, y109, y110, y111, y112, y113, y114, y115, y116, y117, y118, y119, y120, nx, o, f, fg, rfl, hbr, rN, rP, hl, hf, ho⟩
  refine wp_seq (wp_seq (wp_use (d10 nx wr _ ?_)))
  intro y46
  refine wp_cond (t := !((nx : Int) == 6)) (by kernel_rfl) ?_
  have hbs : w.heap.size + 1 < wr.heap.size := (Array.getElem?_eq_some_iff.1 rP).1
  by_cases h6 : nx = 6
  · have e6 : (!((nx : Int) == 6)) = false := by rw [h6]; rfl
    rw [e6, if_neg Bool.false_ne_true]
    subst h6
    rw [lp_six] at hl
    refine wp_exit ?_
    simp only [Exit.inBlock, Exit.then, if_true]
    refine dtail F zp ev w.heap.size w.heap.size (w.heap.size + 1) w wr hbr (by omega) (Nat.le_refl _) (by omega) (by omega) C b off n c o hcap fg rN rP (hFx _ hbr) (by rw [hbr.cell (by show 0 < w.heap.size; omega)]; exact hg0) (by omega) _ ?_
    intro a pk ok er wy ra hsz hrow hby hres
    exact ret14 ra hrow hsz ⟨pk, ok, er, rfl, hby, by rw [Res, if_neg hnot, ← hl]; exact hres⟩
  · have e6 : (!((nx : Int) == 6)) = true := by simp; omega
    rw [e6, if_pos rfl]
    refine wp_skip ?_
    refine wp_block (wp_useR (dround F ((be (fun k => C (8 + k)) : Nat) : Int) ((be (fun k => C (8 + (k + 8))) : Nat) : Int) zp ((be (fun k => C (24 + k)) : Nat) : Int) ((be (fun k => C (24 + (k + 8))) : Nat) : Int) zp none 0 0 0 w.heap.size w.heap.size (w.heap.size + 1) w wr hbr (Nat.le_refl _) rN rP (hFx _ hbr) C b off n c o (hCx wr hbr) hn (by omega) hcap nx fg ((pay C : Int) + 40 - (o : Int)) (by omega) (by omega) _ _ ?_ ?_ ?_))
    · intro hs a er wy ra he hrow hby
      simp only [Exit.inBlock, Exit.then]
      exact ret14 ra hrow rfl ⟨_, _, _, rfl, hby, by rw [Res, if_neg hnot, ← hl, lp_cut h6 hs]; exact ⟨rfl, rfl, newE_le (by omega) he⟩⟩
    · intro hs a wy ra hrow hby
      simp only [Exit.inBlock, Exit.then]
      exact ret14 ra hrow rfl ⟨_, _, _, rfl, hby, by rw [Res, if_neg hnot, ← hl, lp_skip h6 hs]; exact ⟨rfl, rfl, rfl⟩⟩
    · intro z10 z11 z48 z50 z51 z52 z53 z54 z55 z56 z57 z58 z61 z62 z63 z64 z65 z66 z67 z68 z69 z70 z71 z72 z73 z74 z75 z78 z79 z80 z81 z82 z83 z84 z85 z86 z87 z88 z89 z90 z91 z92 z95 z96 z97 z98 z99 z100 z101 z102 z103 z105 z106 z107 z108 z109 z110 z111 z112 z113 z114 z115 z116 z117 z118 z119 z120 m fg' wy hs m1 m2 m3 hby
      rw [lp_go h6 hs] at hl
      obtain ⟨f', rfl⟩ : ∃ f', f = f' + 1 := ⟨f - 1, by omega⟩
      refine ⟨⟨z10, z11, y46, .bool true, z48, z50, z51, z52, z53, z54, z55, z56, z57, z58, z61, z62, z63, z64, z65, z66, z67, z68, z69, z70, z71, z72, z73, z74, z75, z78, z79, z80, z81, z82, z83, z84, z85, z86, z87, z88, z89, z90, z91, z92, z95, z96, z97, z98, z99, z100, z101, z102, z103, z105, z106, z107, z108, z109, z110, z111, z112, z113, z114, z115, z116, z117, z118, z119, z120, C o, o + m, f', fg', ?_, hbr.trans (below_le hby (by omega)), by rw [hby.block _ (by omega)]; exact rN, by rw [hby.block _ (by omega)]; exact rP, hl, by omega, by omega⟩, ?_⟩
      · rw [show (pay C : Int) + 40 - ((o + m : Nat) : Int) = (pay C : Int) + 40 - (o : Int) - (m : Int) from by omega]
      · show n + 1 - (intOf (.int .i64 ((o + m : Nat) : Int))).toNat < n + 1 - (intOf (.int .i64 (o : Int))).toNat
        simp only [intOf]
        omega
end Go.Proofs.YbulkblsgFmt

import Derived.Test.YbulkblsgFmtBe
namespace Go.Proofs.YbulkblsgFmt
open Go.RowKit Go.Extern.Stop Go.Stop Go.Extern
set_option linter.unusedVariables false
set_option linter.unusedSimpArgs false
/-- Two roads that meet. -/
theorem wp_join {P : Program} {c r : Code} {Q : Exit → Act → World → Prop} {a : Act} {w : World} (J : Act → World → Prop) (h1 : c.wp P (Exit.then J Q) a w) (h2 : ∀ a w, J a w → r.wp P Q a w) : (c.seq r).wp P Q a w := by
  refine wp_seq ?_
  intro b k cs
  obtain ⟨e, a', w', q, rr⟩ := h1 b k cs
  refine ⟨e, a', w', ?_, rr⟩
  cases e with
  | normal => exact h2 _ _ q
  | _ => exact q
set_option maxRecDepth 100000 in
set_option maxHeartbeats 1000000 in
theorem partG (d : D) (hd : d.Ok) (udp : Bool) (hu : d.fi = if udp then 17 else 6) (a0 : Option Addr) (xb xo c0 kb ob rb db gp n cap l NP : Nat) (ha0 : 0 < d.m → a0 = some ⟨xb, xo, none⟩) (zp : Option Addr) (ea : Addr) (ce : Array Value) (te : TypeId) (X0 : Nat) (ok : Bool) (er : Value) (pk : Array Value) (B : Nat) (w wy : World) (hb : Below B w wy) (hBs : B ≤ wy.heap.size)
    (hfr : ∀ i, i < d.m → wy.cell? ⟨xb, xo + i * 4 + 2, none⟩ = some (.int .u16 ((d.Fr i : Nat) : Int))) (hK : ∀ i, i < d.m → wy.cell? ⟨kb, i, none⟩ = some (.int .u8 ((d.K i : Nat) : Int))) (hO : ∀ i, i < d.m → wy.cell? ⟨ob, i, none⟩ = some (.int .i64 ((d.O i : Nat) : Int)))
    (hs : ∀ k, k < 16 → wy.cell? ⟨rb, k, none⟩ = some (.int .u8 ((d.C (8 + k) : Nat) : Int))) (hds : ∀ k, k < 16 → wy.cell? ⟨db, k, none⟩ = some (.int .u8 ((d.C (24 + k) : Nat) : Int))) (hC : ∀ k, k < n → wy.cell? ⟨gp, k, none⟩ = some (.int .u8 ((d.C k : Nat) : Int)))
    (hl : l ≤ n) (hn : n ≤ 1000000) (hcap : n ≤ cap) (hOm : d.O d.m ≤ n) (hea : wy.heap[ea.block]? = some (.cells ce te (0, 0))) (heX : ea.block < X0) (hg0 : wy.cell? ⟨0, 0, none⟩ = some (.iface 108 (.pointer (some ea)))) (hp : wy.heap[NP]? = some (.cells pk 67 (0, 0))) (h40 : ¬ l < 40) (hres : Res gp 0 l cap d.C zp (.iface 108 (.pointer (some ea))) X0 wy pk ok er) (fg : Bool) (hAt : d.At l d.m fg)
    (f : Nat → Value) (H : Has f [(0, .slice a0 d.m c0), (2, .int .u16 ((d.py : Nat) : Int)), (3, .bool udp), (16, .slice (some ⟨kb, 0, none⟩) d.m d.m), (18, .slice (some ⟨ob, 0, none⟩) d.m d.m), (20, .slice (some ⟨gp, 0, none⟩) n cap), (21, .slice (some ⟨rb, 0, none⟩) 16 16), (22, .slice (some ⟨db, 0, none⟩) 16 16), (30, .int .i64 ((d.O d.m : Nat) : Int)), (31, .int .i64 ((l : Nat) : Int)), (33, .pointer (some ⟨NP, 0, none⟩)), (34, .bool ok), (35, er), (36, .bool fg)]) :
    Code.wp Ybaf.prog (dropC 28 l4) (bodyPost Ybaf.prog Ybaf.f4 fun e w' => e = .returned (.bool true) ∧ Below B w w') (F4 f) wy := by
  have hbad : ¬ (l < 40 ∨ ¬ d.C 0 / 16 = 6) := by rw [d.C_0]; omega
  have neq : ∀ bb, X0 ≤ bb → (⟨bb, 0, none⟩ : Addr) ≠ ea := fun bb h e => by rw [← e] at heX; exact absurd heX (by show ¬ bb < X0; omega)
  rw [l4_28]
  refine wp_seq (wp_seq (wp_use (f78 udp wy f H.2.2.1 _ ?_)))
  intro f1  S1 e1_335 
  have H1 : Has f1 [(335, .bool udp), (0, .slice a0 d.m c0), (2, .int .u16 ((d.py : Nat) : Int)), (3, .bool udp), (16, .slice (some ⟨kb, 0, none⟩) d.m d.m), (18, .slice (some ⟨ob, 0, none⟩) d.m d.m), (20, .slice (some ⟨gp, 0, none⟩) n cap), (21, .slice (some ⟨rb, 0, none⟩) 16 16), (22, .slice (some ⟨db, 0, none⟩) 16 16), (30, .int .i64 ((d.O d.m : Nat) : Int)), (31, .int .i64 ((l : Nat) : Int)), (33, .pointer (some ⟨NP, 0, none⟩)), (34, .bool ok), (35, er), (36, .bool fg)] := ⟨e1_335, H.keep S1⟩
  cases udp with
  | true =>
    rw [Res, if_neg hbad, d.at_udp hAt hu] at hres
    obtain ⟨rfl, rfl, rfl⟩ := hres
    refine wp_cond_true (ev rfl e1_335) ?_
    refine wp_seq (wp_use (f79 NP wy hp f1 H1.2.2.2.2.2.2.2.2.2.2.2.1 H1.2.2.2.2.2.2.2.2.2.2.2.2.1 H1.2.2.2.2.2.2.2.2.2.2.2.2.2.1 _ ?_))
    intro f2 wz S2 e2_14 bz
    have H2 : Has f2 [(14, .bool true), (335, .bool true), (0, .slice a0 d.m c0), (2, .int .u16 ((d.py : Nat) : Int)), (3, .bool true), (16, .slice (some ⟨kb, 0, none⟩) d.m d.m), (18, .slice (some ⟨ob, 0, none⟩) d.m d.m), (20, .slice (some ⟨gp, 0, none⟩) n cap), (21, .slice (some ⟨rb, 0, none⟩) 16 16), (22, .slice (some ⟨db, 0, none⟩) 16 16), (30, .int .i64 ((d.O d.m : Nat) : Int)), (31, .int .i64 ((l : Nat) : Int)), (33, .pointer (some ⟨NP, 0, none⟩)), (34, .bool false), (35, .nilIface), (36, .bool fg)] := ⟨e2_14, H1.keep S2⟩
    exact wp_ret (ret4 e2_14 (hb.trans (below_le bz hBs)))
  | false =>
    rw [Res, if_neg hbad, d.at_end hAt hu] at hres
    obtain ⟨tt, tn, tc, htk, ht1, ht2⟩ := tcpk_form gp l cap d.C zp (d.O d.m)
    obtain ⟨len, rfl⟩ : ∃ len, pk = hdr d.C zp tt tn tc len := by
      dsimp only at hres
      split at hres
      · exact ⟨_, hres.1.trans (htk _)⟩
      · split at hres
        · exact ⟨_, hres.1.trans (htk _)⟩
        · split at hres
          · exact ⟨_, hres.1.trans (htk _)⟩
          · exact ⟨_, hres.1.trans (htk _)⟩
    refine wp_cond_false (ev rfl e1_335) ?_
    refine wp_skip ?_
    refine wp_seq (wp_use (f80 d.py (d.O d.m) wy hd.py (by omega) f1 H1.2.2.1 H1.2.2.2.2.2.2.2.2.2.1 _ ?_))
    intro f2  S2 e2_40 
    have H2 : Has f2 [(40, .int .i64 ((d.py : Int) + 40 - (d.O d.m : Int))), (335, .bool false), (0, .slice a0 d.m c0), (2, .int .u16 ((d.py : Nat) : Int)), (3, .bool false), (16, .slice (some ⟨kb, 0, none⟩) d.m d.m), (18, .slice (some ⟨ob, 0, none⟩) d.m d.m), (20, .slice (some ⟨gp, 0, none⟩) n cap), (21, .slice (some ⟨rb, 0, none⟩) 16 16), (22, .slice (some ⟨db, 0, none⟩) 16 16), (30, .int .i64 ((d.O d.m : Nat) : Int)), (31, .int .i64 ((l : Nat) : Int)), (33, .pointer (some ⟨NP, 0, none⟩)), (34, .bool ok), (35, er), (36, .bool fg)] := ⟨e2_40, H1.keep S2⟩
    refine wp_seq (wp_seq (wp_use (f81 NP wy d.C zp rb db (fun k _ => D.C_le hd k) hs hds tt tn tc len hp f2 H2.2.2.2.2.2.2.2.2.1 H2.2.2.2.2.2.2.2.2.2.1 H2.2.2.2.2.2.2.2.2.2.2.2.2.1 _ ?_)))
    intro f3 wz S3 e3_355 bz
    have H3 : Has f3 [(355, .bool false), (40, .int .i64 ((d.py : Int) + 40 - (d.O d.m : Int))), (335, .bool false), (0, .slice a0 d.m c0), (2, .int .u16 ((d.py : Nat) : Int)), (3, .bool false), (16, .slice (some ⟨kb, 0, none⟩) d.m d.m), (18, .slice (some ⟨ob, 0, none⟩) d.m d.m), (20, .slice (some ⟨gp, 0, none⟩) n cap), (21, .slice (some ⟨rb, 0, none⟩) 16 16), (22, .slice (some ⟨db, 0, none⟩) 16 16), (30, .int .i64 ((d.O d.m : Nat) : Int)), (31, .int .i64 ((l : Nat) : Int)), (33, .pointer (some ⟨NP, 0, none⟩)), (34, .bool ok), (35, er), (36, .bool fg)] := ⟨e3_355, H2.keep S3⟩
    refine wp_cond_false (ev rfl e3_355) ?_
    refine wp_skip ?_
    have bZ : Below B w wz := hb.trans (below_le bz hBs)
    have hpz : wz.heap[NP]? = some (.cells (hdr d.C zp tt tn tc len) 67 (0, 0)) := by rw [bz.block _ (Array.getElem?_eq_some_iff.1 hp).1]; exact hp
    have heaz : wz.heap[ea.block]? = some (.cells ce te (0, 0)) := by rw [bz.block _ (Array.getElem?_eq_some_iff.1 hea).1]; exact hea
    have hg0z : wz.cell? ⟨0, 0, none⟩ = some (.iface 108 (.pointer (some ea))) := by rw [bz.cell (World.block_lt_of_cell? wy _ hg0)]; exact hg0
    have hresz : if pay d.C + 40 < d.O d.m then hdr d.C zp tt tn tc len = tcpk gp 0 l cap d.C zp (d.O d.m) 0 ∧ ok = false ∧ newE X0 wz er else if fg = true then hdr d.C zp tt tn tc len = tcpk gp 0 l cap d.C zp (d.O d.m) 0 ∧ ok = false ∧ er = .iface 108 (.pointer (some ea)) else if l < d.O d.m then hdr d.C zp tt tn tc len = tcpk gp 0 l cap d.C zp (d.O d.m) 0 ∧ ok = false ∧ newE X0 wz er else hdr d.C zp tt tn tc len = tcpk gp 0 l cap d.C zp (d.O d.m) ((pay d.C : Int) + 40 - (d.O d.m : Int)) ∧ ok = true ∧ er = .nilIface := by
      have q : Res gp 0 l cap d.C zp (.iface 108 (.pointer (some ea))) X0 wz (hdr d.C zp tt tn tc len) ok er := by
        refine Res.mono (w := wy) ?_ bz.block
        rw [Res, if_neg hbad, d.at_end hAt hu]; exact hres
      rw [Res, if_neg hbad, d.at_end hAt hu] at q; exact q
    refine wp_seq (wp_seq (wp_use (f83 l (d.O d.m) wz f3 H3.2.2.2.2.2.2.2.2.2.2.2.1 H3.2.2.2.2.2.2.2.2.2.2.2.2.1 _ ?_)))
    intro f4  S4 e4_358 
    have H4 : Has f4 [(358, .bool (decide (d.O d.m ≤ l))), (355, .bool false), (40, .int .i64 ((d.py : Int) + 40 - (d.O d.m : Int))), (335, .bool false), (0, .slice a0 d.m c0), (2, .int .u16 ((d.py : Nat) : Int)), (3, .bool false), (16, .slice (some ⟨kb, 0, none⟩) d.m d.m), (18, .slice (some ⟨ob, 0, none⟩) d.m d.m), (20, .slice (some ⟨gp, 0, none⟩) n cap), (21, .slice (some ⟨rb, 0, none⟩) 16 16), (22, .slice (some ⟨db, 0, none⟩) 16 16), (30, .int .i64 ((d.O d.m : Nat) : Int)), (31, .int .i64 ((l : Nat) : Int)), (33, .pointer (some ⟨NP, 0, none⟩)), (34, .bool ok), (35, er), (36, .bool fg)] := ⟨e4_358, H3.keep S4⟩
    refine wp_cond (t := decide (d.O d.m ≤ l)) (ev rfl e4_358) ?_
    by_cases hh : d.O d.m ≤ l
    · skip
      obtain ⟨rfl, rfl, rfl⟩ := ht1 hh
      have hconv : (convert 53 9 (.slice (some ⟨gp, 0 + sh cap (d.O d.m), none⟩) (l - d.O d.m) (cap - d.O d.m))).run Ybaf.prog wz.drew = .ok (.string (strOfNums ((List.range (l - d.O d.m)).map (fun k => ((d.C (d.O d.m + k) : Nat) : Int))))) wz.drew := by
        refine run_convert_bytes_arg wz.drew 53 5 Ybaf.underlying53 Ybaf.underlying5 gp (0 + sh cap (d.O d.m)) (l - d.O d.m) (cap - d.O d.m) _ (by simp) (fun i hi => ?_) 9 Ybaf.underlying9
        rw [sh, if_neg (by omega), show 0 + d.O d.m + i = d.O d.m + i from by omega]
        rw [show ((List.range (l - d.O d.m)).map (fun k => ((d.C (d.O d.m + k) : Nat) : Int))).getD i 0 = ((d.C (d.O d.m + i) : Nat) : Int) from by simp [hi]]
        show wz.cell? _ = _
        rw [bz.cell (World.block_lt_of_cell? wy _ (hC (d.O d.m + i) (by omega)))]
        exact hC (d.O d.m + i) (by omega)
      rw [decide_eq_true hh, if_pos rfl]
      refine wp_seq (wp_use (f84 NP gp n cap (d.O d.m) l wz d.C zp len hh (by omega) (by omega) _ hconv hpz f4 H4.2.2.2.2.2.2.2.2.2.1 H4.2.2.2.2.2.2.2.2.2.2.2.2.1 H4.2.2.2.2.2.2.2.2.2.2.2.2.2.1 H4.2.2.2.2.2.2.2.2.2.2.2.2.2.2.1 _ ?_))
      intro f5  S5 e5_375 
      have H5 : Has f5 [(375, .bool false), (358, .bool (decide (d.O d.m ≤ l))), (355, .bool false), (40, .int .i64 ((d.py : Int) + 40 - (d.O d.m : Int))), (335, .bool false), (0, .slice a0 d.m c0), (2, .int .u16 ((d.py : Nat) : Int)), (3, .bool false), (16, .slice (some ⟨kb, 0, none⟩) d.m d.m), (18, .slice (some ⟨ob, 0, none⟩) d.m d.m), (20, .slice (some ⟨gp, 0, none⟩) n cap), (21, .slice (some ⟨rb, 0, none⟩) 16 16), (22, .slice (some ⟨db, 0, none⟩) 16 16), (30, .int .i64 ((d.O d.m : Nat) : Int)), (31, .int .i64 ((l : Nat) : Int)), (33, .pointer (some ⟨NP, 0, none⟩)), (34, .bool ok), (35, er), (36, .bool fg)] := ⟨e5_375, H4.keep S5⟩
      refine wp_cond_false (ev rfl e5_375) ?_
      refine wp_skip ?_
      exact partF d hd gp l cap NP zp ea ce te X0 fg ok er _ B w (wz.drew) ⟨bZ.os, bZ.tape, bZ.output, bZ.size, bZ.block⟩ heaz heX hg0z hpz hresz f5 ⟨H5.2.2.2.2.2.2.2.2.2.2.2.2.2.1, H5.2.2.2.2.2.2.2.2.2.2.2.2.2.2.1, H5.2.2.2.2.2.2.2.2.2.2.2.2.2.2.2.1, H5.2.2.2.2.2.2.2.2.2.2.2.2.2.2.2.2.1, H5.2.2.2.2.2.2.2.2.2.2.2.2.2.2.2.2.2.1, H5.2.2.2.2.2.2.2.2.2.2.2.2.2.2.2.2.2.2.1, H5.2.2.2.1, trivial⟩
    · skip
      obtain ⟨rfl, rfl, rfl⟩ := ht2 hh
      rw [decide_eq_false hh, if_neg Bool.false_ne_true]
      refine wp_seq (wp_use (f86 NP wz d.C zp len hpz f4 H4.2.2.2.2.2.2.2.2.2.2.2.2.2.2.1 _ ?_))
      intro f5  S5 e5_378 
      have H5 : Has f5 [(378, .bool false), (358, .bool (decide (d.O d.m ≤ l))), (355, .bool false), (40, .int .i64 ((d.py : Int) + 40 - (d.O d.m : Int))), (335, .bool false), (0, .slice a0 d.m c0), (2, .int .u16 ((d.py : Nat) : Int)), (3, .bool false), (16, .slice (some ⟨kb, 0, none⟩) d.m d.m), (18, .slice (some ⟨ob, 0, none⟩) d.m d.m), (20, .slice (some ⟨gp, 0, none⟩) n cap), (21, .slice (some ⟨rb, 0, none⟩) 16 16), (22, .slice (some ⟨db, 0, none⟩) 16 16), (30, .int .i64 ((d.O d.m : Nat) : Int)), (31, .int .i64 ((l : Nat) : Int)), (33, .pointer (some ⟨NP, 0, none⟩)), (34, .bool ok), (35, er), (36, .bool fg)] := ⟨e5_378, H4.keep S5⟩
      refine wp_cond_false (ev rfl e5_378) ?_
      refine wp_skip ?_
      exact partF d hd gp l cap NP zp ea ce te X0 fg ok er _ B w (wz) bZ heaz heX hg0z hpz hresz f5 ⟨H5.2.2.2.2.2.2.2.2.2.2.2.2.2.1, H5.2.2.2.2.2.2.2.2.2.2.2.2.2.2.1, H5.2.2.2.2.2.2.2.2.2.2.2.2.2.2.2.1, H5.2.2.2.2.2.2.2.2.2.2.2.2.2.2.2.2.1, H5.2.2.2.2.2.2.2.2.2.2.2.2.2.2.2.2.2.1, H5.2.2.2.2.2.2.2.2.2.2.2.2.2.2.2.2.2.2.1, H5.2.2.2.1, trivial⟩
set_option maxRecDepth 100000 in
set_option maxHeartbeats 1000000 in
theorem partE2 (d : D) (hd : d.Ok) (udp : Bool) (hu : d.fi = if udp then 17 else 6) (a0 : Option Addr) (xb xo c0 kb ob rb db gp n cap l NP : Nat) (ha0 : 0 < d.m → a0 = some ⟨xb, xo, none⟩) (zp : Option Addr) (ea : Addr) (ce : Array Value) (te : TypeId) (X0 : Nat) (ok : Bool) (er : Value) (pk : Array Value) (B : Nat) (w wy : World) (hb : Below B w wy) (hBs : B ≤ wy.heap.size)
    (hfr : ∀ i, i < d.m → wy.cell? ⟨xb, xo + i * 4 + 2, none⟩ = some (.int .u16 ((d.Fr i : Nat) : Int))) (hK : ∀ i, i < d.m → wy.cell? ⟨kb, i, none⟩ = some (.int .u8 ((d.K i : Nat) : Int))) (hO : ∀ i, i < d.m → wy.cell? ⟨ob, i, none⟩ = some (.int .i64 ((d.O i : Nat) : Int)))
    (hs : ∀ k, k < 16 → wy.cell? ⟨rb, k, none⟩ = some (.int .u8 ((d.C (8 + k) : Nat) : Int))) (hds : ∀ k, k < 16 → wy.cell? ⟨db, k, none⟩ = some (.int .u8 ((d.C (24 + k) : Nat) : Int))) (hC : ∀ k, k < n → wy.cell? ⟨gp, k, none⟩ = some (.int .u8 ((d.C k : Nat) : Int)))
    (hl : l ≤ n) (hn : n ≤ 1000000) (hcap : n ≤ cap) (hOm : d.O d.m ≤ n) (hea : wy.heap[ea.block]? = some (.cells ce te (0, 0))) (heX : ea.block < X0) (hg0 : wy.cell? ⟨0, 0, none⟩ = some (.iface 108 (.pointer (some ea)))) (hp : wy.heap[NP]? = some (.cells pk 67 (0, 0))) (h40 : ¬ l < 40) (hres : Res gp 0 l cap d.C zp (.iface 108 (.pointer (some ea))) X0 wy pk ok er)
    (f : Nat → Value) (H : Has f [(0, .slice a0 d.m c0), (2, .int .u16 ((d.py : Nat) : Int)), (3, .bool udp), (16, .slice (some ⟨kb, 0, none⟩) d.m d.m), (18, .slice (some ⟨ob, 0, none⟩) d.m d.m), (20, .slice (some ⟨gp, 0, none⟩) n cap), (21, .slice (some ⟨rb, 0, none⟩) 16 16), (22, .slice (some ⟨db, 0, none⟩) 16 16), (30, .int .i64 ((d.O d.m : Nat) : Int)), (31, .int .i64 ((l : Nat) : Int)), (33, .pointer (some ⟨NP, 0, none⟩)), (34, .bool ok), (35, er)]) :
    Code.wp Ybaf.prog (dropC 26 l4) (bodyPost Ybaf.prog Ybaf.f4 fun e w' => e = .returned (.bool true) ∧ Below B w w') (F4 f) wy := by
  have hbad : ¬ (l < 40 ∨ ¬ d.C 0 / 16 = 6) := by rw [d.C_0]; omega
  have neq : ∀ bb, X0 ≤ bb → (⟨bb, 0, none⟩ : Addr) ≠ ea := fun bb h e => by rw [← e] at heX; exact absurd heX (by show ¬ bb < X0; omega)
  rw [l4_26]
  refine wp_seq (wp_use (f62 wy f  _ ?_))
  intro f1  S1 e1_36 
  have H1 : Has f1 [(36, .bool false), (0, .slice a0 d.m c0), (2, .int .u16 ((d.py : Nat) : Int)), (3, .bool udp), (16, .slice (some ⟨kb, 0, none⟩) d.m d.m), (18, .slice (some ⟨ob, 0, none⟩) d.m d.m), (20, .slice (some ⟨gp, 0, none⟩) n cap), (21, .slice (some ⟨rb, 0, none⟩) 16 16), (22, .slice (some ⟨db, 0, none⟩) 16 16), (30, .int .i64 ((d.O d.m : Nat) : Int)), (31, .int .i64 ((l : Nat) : Int)), (33, .pointer (some ⟨NP, 0, none⟩)), (34, .bool ok), (35, er)] := ⟨e1_36, H.keep S1⟩
  refine wp_seq (wp_seq (wp_use (f63 a0 d.m c0 wy f1 H1.2.1 _ ?_)))
  intro f2  S2 e2_259 e2_260 
  have H2 : Has f2 [(259, .int .i64 ((d.m : Nat) : Int)), (260, .int .i64 ((0 : Nat) : Int)), (36, .bool false), (0, .slice a0 d.m c0), (2, .int .u16 ((d.py : Nat) : Int)), (3, .bool udp), (16, .slice (some ⟨kb, 0, none⟩) d.m d.m), (18, .slice (some ⟨ob, 0, none⟩) d.m d.m), (20, .slice (some ⟨gp, 0, none⟩) n cap), (21, .slice (some ⟨rb, 0, none⟩) 16 16), (22, .slice (some ⟨db, 0, none⟩) 16 16), (30, .int .i64 ((d.O d.m : Nat) : Int)), (31, .int .i64 ((l : Nat) : Int)), (33, .pointer (some ⟨NP, 0, none⟩)), (34, .bool ok), (35, er)] := ⟨e2_259, e2_260, H1.keep S2⟩
  refine wp_block (wp_loop (fun a wq => wq = wy ∧ ∃ (f : Nat → Value) (i : Nat) (fg : Bool), a = F4 f ∧ Has f [(0, .slice a0 d.m c0), (2, .int .u16 ((d.py : Nat) : Int)), (3, .bool udp), (16, .slice (some ⟨kb, 0, none⟩) d.m d.m), (18, .slice (some ⟨ob, 0, none⟩) d.m d.m), (20, .slice (some ⟨gp, 0, none⟩) n cap), (21, .slice (some ⟨rb, 0, none⟩) 16 16), (22, .slice (some ⟨db, 0, none⟩) 16 16), (30, .int .i64 ((d.O d.m : Nat) : Int)), (31, .int .i64 ((l : Nat) : Int)), (33, .pointer (some ⟨NP, 0, none⟩)), (34, .bool ok), (35, er), (36, .bool fg), (259, .int .i64 ((d.m : Nat) : Int)), (260, .int .i64 ((i : Nat) : Int))] ∧ d.At l i fg) (fun a _ => d.m - (intOf (a.tmps.getD 260 undef)).toNat) ⟨rfl, f2, 0, false, rfl, ⟨H2.2.2.2.1, H2.2.2.2.2.1, H2.2.2.2.2.2.1, H2.2.2.2.2.2.2.1, H2.2.2.2.2.2.2.2.1, H2.2.2.2.2.2.2.2.2.1, H2.2.2.2.2.2.2.2.2.2.1, H2.2.2.2.2.2.2.2.2.2.2.1, H2.2.2.2.2.2.2.2.2.2.2.2.1, H2.2.2.2.2.2.2.2.2.2.2.2.2.1, H2.2.2.2.2.2.2.2.2.2.2.2.2.2.1, H2.2.2.2.2.2.2.2.2.2.2.2.2.2.2.1, H2.2.2.2.2.2.2.2.2.2.2.2.2.2.2.2.1, H2.2.2.1, H2.1, H2.2.1, trivial⟩, d.at_0 l⟩ ?_)
  rintro a wq ⟨rfl, g, i, fg, rfl, G, hAt⟩
  rw [l4e_eq]
  refine wp_seq (wp_use (f64 i d.m wq g G.2.2.2.2.2.2.2.2.2.2.2.2.2.2.1 G.2.2.2.2.2.2.2.2.2.2.2.2.2.2.2.1 _ ?_))
  intro f11  S11 e11_261 
  have H11 : Has f11 [(261, .bool (decide (i < d.m))), (0, .slice a0 d.m c0), (2, .int .u16 ((d.py : Nat) : Int)), (3, .bool udp), (16, .slice (some ⟨kb, 0, none⟩) d.m d.m), (18, .slice (some ⟨ob, 0, none⟩) d.m d.m), (20, .slice (some ⟨gp, 0, none⟩) n cap), (21, .slice (some ⟨rb, 0, none⟩) 16 16), (22, .slice (some ⟨db, 0, none⟩) 16 16), (30, .int .i64 ((d.O d.m : Nat) : Int)), (31, .int .i64 ((l : Nat) : Int)), (33, .pointer (some ⟨NP, 0, none⟩)), (34, .bool ok), (35, er), (36, .bool fg), (259, .int .i64 ((d.m : Nat) : Int)), (260, .int .i64 ((i : Nat) : Int))] := ⟨e11_261, G.keep S11⟩
  refine wp_seq (wp_cond (t := decide (i < d.m)) (ev rfl e11_261) ?_)
  by_cases hi : i < d.m
  · skip
    rw [decide_eq_true hi, if_pos rfl]
    refine wp_skip ?_
    obtain rfl := ha0 (by omega)
    have hOi : d.O i ≤ 1000000 := by have := d.O_mono' (Nat.le_of_lt hi); omega
    refine wp_seq (wp_block ?_)
    rw [l4g_eq]
    refine wp_seq (wp_use (f65 i wq f11 H11.2.2.2.2.2.2.2.2.2.2.2.2.2.2.2.2.1 _ ?_))
    intro f12  S12 e12_37 
    have H12 : Has f12 [(37, .int .i64 ((i : Nat) : Int)), (261, .bool (decide (i < d.m))), (0, .slice (some ⟨xb, xo, none⟩) d.m c0), (2, .int .u16 ((d.py : Nat) : Int)), (3, .bool udp), (16, .slice (some ⟨kb, 0, none⟩) d.m d.m), (18, .slice (some ⟨ob, 0, none⟩) d.m d.m), (20, .slice (some ⟨gp, 0, none⟩) n cap), (21, .slice (some ⟨rb, 0, none⟩) 16 16), (22, .slice (some ⟨db, 0, none⟩) 16 16), (30, .int .i64 ((d.O d.m : Nat) : Int)), (31, .int .i64 ((l : Nat) : Int)), (33, .pointer (some ⟨NP, 0, none⟩)), (34, .bool ok), (35, er), (36, .bool fg), (259, .int .i64 ((d.m : Nat) : Int)), (260, .int .i64 ((i : Nat) : Int))] := ⟨e12_37, H11.keep S12⟩
    refine wp_seq (wp_use (f66 ob d.m i (d.O i) wq hi (hO i hi) f12 H12.2.2.2.2.2.2.1 H12.1 _ ?_))
    intro f13  S13 e13_38 
    have H13 : Has f13 [(38, .int .i64 ((d.O i : Nat) : Int)), (37, .int .i64 ((i : Nat) : Int)), (261, .bool (decide (i < d.m))), (0, .slice (some ⟨xb, xo, none⟩) d.m c0), (2, .int .u16 ((d.py : Nat) : Int)), (3, .bool udp), (16, .slice (some ⟨kb, 0, none⟩) d.m d.m), (18, .slice (some ⟨ob, 0, none⟩) d.m d.m), (20, .slice (some ⟨gp, 0, none⟩) n cap), (21, .slice (some ⟨rb, 0, none⟩) 16 16), (22, .slice (some ⟨db, 0, none⟩) 16 16), (30, .int .i64 ((d.O d.m : Nat) : Int)), (31, .int .i64 ((l : Nat) : Int)), (33, .pointer (some ⟨NP, 0, none⟩)), (34, .bool ok), (35, er), (36, .bool fg), (259, .int .i64 ((d.m : Nat) : Int)), (260, .int .i64 ((i : Nat) : Int))] := ⟨e13_38, H12.keep S13⟩
    refine wp_seq (wp_use (f67 wq f13  _ ?_))
    intro f14  S14 e14_39 
    have H14 : Has f14 [(39, .int .i64 ((2 : Nat) : Int)), (38, .int .i64 ((d.O i : Nat) : Int)), (37, .int .i64 ((i : Nat) : Int)), (261, .bool (decide (i < d.m))), (0, .slice (some ⟨xb, xo, none⟩) d.m c0), (2, .int .u16 ((d.py : Nat) : Int)), (3, .bool udp), (16, .slice (some ⟨kb, 0, none⟩) d.m d.m), (18, .slice (some ⟨ob, 0, none⟩) d.m d.m), (20, .slice (some ⟨gp, 0, none⟩) n cap), (21, .slice (some ⟨rb, 0, none⟩) 16 16), (22, .slice (some ⟨db, 0, none⟩) 16 16), (30, .int .i64 ((d.O d.m : Nat) : Int)), (31, .int .i64 ((l : Nat) : Int)), (33, .pointer (some ⟨NP, 0, none⟩)), (34, .bool ok), (35, er), (36, .bool fg), (259, .int .i64 ((d.m : Nat) : Int)), (260, .int .i64 ((i : Nat) : Int))] := ⟨e14_39, H13.keep S14⟩
    refine wp_join (fun a w' => w' = wq ∧ ∃ f', a = F4 f' ∧ Has f' [(38, .int .i64 ((d.O i : Nat) : Int)), (37, .int .i64 ((i : Nat) : Int)), (261, .bool (decide (i < d.m))), (0, .slice (some ⟨xb, xo, none⟩) d.m c0), (2, .int .u16 ((d.py : Nat) : Int)), (3, .bool udp), (16, .slice (some ⟨kb, 0, none⟩) d.m d.m), (18, .slice (some ⟨ob, 0, none⟩) d.m d.m), (20, .slice (some ⟨gp, 0, none⟩) n cap), (21, .slice (some ⟨rb, 0, none⟩) 16 16), (22, .slice (some ⟨db, 0, none⟩) 16 16), (30, .int .i64 ((d.O d.m : Nat) : Int)), (31, .int .i64 ((l : Nat) : Int)), (33, .pointer (some ⟨NP, 0, none⟩)), (34, .bool ok), (35, er), (36, .bool fg), (259, .int .i64 ((d.m : Nat) : Int)), (260, .int .i64 ((i : Nat) : Int)), (39, .int .i64 ((d.nd i : Nat) : Int))]) ?_ ?_
    · skip
      refine wp_seq (wp_use (f68 kb d.m i (d.K i) wq hi (hK i hi) f14 H14.2.2.2.2.2.2.2.1 H14.2.2.1 _ ?_))
      intro f15  S15 e15_271 
      have H15 : Has f15 [(271, .bool (decide (d.K i = 44))), (39, .int .i64 ((2 : Nat) : Int)), (38, .int .i64 ((d.O i : Nat) : Int)), (37, .int .i64 ((i : Nat) : Int)), (261, .bool (decide (i < d.m))), (0, .slice (some ⟨xb, xo, none⟩) d.m c0), (2, .int .u16 ((d.py : Nat) : Int)), (3, .bool udp), (16, .slice (some ⟨kb, 0, none⟩) d.m d.m), (18, .slice (some ⟨ob, 0, none⟩) d.m d.m), (20, .slice (some ⟨gp, 0, none⟩) n cap), (21, .slice (some ⟨rb, 0, none⟩) 16 16), (22, .slice (some ⟨db, 0, none⟩) 16 16), (30, .int .i64 ((d.O d.m : Nat) : Int)), (31, .int .i64 ((l : Nat) : Int)), (33, .pointer (some ⟨NP, 0, none⟩)), (34, .bool ok), (35, er), (36, .bool fg), (259, .int .i64 ((d.m : Nat) : Int)), (260, .int .i64 ((i : Nat) : Int))] := ⟨e15_271, H14.keep S15⟩
      refine wp_cond (t := decide (d.K i = 44)) (ev rfl e15_271) ?_
      by_cases hk : d.K i = 44
      · skip
        rw [decide_eq_true hk, if_pos rfl]
        refine wp_use (f69 wq f15  _ ?_)
        intro f16  S16 e16_39 
        have H16 : Has f16 [(39, .int .i64 ((8 : Nat) : Int)), (271, .bool (decide (d.K i = 44))), (38, .int .i64 ((d.O i : Nat) : Int)), (37, .int .i64 ((i : Nat) : Int)), (261, .bool (decide (i < d.m))), (0, .slice (some ⟨xb, xo, none⟩) d.m c0), (2, .int .u16 ((d.py : Nat) : Int)), (3, .bool udp), (16, .slice (some ⟨kb, 0, none⟩) d.m d.m), (18, .slice (some ⟨ob, 0, none⟩) d.m d.m), (20, .slice (some ⟨gp, 0, none⟩) n cap), (21, .slice (some ⟨rb, 0, none⟩) 16 16), (22, .slice (some ⟨db, 0, none⟩) 16 16), (30, .int .i64 ((d.O d.m : Nat) : Int)), (31, .int .i64 ((l : Nat) : Int)), (33, .pointer (some ⟨NP, 0, none⟩)), (34, .bool ok), (35, er), (36, .bool fg), (259, .int .i64 ((d.m : Nat) : Int)), (260, .int .i64 ((i : Nat) : Int))] := ⟨e16_39, H15.keep S16⟩
        refine ⟨rfl, _, rfl, H16.2.2.1, H16.2.2.2.1, H16.2.2.2.2.1, H16.2.2.2.2.2.1, H16.2.2.2.2.2.2.1, H16.2.2.2.2.2.2.2.1, H16.2.2.2.2.2.2.2.2.1, H16.2.2.2.2.2.2.2.2.2.1, H16.2.2.2.2.2.2.2.2.2.2.1, H16.2.2.2.2.2.2.2.2.2.2.2.1, H16.2.2.2.2.2.2.2.2.2.2.2.2.1, H16.2.2.2.2.2.2.2.2.2.2.2.2.2.1, H16.2.2.2.2.2.2.2.2.2.2.2.2.2.2.1, H16.2.2.2.2.2.2.2.2.2.2.2.2.2.2.2.1, H16.2.2.2.2.2.2.2.2.2.2.2.2.2.2.2.2.1, H16.2.2.2.2.2.2.2.2.2.2.2.2.2.2.2.2.2.1, H16.2.2.2.2.2.2.2.2.2.2.2.2.2.2.2.2.2.2.1, H16.2.2.2.2.2.2.2.2.2.2.2.2.2.2.2.2.2.2.2.1, H16.2.2.2.2.2.2.2.2.2.2.2.2.2.2.2.2.2.2.2.2.1, (by rw [show d.nd i = 8 from if_pos hk]; exact H16.1), trivial⟩
      · skip
        rw [decide_eq_false hk, if_neg Bool.false_ne_true]
        refine wp_skip ?_
        exact ⟨rfl, _, rfl, H15.2.2.1, H15.2.2.2.1, H15.2.2.2.2.1, H15.2.2.2.2.2.1, H15.2.2.2.2.2.2.1, H15.2.2.2.2.2.2.2.1, H15.2.2.2.2.2.2.2.2.1, H15.2.2.2.2.2.2.2.2.2.1, H15.2.2.2.2.2.2.2.2.2.2.1, H15.2.2.2.2.2.2.2.2.2.2.2.1, H15.2.2.2.2.2.2.2.2.2.2.2.2.1, H15.2.2.2.2.2.2.2.2.2.2.2.2.2.1, H15.2.2.2.2.2.2.2.2.2.2.2.2.2.2.1, H15.2.2.2.2.2.2.2.2.2.2.2.2.2.2.2.1, H15.2.2.2.2.2.2.2.2.2.2.2.2.2.2.2.2.1, H15.2.2.2.2.2.2.2.2.2.2.2.2.2.2.2.2.2.1, H15.2.2.2.2.2.2.2.2.2.2.2.2.2.2.2.2.2.2.1, H15.2.2.2.2.2.2.2.2.2.2.2.2.2.2.2.2.2.2.2.1, H15.2.2.2.2.2.2.2.2.2.2.2.2.2.2.2.2.2.2.2.2.1, (by rw [show d.nd i = 2 from if_neg hk]; exact H15.2.1), trivial⟩
    · skip
      rintro a wq ⟨rfl, p, rfl, Hp⟩
      refine wp_seq (wp_seq (wp_use (f70 l (d.O i) (d.nd i) wq hOi (by unfold D.nd; split <;> omega) p Hp.2.2.2.2.2.2.2.2.2.2.2.2.1 Hp.1 Hp.2.2.2.2.2.2.2.2.2.2.2.2.2.2.2.2.2.2.2.1 _ ?_)))
      intro f31  S31 e31_276 
      have H31 : Has f31 [(276, .bool (decide (l < d.O i + d.nd i))), (38, .int .i64 ((d.O i : Nat) : Int)), (37, .int .i64 ((i : Nat) : Int)), (261, .bool (decide (i < d.m))), (0, .slice (some ⟨xb, xo, none⟩) d.m c0), (2, .int .u16 ((d.py : Nat) : Int)), (3, .bool udp), (16, .slice (some ⟨kb, 0, none⟩) d.m d.m), (18, .slice (some ⟨ob, 0, none⟩) d.m d.m), (20, .slice (some ⟨gp, 0, none⟩) n cap), (21, .slice (some ⟨rb, 0, none⟩) 16 16), (22, .slice (some ⟨db, 0, none⟩) 16 16), (30, .int .i64 ((d.O d.m : Nat) : Int)), (31, .int .i64 ((l : Nat) : Int)), (33, .pointer (some ⟨NP, 0, none⟩)), (34, .bool ok), (35, er), (36, .bool fg), (259, .int .i64 ((d.m : Nat) : Int)), (260, .int .i64 ((i : Nat) : Int)), (39, .int .i64 ((d.nd i : Nat) : Int))] := ⟨e31_276, Hp.keep S31⟩
      refine wp_cond (t := decide (l < d.O i + d.nd i)) (ev rfl e31_276) ?_
      by_cases hcut : l < d.O i + d.nd i
      · skip
        rw [decide_eq_true hcut, if_pos rfl]
        rw [Res, if_neg hbad, d.at_cut hAt hi hcut] at hres
        obtain ⟨rfl, rfl, bb, cs, ts, rfl, hb1, hb2⟩ := hres
        refine wp_seq (wp_use (f71 NP wq ea bb cs ce ts te hb2 hea (neq bb hb1) hg0 d.C zp rb db (fun k _ => D.C_le hd k) hs hds hp f31 H31.2.2.2.2.2.2.2.2.2.2.1 H31.2.2.2.2.2.2.2.2.2.2.2.1 H31.2.2.2.2.2.2.2.2.2.2.2.2.2.2.1 H31.2.2.2.2.2.2.2.2.2.2.2.2.2.2.2.1 H31.2.2.2.2.2.2.2.2.2.2.2.2.2.2.2.2.1 _ ?_))
        intro f32 wz S32 e32_14 bz
        have H32 : Has f32 [(14, .bool true), (276, .bool (decide (l < d.O i + d.nd i))), (38, .int .i64 ((d.O i : Nat) : Int)), (37, .int .i64 ((i : Nat) : Int)), (261, .bool (decide (i < d.m))), (0, .slice (some ⟨xb, xo, none⟩) d.m c0), (2, .int .u16 ((d.py : Nat) : Int)), (3, .bool udp), (16, .slice (some ⟨kb, 0, none⟩) d.m d.m), (18, .slice (some ⟨ob, 0, none⟩) d.m d.m), (20, .slice (some ⟨gp, 0, none⟩) n cap), (21, .slice (some ⟨rb, 0, none⟩) 16 16), (22, .slice (some ⟨db, 0, none⟩) 16 16), (30, .int .i64 ((d.O d.m : Nat) : Int)), (31, .int .i64 ((l : Nat) : Int)), (33, .pointer (some ⟨NP, 0, none⟩)), (34, .bool false), (35, .iface 108 (.pointer (some ⟨bb, 0, none⟩))), (36, .bool fg), (259, .int .i64 ((d.m : Nat) : Int)), (260, .int .i64 ((i : Nat) : Int)), (39, .int .i64 ((d.nd i : Nat) : Int))] := ⟨e32_14, H31.keep S32⟩
        exact wp_ret (ret4 e32_14 (hb.trans (below_le bz hBs)))
      · skip
        rw [decide_eq_false hcut, if_neg Bool.false_ne_true]
        refine wp_skip ?_
        refine wp_seq (wp_use (f72 kb d.m i (d.K i) wq hi (hK i hi) f31 H31.2.2.2.2.2.2.2.1 H31.2.2.1 _ ?_))
        intro f32  S32 e32_309 
        have H32 : Has f32 [(309, .bool (decide (d.K i = 44))), (276, .bool (decide (l < d.O i + d.nd i))), (38, .int .i64 ((d.O i : Nat) : Int)), (37, .int .i64 ((i : Nat) : Int)), (261, .bool (decide (i < d.m))), (0, .slice (some ⟨xb, xo, none⟩) d.m c0), (2, .int .u16 ((d.py : Nat) : Int)), (3, .bool udp), (16, .slice (some ⟨kb, 0, none⟩) d.m d.m), (18, .slice (some ⟨ob, 0, none⟩) d.m d.m), (20, .slice (some ⟨gp, 0, none⟩) n cap), (21, .slice (some ⟨rb, 0, none⟩) 16 16), (22, .slice (some ⟨db, 0, none⟩) 16 16), (30, .int .i64 ((d.O d.m : Nat) : Int)), (31, .int .i64 ((l : Nat) : Int)), (33, .pointer (some ⟨NP, 0, none⟩)), (34, .bool ok), (35, er), (36, .bool fg), (259, .int .i64 ((d.m : Nat) : Int)), (260, .int .i64 ((i : Nat) : Int)), (39, .int .i64 ((d.nd i : Nat) : Int))] := ⟨e32_309, H31.keep S32⟩
        refine wp_cond (t := decide (d.K i = 44)) (ev rfl e32_309) ?_
        by_cases hk : d.K i = 44
        · skip
          rw [decide_eq_true hk, if_pos rfl]
          rw [l4h_eq]
          refine wp_seq (wp_seq (wp_use (f73 xb xo d.m c0 i (d.Fr i) wq hi (hfr i hi) f32 H32.2.2.2.2.2.1 H32.2.2.2.1 _ ?_)))
          intro f33  S33 e33_316 
          have H33 : Has f33 [(316, .bool (hiF (d.Fr i))), (309, .bool (decide (d.K i = 44))), (276, .bool (decide (l < d.O i + d.nd i))), (38, .int .i64 ((d.O i : Nat) : Int)), (37, .int .i64 ((i : Nat) : Int)), (261, .bool (decide (i < d.m))), (0, .slice (some ⟨xb, xo, none⟩) d.m c0), (2, .int .u16 ((d.py : Nat) : Int)), (3, .bool udp), (16, .slice (some ⟨kb, 0, none⟩) d.m d.m), (18, .slice (some ⟨ob, 0, none⟩) d.m d.m), (20, .slice (some ⟨gp, 0, none⟩) n cap), (21, .slice (some ⟨rb, 0, none⟩) 16 16), (22, .slice (some ⟨db, 0, none⟩) 16 16), (30, .int .i64 ((d.O d.m : Nat) : Int)), (31, .int .i64 ((l : Nat) : Int)), (33, .pointer (some ⟨NP, 0, none⟩)), (34, .bool ok), (35, er), (36, .bool fg), (259, .int .i64 ((d.m : Nat) : Int)), (260, .int .i64 ((i : Nat) : Int)), (39, .int .i64 ((d.nd i : Nat) : Int))] := ⟨e33_316, H32.keep S33⟩
          refine wp_cond (t := hiF (d.Fr i)) (ev rfl e33_316) ?_
          cases hhi : hiF (d.Fr i) with
          | true =>
            rw [Res, if_neg hbad, d.at_skip hAt hi hcut hk hhi] at hres
            obtain ⟨rfl, rfl, rfl⟩ := hres
            rw [if_pos rfl]
            rw [hhi] at H33
            refine wp_seq (wp_use (f74 NP wq hp f33 H33.2.2.2.2.2.2.2.2.2.2.2.2.2.2.2.2.1 H33.2.2.2.2.2.2.2.2.2.2.2.2.2.2.2.2.2.1 H33.2.2.2.2.2.2.2.2.2.2.2.2.2.2.2.2.2.2.1 _ ?_))
            intro f34 wz S34 e34_14 bz
            have H34 : Has f34 [(14, .bool true), (316, .bool true), (309, .bool (decide (d.K i = 44))), (276, .bool (decide (l < d.O i + d.nd i))), (38, .int .i64 ((d.O i : Nat) : Int)), (37, .int .i64 ((i : Nat) : Int)), (261, .bool (decide (i < d.m))), (0, .slice (some ⟨xb, xo, none⟩) d.m c0), (2, .int .u16 ((d.py : Nat) : Int)), (3, .bool udp), (16, .slice (some ⟨kb, 0, none⟩) d.m d.m), (18, .slice (some ⟨ob, 0, none⟩) d.m d.m), (20, .slice (some ⟨gp, 0, none⟩) n cap), (21, .slice (some ⟨rb, 0, none⟩) 16 16), (22, .slice (some ⟨db, 0, none⟩) 16 16), (30, .int .i64 ((d.O d.m : Nat) : Int)), (31, .int .i64 ((l : Nat) : Int)), (33, .pointer (some ⟨NP, 0, none⟩)), (34, .bool false), (35, .nilIface), (36, .bool fg), (259, .int .i64 ((d.m : Nat) : Int)), (260, .int .i64 ((i : Nat) : Int)), (39, .int .i64 ((d.nd i : Nat) : Int))] := ⟨e34_14, H33.keep S34⟩
            exact wp_ret (ret4 e34_14 (hb.trans (below_le bz hBs)))
          | false =>
            rw [if_neg Bool.false_ne_true]
            refine wp_skip ?_
            rw [hhi] at H33
            refine wp_seq (wp_use (f75 xb xo d.m c0 i (d.Fr i) wq hi (hfr i hi) f33 H33.2.2.2.2.2.2.1 H33.2.2.2.2.1 _ ?_))
            intro f34  S34 e34_333 
            have H34 : Has f34 [(333, .bool (loF (d.Fr i))), (316, .bool false), (309, .bool (decide (d.K i = 44))), (276, .bool (decide (l < d.O i + d.nd i))), (38, .int .i64 ((d.O i : Nat) : Int)), (37, .int .i64 ((i : Nat) : Int)), (261, .bool (decide (i < d.m))), (0, .slice (some ⟨xb, xo, none⟩) d.m c0), (2, .int .u16 ((d.py : Nat) : Int)), (3, .bool udp), (16, .slice (some ⟨kb, 0, none⟩) d.m d.m), (18, .slice (some ⟨ob, 0, none⟩) d.m d.m), (20, .slice (some ⟨gp, 0, none⟩) n cap), (21, .slice (some ⟨rb, 0, none⟩) 16 16), (22, .slice (some ⟨db, 0, none⟩) 16 16), (30, .int .i64 ((d.O d.m : Nat) : Int)), (31, .int .i64 ((l : Nat) : Int)), (33, .pointer (some ⟨NP, 0, none⟩)), (34, .bool ok), (35, er), (36, .bool fg), (259, .int .i64 ((d.m : Nat) : Int)), (260, .int .i64 ((i : Nat) : Int)), (39, .int .i64 ((d.nd i : Nat) : Int))] := ⟨e34_333, H33.keep S34⟩
            refine wp_cond (t := loF (d.Fr i)) (ev rfl e34_333) ?_
            have hat' := d.at_go hAt hi hcut (fun _ => hhi)
            rw [decide_eq_true hk, Bool.true_and] at hat'
            cases hlo : loF (d.Fr i) with
            | true =>
              rw [if_pos rfl]
              rw [hlo, Bool.or_true] at hat'
              refine wp_use (f76 wq f34  _ ?_)
              intro f35  S35 e35_36 
              have H35 : Has f35 [(36, .bool true), (333, .bool (loF (d.Fr i))), (316, .bool false), (309, .bool (decide (d.K i = 44))), (276, .bool (decide (l < d.O i + d.nd i))), (38, .int .i64 ((d.O i : Nat) : Int)), (37, .int .i64 ((i : Nat) : Int)), (261, .bool (decide (i < d.m))), (0, .slice (some ⟨xb, xo, none⟩) d.m c0), (2, .int .u16 ((d.py : Nat) : Int)), (3, .bool udp), (16, .slice (some ⟨kb, 0, none⟩) d.m d.m), (18, .slice (some ⟨ob, 0, none⟩) d.m d.m), (20, .slice (some ⟨gp, 0, none⟩) n cap), (21, .slice (some ⟨rb, 0, none⟩) 16 16), (22, .slice (some ⟨db, 0, none⟩) 16 16), (30, .int .i64 ((d.O d.m : Nat) : Int)), (31, .int .i64 ((l : Nat) : Int)), (33, .pointer (some ⟨NP, 0, none⟩)), (34, .bool ok), (35, er), (259, .int .i64 ((d.m : Nat) : Int)), (260, .int .i64 ((i : Nat) : Int)), (39, .int .i64 ((d.nd i : Nat) : Int))] := ⟨e35_36, H34.keep S35⟩
              show Code.wp _ _ _ _ _
              refine wp_use (f77 i d.m wq hi hd.m f35 H35.2.2.2.2.2.2.2.2.2.2.2.2.2.2.2.2.2.2.2.2.2.2.1 _ ?_)
              intro f36  S36 e36_260 
              have H36 : Has f36 [(260, .int .i64 ((i + 1 : Nat) : Int)), (36, .bool true), (333, .bool (loF (d.Fr i))), (316, .bool false), (309, .bool (decide (d.K i = 44))), (276, .bool (decide (l < d.O i + d.nd i))), (38, .int .i64 ((d.O i : Nat) : Int)), (37, .int .i64 ((i : Nat) : Int)), (261, .bool (decide (i < d.m))), (0, .slice (some ⟨xb, xo, none⟩) d.m c0), (2, .int .u16 ((d.py : Nat) : Int)), (3, .bool udp), (16, .slice (some ⟨kb, 0, none⟩) d.m d.m), (18, .slice (some ⟨ob, 0, none⟩) d.m d.m), (20, .slice (some ⟨gp, 0, none⟩) n cap), (21, .slice (some ⟨rb, 0, none⟩) 16 16), (22, .slice (some ⟨db, 0, none⟩) 16 16), (30, .int .i64 ((d.O d.m : Nat) : Int)), (31, .int .i64 ((l : Nat) : Int)), (33, .pointer (some ⟨NP, 0, none⟩)), (34, .bool ok), (35, er), (259, .int .i64 ((d.m : Nat) : Int)), (39, .int .i64 ((d.nd i : Nat) : Int))] := ⟨e36_260, H35.keep S36⟩
              refine ⟨⟨rfl, _, i + 1, true, rfl, ⟨H36.2.2.2.2.2.2.2.2.2.1, H36.2.2.2.2.2.2.2.2.2.2.1, H36.2.2.2.2.2.2.2.2.2.2.2.1, H36.2.2.2.2.2.2.2.2.2.2.2.2.1, H36.2.2.2.2.2.2.2.2.2.2.2.2.2.1, H36.2.2.2.2.2.2.2.2.2.2.2.2.2.2.1, H36.2.2.2.2.2.2.2.2.2.2.2.2.2.2.2.1, H36.2.2.2.2.2.2.2.2.2.2.2.2.2.2.2.2.1, H36.2.2.2.2.2.2.2.2.2.2.2.2.2.2.2.2.2.1, H36.2.2.2.2.2.2.2.2.2.2.2.2.2.2.2.2.2.2.1, H36.2.2.2.2.2.2.2.2.2.2.2.2.2.2.2.2.2.2.2.1, H36.2.2.2.2.2.2.2.2.2.2.2.2.2.2.2.2.2.2.2.2.1, H36.2.2.2.2.2.2.2.2.2.2.2.2.2.2.2.2.2.2.2.2.2.1, H36.2.1, H36.2.2.2.2.2.2.2.2.2.2.2.2.2.2.2.2.2.2.2.2.2.2.1, H36.1, trivial⟩, hat'⟩, ?_⟩
              show d.m - (intOf ((F4 f36).tmps.getD 260 undef)).toNat < d.m - (intOf ((F4 g).tmps.getD 260 undef)).toNat
              rw [evG (N := 422) rfl e36_260, evG (N := 422) rfl (G.2.2.2.2.2.2.2.2.2.2.2.2.2.2.2.1)]
              simp only [intOf]
              omega
            | false =>
              rw [if_neg Bool.false_ne_true]
              refine wp_skip ?_
              rw [hlo, Bool.or_false] at hat'
              show Code.wp _ _ _ _ _
              refine wp_use (f77 i d.m wq hi hd.m f34 H34.2.2.2.2.2.2.2.2.2.2.2.2.2.2.2.2.2.2.2.2.2.2.1 _ ?_)
              intro f35  S35 e35_260 
              have H35 : Has f35 [(260, .int .i64 ((i + 1 : Nat) : Int)), (333, .bool (loF (d.Fr i))), (316, .bool false), (309, .bool (decide (d.K i = 44))), (276, .bool (decide (l < d.O i + d.nd i))), (38, .int .i64 ((d.O i : Nat) : Int)), (37, .int .i64 ((i : Nat) : Int)), (261, .bool (decide (i < d.m))), (0, .slice (some ⟨xb, xo, none⟩) d.m c0), (2, .int .u16 ((d.py : Nat) : Int)), (3, .bool udp), (16, .slice (some ⟨kb, 0, none⟩) d.m d.m), (18, .slice (some ⟨ob, 0, none⟩) d.m d.m), (20, .slice (some ⟨gp, 0, none⟩) n cap), (21, .slice (some ⟨rb, 0, none⟩) 16 16), (22, .slice (some ⟨db, 0, none⟩) 16 16), (30, .int .i64 ((d.O d.m : Nat) : Int)), (31, .int .i64 ((l : Nat) : Int)), (33, .pointer (some ⟨NP, 0, none⟩)), (34, .bool ok), (35, er), (36, .bool fg), (259, .int .i64 ((d.m : Nat) : Int)), (39, .int .i64 ((d.nd i : Nat) : Int))] := ⟨e35_260, H34.keep S35⟩
              refine ⟨⟨rfl, _, i + 1, fg, rfl, ⟨H35.2.2.2.2.2.2.2.2.1, H35.2.2.2.2.2.2.2.2.2.1, H35.2.2.2.2.2.2.2.2.2.2.1, H35.2.2.2.2.2.2.2.2.2.2.2.1, H35.2.2.2.2.2.2.2.2.2.2.2.2.1, H35.2.2.2.2.2.2.2.2.2.2.2.2.2.1, H35.2.2.2.2.2.2.2.2.2.2.2.2.2.2.1, H35.2.2.2.2.2.2.2.2.2.2.2.2.2.2.2.1, H35.2.2.2.2.2.2.2.2.2.2.2.2.2.2.2.2.1, H35.2.2.2.2.2.2.2.2.2.2.2.2.2.2.2.2.2.1, H35.2.2.2.2.2.2.2.2.2.2.2.2.2.2.2.2.2.2.1, H35.2.2.2.2.2.2.2.2.2.2.2.2.2.2.2.2.2.2.2.1, H35.2.2.2.2.2.2.2.2.2.2.2.2.2.2.2.2.2.2.2.2.1, H35.2.2.2.2.2.2.2.2.2.2.2.2.2.2.2.2.2.2.2.2.2.1, H35.2.2.2.2.2.2.2.2.2.2.2.2.2.2.2.2.2.2.2.2.2.2.1, H35.1, trivial⟩, hat'⟩, ?_⟩
              show d.m - (intOf ((F4 f35).tmps.getD 260 undef)).toNat < d.m - (intOf ((F4 g).tmps.getD 260 undef)).toNat
              rw [evG (N := 422) rfl e35_260, evG (N := 422) rfl (G.2.2.2.2.2.2.2.2.2.2.2.2.2.2.2.1)]
              simp only [intOf]
              omega
        · skip
          rw [decide_eq_false hk, if_neg Bool.false_ne_true]
          refine wp_skip ?_
          have hat' := d.at_go hAt hi hcut (fun q => absurd q hk)
          rw [decide_eq_false hk, Bool.false_and, Bool.or_false] at hat'
          show Code.wp _ _ _ _ _
          refine wp_use (f77 i d.m wq hi hd.m f32 H32.2.2.2.2.2.2.2.2.2.2.2.2.2.2.2.2.2.2.2.2.1 _ ?_)
          intro f33  S33 e33_260 
          have H33 : Has f33 [(260, .int .i64 ((i + 1 : Nat) : Int)), (309, .bool (decide (d.K i = 44))), (276, .bool (decide (l < d.O i + d.nd i))), (38, .int .i64 ((d.O i : Nat) : Int)), (37, .int .i64 ((i : Nat) : Int)), (261, .bool (decide (i < d.m))), (0, .slice (some ⟨xb, xo, none⟩) d.m c0), (2, .int .u16 ((d.py : Nat) : Int)), (3, .bool udp), (16, .slice (some ⟨kb, 0, none⟩) d.m d.m), (18, .slice (some ⟨ob, 0, none⟩) d.m d.m), (20, .slice (some ⟨gp, 0, none⟩) n cap), (21, .slice (some ⟨rb, 0, none⟩) 16 16), (22, .slice (some ⟨db, 0, none⟩) 16 16), (30, .int .i64 ((d.O d.m : Nat) : Int)), (31, .int .i64 ((l : Nat) : Int)), (33, .pointer (some ⟨NP, 0, none⟩)), (34, .bool ok), (35, er), (36, .bool fg), (259, .int .i64 ((d.m : Nat) : Int)), (39, .int .i64 ((d.nd i : Nat) : Int))] := ⟨e33_260, H32.keep S33⟩
          refine ⟨⟨rfl, _, i + 1, fg, rfl, ⟨H33.2.2.2.2.2.2.1, H33.2.2.2.2.2.2.2.1, H33.2.2.2.2.2.2.2.2.1, H33.2.2.2.2.2.2.2.2.2.1, H33.2.2.2.2.2.2.2.2.2.2.1, H33.2.2.2.2.2.2.2.2.2.2.2.1, H33.2.2.2.2.2.2.2.2.2.2.2.2.1, H33.2.2.2.2.2.2.2.2.2.2.2.2.2.1, H33.2.2.2.2.2.2.2.2.2.2.2.2.2.2.1, H33.2.2.2.2.2.2.2.2.2.2.2.2.2.2.2.1, H33.2.2.2.2.2.2.2.2.2.2.2.2.2.2.2.2.1, H33.2.2.2.2.2.2.2.2.2.2.2.2.2.2.2.2.2.1, H33.2.2.2.2.2.2.2.2.2.2.2.2.2.2.2.2.2.2.1, H33.2.2.2.2.2.2.2.2.2.2.2.2.2.2.2.2.2.2.2.1, H33.2.2.2.2.2.2.2.2.2.2.2.2.2.2.2.2.2.2.2.2.1, H33.1, trivial⟩, hat'⟩, ?_⟩
          show d.m - (intOf ((F4 f33).tmps.getD 260 undef)).toNat < d.m - (intOf ((F4 g).tmps.getD 260 undef)).toNat
          rw [evG (N := 422) rfl e33_260, evG (N := 422) rfl (G.2.2.2.2.2.2.2.2.2.2.2.2.2.2.2.1)]
          simp only [intOf]
          omega
  · skip
    rw [decide_eq_false hi, if_neg Bool.false_ne_true]
    refine wp_exit ?_
    simp only [Exit.inBlock, Exit.then, if_true]
    obtain rfl : i = d.m := by have := hAt.2.2; omega
    exact partG d hd udp hu a0 xb xo c0 kb ob rb db gp n cap l NP ha0 zp ea ce te X0 ok er pk B w wq hb hBs hfr hK hO hs hds hC hl hn hcap hOm hea heX hg0 hp h40 hres fg hAt f11 ⟨H11.2.1, H11.2.2.1, H11.2.2.2.1, H11.2.2.2.2.1, H11.2.2.2.2.2.1, H11.2.2.2.2.2.2.1, H11.2.2.2.2.2.2.2.1, H11.2.2.2.2.2.2.2.2.1, H11.2.2.2.2.2.2.2.2.2.1, H11.2.2.2.2.2.2.2.2.2.2.1, H11.2.2.2.2.2.2.2.2.2.2.2.1, H11.2.2.2.2.2.2.2.2.2.2.2.2.1, H11.2.2.2.2.2.2.2.2.2.2.2.2.2.1, H11.2.2.2.2.2.2.2.2.2.2.2.2.2.2.1, trivial⟩
end Go.Proofs.YbulkblsgFmt

import Derived.Test.YbulkblsgFmtBc
import Derived.Test.YbulkblsgFmtPl
namespace Go.Proofs.YbulkblsgFmt
open Go.RowKit Go.Extern.Stop Go.Stop Go.Extern
set_option linter.unusedVariables false
set_option linter.unusedSimpArgs false
theorem evG {N k : Nat} {f : Nat → Value} {v : Value} (h : Nat.blt k N = true) (hv : f k = v) : (Fm N f).tmps.getD k undef = v := evN h hv
theorem ret4 {f : Nat → Value} {B : Nat} {w wy : World} (h14 : f 14 = .bool true) (hb : Below B w wy) : (bodyPost Ybaf.prog Ybaf.f4 fun e w' => e = .returned (.bool true) ∧ Below B w w') .ret (F4 f) wy := by
  refine bodyPost_ret_by (v := .bool true) ?_ rfl ⟨rfl, hb⟩
  rw [results_tmp (t := 14) rfl]
  rw [evG (N := 422) (k := 14) rfl h14]
theorem l4_24 : dropC 24 l4 = (headC (dropC 24 l4)).seq (((headC (headC (dropC 25 l4))).seq (Code.cond (.tmp 241) ((headC (thnC (tailC (headC (dropC 25 l4))))).seq .ret) .skip)).seq (dropC 26 l4)) := by kernel_rfl
theorem l4_26 : dropC 26 l4 = (headC (dropC 26 l4)).seq (((headC (headC (dropC 27 l4))).seq (Code.block 8 (.loop l4e))).seq (dropC 28 l4)) := by kernel_rfl
theorem l4_28 : dropC 28 l4 = ((headC (headC (dropC 28 l4))).seq (Code.cond (.tmp 335) ((headC (thnC (tailC (headC (dropC 28 l4))))).seq .ret) .skip)).seq ((headC (dropC 29 l4)).seq (((headC (headC (dropC 30 l4))).seq (Code.cond (.tmp 355) ((headC (thnC (tailC (headC (dropC 30 l4))))).seq .ret) .skip)).seq (((headC (headC (dropC 31 l4))).seq (Code.cond (.tmp 358) ((headC (thnC (tailC (headC (dropC 31 l4))))).seq (Code.cond (.tmp 375) (thnC (tailC (thnC (tailC (headC (dropC 31 l4)))))) .skip)) ((headC (elsC (tailC (headC (dropC 31 l4))))).seq (Code.cond (.tmp 378) (thnC (tailC (elsC (tailC (headC (dropC 31 l4)))))) .skip)))).seq (dropC 32 l4)))) := by kernel_rfl
theorem l4_32 : dropC 32 l4 = ((headC (headC (dropC 32 l4))).seq (Code.cond (.tmp 388) ((headC (thnC (tailC (headC (dropC 32 l4))))).seq .ret) .skip)).seq ((headC (dropC 33 l4)).seq .ret) := by kernel_rfl
theorem l4e_eq : l4e = (headC l4e).seq ((Code.cond (.tmp 261) .skip (.exit 8)).seq ((Code.block 9 l4g).seq (dropC 3 l4e))) := by kernel_rfl
noncomputable def l4h : Code := thnC (dropC 6 l4g)
theorem l4g_eq : l4g = (headC l4g).seq ((headC (dropC 1 l4g)).seq ((headC (dropC 2 l4g)).seq (((headC (headC (dropC 3 l4g))).seq (Code.cond (.tmp 271) (thnC (tailC (headC (dropC 3 l4g)))) .skip)).seq (((headC (headC (dropC 4 l4g))).seq (Code.cond (.tmp 276) ((headC (thnC (tailC (headC (dropC 4 l4g))))).seq .ret) .skip)).seq ((headC (dropC 5 l4g)).seq (Code.cond (.tmp 309) l4h .skip)))))) := by kernel_rfl
theorem l4h_eq : l4h = ((headC (headC (thnC (dropC 6 l4g)))).seq (Code.cond (.tmp 316) ((headC (thnC (tailC (headC (thnC (dropC 6 l4g)))))).seq .ret) .skip)).seq ((headC (tailC (thnC (dropC 6 l4g)))).seq (Code.cond (.tmp 333) (thnC (tailC (tailC (thnC (dropC 6 l4g))))) .skip)) := by kernel_rfl
theorem tcpk_form (gp l cap : Nat) (C : Nat → Nat) (zp : Option Addr) (o : Nat) : ∃ tt tn tc, (∀ len, tcpk gp 0 l cap C zp o len = hdr C zp tt tn tc len) ∧ (o ≤ l → tt = some ⟨gp, 0 + sh cap o, none⟩ ∧ tn = l - o ∧ tc = cap - o) ∧ (¬ o ≤ l → tt = none ∧ tn = 0 ∧ tc = 0) := by
  by_cases h : o ≤ l
  · exact ⟨_, _, _, fun len => by unfold tcpk; rw [if_pos h], fun _ => ⟨rfl, rfl, rfl⟩, fun q => absurd h q⟩
  · exact ⟨_, _, _, fun len => by unfold tcpk; rw [if_neg h], fun q => absurd q h, fun _ => ⟨rfl, rfl, rfl⟩⟩
set_option maxRecDepth 100000 in
set_option maxHeartbeats 1000000 in
theorem partF (d : D) (hd : d.Ok) (gp l cap NP : Nat) (zp : Option Addr) (ea : Addr) (ce : Array Value) (te : TypeId) (X0 : Nat) (fg ok : Bool) (er : Value) (pk : Array Value) (B : Nat) (w wv : World) (hb : Below B w wv)
    (hea : wv.heap[ea.block]? = some (.cells ce te (0, 0))) (heX : ea.block < X0) (hg0 : wv.cell? ⟨0, 0, none⟩ = some (.iface 108 (.pointer (some ea)))) (hp : wv.heap[NP]? = some (.cells pk 67 (0, 0)))
    (hres : (if pay d.C + 40 < d.O d.m then pk = tcpk gp 0 l cap d.C zp (d.O d.m) 0 ∧ ok = false ∧ newE X0 wv er else if fg = true then pk = tcpk gp 0 l cap d.C zp (d.O d.m) 0 ∧ ok = false ∧ er = .iface 108 (.pointer (some ea)) else if l < d.O d.m then pk = tcpk gp 0 l cap d.C zp (d.O d.m) 0 ∧ ok = false ∧ newE X0 wv er else pk = tcpk gp 0 l cap d.C zp (d.O d.m) ((pay d.C : Int) + 40 - (d.O d.m : Int)) ∧ ok = true ∧ er = .nilIface)) (f : Nat → Value) (H : Has f [(30, .int .i64 ((d.O d.m : Nat) : Int)), (31, .int .i64 ((l : Nat) : Int)), (33, .pointer (some ⟨NP, 0, none⟩)), (34, .bool ok), (35, er), (36, .bool fg), (40, .int .i64 ((d.py : Int) + 40 - (d.O d.m : Int)))]) :
    Code.wp Ybaf.prog (dropC 32 l4) (bodyPost Ybaf.prog Ybaf.f4 fun e w' => e = .returned (.bool true) ∧ Below B w w') (F4 f) wv := by
  rw [D.pay_C hd] at hres
  obtain ⟨tt, tn, tc, htk, _, _⟩ := tcpk_form gp l cap d.C zp (d.O d.m)
  rw [l4_32]
  have neq : ∀ bb, X0 ≤ bb → (⟨bb, 0, none⟩ : Addr) ≠ ea := fun bb h e => by rw [← e] at heX; exact absurd heX (by show ¬ bb < X0; omega)
  by_cases c1 : d.py + 40 < d.O d.m
  · rw [if_pos c1] at hres
    obtain ⟨rfl, rfl, bb, cs, ts, rfl, hb1, hb2⟩ := hres
    rw [htk] at hp
    refine wp_seq (wp_seq (wp_use (f88a d.py (d.O d.m) l fg wv c1 f H.1 H.2.1 H.2.2.2.2.2.1 H.2.2.2.2.2.2.1 _ ?_)))
    intro f1  S1 e1_388 
    have H1 : Has f1 [(388, .bool true), (30, .int .i64 ((d.O d.m : Nat) : Int)), (31, .int .i64 ((l : Nat) : Int)), (33, .pointer (some ⟨NP, 0, none⟩)), (34, .bool false), (35, .iface 108 (.pointer (some ⟨bb, 0, none⟩))), (36, .bool fg), (40, .int .i64 ((d.py : Int) + 40 - (d.O d.m : Int)))] := ⟨e1_388, H.keep S1⟩
    refine wp_cond_true (ev rfl e1_388) ?_
    refine wp_seq (wp_use (f89a NP d.py (d.O d.m) fg wv d.C zp ea bb cs ce ts te hb2 hea (neq bb hb1) hg0 tt tn tc hp c1 f1 H1.2.2.2.1 H1.2.2.2.2.1 H1.2.2.2.2.2.1 H1.2.2.2.2.2.2.1 H1.2.2.2.2.2.2.2.1 _ ?_))
    intro f2  S2 e2_14 
    have H2 : Has f2 [(14, .bool true), (388, .bool true), (30, .int .i64 ((d.O d.m : Nat) : Int)), (31, .int .i64 ((l : Nat) : Int)), (33, .pointer (some ⟨NP, 0, none⟩)), (34, .bool false), (35, .iface 108 (.pointer (some ⟨bb, 0, none⟩))), (36, .bool fg), (40, .int .i64 ((d.py : Int) + 40 - (d.O d.m : Int)))] := ⟨e2_14, H1.keep S2⟩
    exact wp_ret (ret4 e2_14 hb)
  rw [if_neg c1] at hres
  cases fg with
  | true =>
    rw [if_pos rfl] at hres
    obtain ⟨rfl, rfl, rfl⟩ := hres
    rw [htk] at hp
    refine wp_seq (wp_seq (wp_use (f88b d.py (d.O d.m) l wv c1 f H.1 H.2.1 H.2.2.2.2.2.1 H.2.2.2.2.2.2.1 _ ?_)))
    intro f1  S1 e1_388 
    have H1 : Has f1 [(388, .bool true), (30, .int .i64 ((d.O d.m : Nat) : Int)), (31, .int .i64 ((l : Nat) : Int)), (33, .pointer (some ⟨NP, 0, none⟩)), (34, .bool false), (35, .iface 108 (.pointer (some ea))), (36, .bool true), (40, .int .i64 ((d.py : Int) + 40 - (d.O d.m : Int)))] := ⟨e1_388, H.keep S1⟩
    refine wp_cond_true (ev rfl e1_388) ?_
    refine wp_seq (wp_use (f89b NP d.py (d.O d.m) wv d.C zp ea hg0 tt tn tc hp c1 f1 H1.2.2.2.1 H1.2.2.2.2.1 H1.2.2.2.2.2.1 H1.2.2.2.2.2.2.1 H1.2.2.2.2.2.2.2.1 _ ?_))
    intro f2  S2 e2_14 
    have H2 : Has f2 [(14, .bool true), (388, .bool true), (30, .int .i64 ((d.O d.m : Nat) : Int)), (31, .int .i64 ((l : Nat) : Int)), (33, .pointer (some ⟨NP, 0, none⟩)), (34, .bool false), (35, .iface 108 (.pointer (some ea))), (36, .bool true), (40, .int .i64 ((d.py : Int) + 40 - (d.O d.m : Int)))] := ⟨e2_14, H1.keep S2⟩
    exact wp_ret (ret4 e2_14 hb)
  | false =>
    rw [if_neg Bool.false_ne_true] at hres
    by_cases c2 : l < d.O d.m
    · rw [if_pos c2] at hres
      obtain ⟨rfl, rfl, bb, cs, ts, rfl, hb1, hb2⟩ := hres
      rw [htk] at hp
      refine wp_seq (wp_seq (wp_use (f88c d.py (d.O d.m) l wv c1 c2 f H.1 H.2.1 H.2.2.2.2.2.1 H.2.2.2.2.2.2.1 _ ?_)))
      intro f1  S1 e1_388 
      have H1 : Has f1 [(388, .bool true), (30, .int .i64 ((d.O d.m : Nat) : Int)), (31, .int .i64 ((l : Nat) : Int)), (33, .pointer (some ⟨NP, 0, none⟩)), (34, .bool false), (35, .iface 108 (.pointer (some ⟨bb, 0, none⟩))), (36, .bool false), (40, .int .i64 ((d.py : Int) + 40 - (d.O d.m : Int)))] := ⟨e1_388, H.keep S1⟩
      refine wp_cond_true (ev rfl e1_388) ?_
      refine wp_seq (wp_use (f89c NP d.py (d.O d.m) wv d.C zp ea bb cs ce ts te hb2 hea (neq bb hb1) hg0 tt tn tc hp c1 f1 H1.2.2.2.1 H1.2.2.2.2.1 H1.2.2.2.2.2.1 H1.2.2.2.2.2.2.1 H1.2.2.2.2.2.2.2.1 _ ?_))
      intro f2  S2 e2_14 
      have H2 : Has f2 [(14, .bool true), (388, .bool true), (30, .int .i64 ((d.O d.m : Nat) : Int)), (31, .int .i64 ((l : Nat) : Int)), (33, .pointer (some ⟨NP, 0, none⟩)), (34, .bool false), (35, .iface 108 (.pointer (some ⟨bb, 0, none⟩))), (36, .bool false), (40, .int .i64 ((d.py : Int) + 40 - (d.O d.m : Int)))] := ⟨e2_14, H1.keep S2⟩
      exact wp_ret (ret4 e2_14 hb)
    · rw [if_neg c2] at hres
      obtain ⟨rfl, rfl, rfl⟩ := hres
      rw [htk] at hp
      refine wp_seq (wp_seq (wp_use (f88d d.py (d.O d.m) l wv c1 c2 f H.1 H.2.1 H.2.2.2.2.2.1 H.2.2.2.2.2.2.1 _ ?_)))
      intro f1  S1 e1_388 
      have H1 : Has f1 [(388, .bool false), (30, .int .i64 ((d.O d.m : Nat) : Int)), (31, .int .i64 ((l : Nat) : Int)), (33, .pointer (some ⟨NP, 0, none⟩)), (34, .bool true), (35, .nilIface), (36, .bool false), (40, .int .i64 ((d.py : Int) + 40 - (d.O d.m : Int)))] := ⟨e1_388, H.keep S1⟩
      refine wp_cond_false (ev rfl e1_388) ?_
      refine wp_skip ?_
      refine wp_seq (wp_use (f90 NP d.py (d.O d.m) wv d.C zp tt tn tc hp f1 H1.2.2.2.1 H1.2.2.2.2.1 H1.2.2.2.2.2.1 H1.2.2.2.2.2.2.2.1 _ ?_))
      intro f2  S2 e2_14 
      have H2 : Has f2 [(14, .bool true), (388, .bool false), (30, .int .i64 ((d.O d.m : Nat) : Int)), (31, .int .i64 ((l : Nat) : Int)), (33, .pointer (some ⟨NP, 0, none⟩)), (34, .bool true), (35, .nilIface), (36, .bool false), (40, .int .i64 ((d.py : Int) + 40 - (d.O d.m : Int)))] := ⟨e2_14, H1.keep S2⟩
      exact wp_ret (ret4 e2_14 hb)
end Go.Proofs.YbulkblsgFmt

import Derived.Test.YbulkblsgFmtBi
namespace Go.Proofs.YbulkblsgFmt
open Go.RowKit Go.Extern.Stop Go.Stop Go.Extern
set_option linter.unusedVariables false
set_option linter.unusedSimpArgs false
theorem Fm_of {N : Nat} (a : Array Value) (h : a.size = N) : ({ tmps := a, defers := [] } : Act) = Fm N (fun k => a.getD k undef) := by
  subst h
  unfold Fm
  congr 1
  apply Array.ext
  · simp
  · intro i h1 h2
    simp [Array.getD_eq_getD_getElem?, h1]
set_option maxRecDepth 100000 in
set_option maxHeartbeats 1000000 in
theorem built_wp (F : Interp) (d : D) (hok : d.m ≤ 256 → d.Ok) (udp : Bool) (hu : d.fi = if udp then 17 else 6) (a0 : Option Addr) (xb xo c0 : Nat) (ha0 : 0 < d.m → a0 = some ⟨xb, xo, none⟩) (zp : Option Addr) (ea : Addr) (ce : Array Value) (te : TypeId) (w : World) (hF : F.answers w.tape)
    (hx : ∀ i, i < d.m → w.cell? ⟨xb, xo + i * 4, none⟩ = some (.int .u8 ((d.kd i : Nat) : Int)) ∧ w.cell? ⟨xb, xo + i * 4 + 1, none⟩ = some (.int .u8 ((d.L i : Nat) : Int)) ∧ w.cell? ⟨xb, xo + i * 4 + 2, none⟩ = some (.int .u16 ((d.Fr i : Nat) : Int)) ∧ w.cell? ⟨xb, xo + i * 4 + 3, none⟩ = some (.int .u8 ((d.Z i : Nat) : Int)))
    (hea : w.heap[ea.block]? = some (.cells ce te (0, 0))) (hg0 : w.cell? ⟨0, 0, none⟩ = some (.iface 108 (.pointer (some ea)))) (hg3 : w.cell? ⟨3, 0, none⟩ = some (.pointer zp))
    (a4 : Option Addr) (tb to tl c4 : Nat) (ha4 : 0 < tl → a4 = some ⟨tb, to, none⟩) (hT : ∀ k, k < tl → w.cell? ⟨tb, to + k, none⟩ = some (.int .u8 ((d.T k : Nat) : Int))) (ct : Nat) (dc : Bool) (hct : ct < 4294967296)
    (f : Nat → Value) (H : Has f [(0, .slice a0 d.m c0), (1, .int .u8 ((d.seed : Nat) : Int)), (2, .int .u16 ((d.py : Nat) : Int)), (3, .bool udp), (4, .slice a4 tl c4), (5, .int .u32 ((ct : Nat) : Int)), (6, .bool dc)]) :
    Code.wp Ybaf.prog l4 (bodyPost Ybaf.prog Ybaf.f4 fun e w' => e = .returned (.bool true) ∧ Below w.heap.size w w') (F4 f) w := by
  rw [l4_0]
  refine wp_seq (wp_use (f0 w f  _ ?_))
  intro f101  S101 e101_14 
  have H101 : Has f101 [(14, .bool false), (0, .slice a0 d.m c0), (1, .int .u8 ((d.seed : Nat) : Int)), (2, .int .u16 ((d.py : Nat) : Int)), (3, .bool udp), (4, .slice a4 tl c4), (5, .int .u32 ((ct : Nat) : Int)), (6, .bool dc)] := ⟨e101_14, H.keep S101⟩
  by_cases hm : d.m ≤ 256
  · skip
    have hd := hok hm
    by_cases ht : tl ≤ 4096
    · skip
      refine wp_seq (wp_seq (wp_use (f1 a0 d.m c0 a4 tl c4 w hm ht f101 H101.2.1 H101.2.2.2.2.2.1 _ ?_)))
      intro f102  S102 e102_48 
      have H102 : Has f102 [(48, .bool false), (14, .bool false), (0, .slice a0 d.m c0), (1, .int .u8 ((d.seed : Nat) : Int)), (2, .int .u16 ((d.py : Nat) : Int)), (3, .bool udp), (4, .slice a4 tl c4), (5, .int .u32 ((ct : Nat) : Int)), (6, .bool dc)] := ⟨e102_48, H101.keep S102⟩
      refine wp_cond_false (ev rfl e102_48) ?_
      refine wp_skip ?_
      exact partA1 F d hd udp hu a0 xb xo c0 0 ha0 zp ea ce te w.heap.size w w (Below.refl _ _) (Nat.le_refl _) (Nat.le_refl _) hF hx hea hg0 hg3 a4 tb to tl c4 ha4 ht hT ct dc hct f102 ⟨H102.2.2.1, H102.2.2.2.1, H102.2.2.2.2.1, H102.2.2.2.2.2.1, H102.2.2.2.2.2.2.1, H102.2.2.2.2.2.2.2.1, H102.2.2.2.2.2.2.2.2.1, trivial⟩
    · skip
      refine wp_seq (wp_seq (wp_use (f1b a0 d.m c0 a4 tl c4 w hm ht f101 H101.2.1 H101.2.2.2.2.2.1 _ ?_)))
      intro f102  S102 e102_48 
      have H102 : Has f102 [(48, .bool true), (14, .bool false), (0, .slice a0 d.m c0), (1, .int .u8 ((d.seed : Nat) : Int)), (2, .int .u16 ((d.py : Nat) : Int)), (3, .bool udp), (4, .slice a4 tl c4), (5, .int .u32 ((ct : Nat) : Int)), (6, .bool dc)] := ⟨e102_48, H101.keep S102⟩
      refine wp_cond_true (ev rfl e102_48) ?_
      refine wp_seq (wp_use (f2 w f102  _ ?_))
      intro f103  S103 e103_14 
      have H103 : Has f103 [(14, .bool true), (48, .bool true), (0, .slice a0 d.m c0), (1, .int .u8 ((d.seed : Nat) : Int)), (2, .int .u16 ((d.py : Nat) : Int)), (3, .bool udp), (4, .slice a4 tl c4), (5, .int .u32 ((ct : Nat) : Int)), (6, .bool dc)] := ⟨e103_14, H102.keep S103⟩
      exact wp_ret (ret4 e103_14 (Below.refl _ _))
  · skip
    refine wp_seq (wp_seq (wp_use (f1a a0 d.m c0 w hm f101 H101.2.1 _ ?_)))
    intro f102  S102 e102_48 
    have H102 : Has f102 [(48, .bool true), (14, .bool false), (0, .slice a0 d.m c0), (1, .int .u8 ((d.seed : Nat) : Int)), (2, .int .u16 ((d.py : Nat) : Int)), (3, .bool udp), (4, .slice a4 tl c4), (5, .int .u32 ((ct : Nat) : Int)), (6, .bool dc)] := ⟨e102_48, H101.keep S102⟩
    refine wp_cond_true (ev rfl e102_48) ?_
    refine wp_seq (wp_use (f2 w f102  _ ?_))
    intro f103  S103 e103_14 
    have H103 : Has f103 [(14, .bool true), (48, .bool true), (0, .slice a0 d.m c0), (1, .int .u8 ((d.seed : Nat) : Int)), (2, .int .u16 ((d.py : Nat) : Int)), (3, .bool udp), (4, .slice a4 tl c4), (5, .int .u32 ((ct : Nat) : Int)), (6, .bool dc)] := ⟨e103_14, H102.keep S103⟩
    exact wp_ret (ret4 e103_14 (Below.refl _ _))
set_option maxRecDepth 100000 in
set_option maxHeartbeats 1000000 in
theorem built_main (F : Interp) (d : D) (hok : d.m ≤ 256 → d.Ok) (udp : Bool) (hu : d.fi = if udp then 17 else 6) (a0 : Option Addr) (xb xo c0 : Nat) (ha0 : 0 < d.m → a0 = some ⟨xb, xo, none⟩) (zp : Option Addr) (ea : Addr) (ce : Array Value) (te : TypeId) (w : World) (hF : F.answers w.tape)
    (hx : ∀ i, i < d.m → w.cell? ⟨xb, xo + i * 4, none⟩ = some (.int .u8 ((d.kd i : Nat) : Int)) ∧ w.cell? ⟨xb, xo + i * 4 + 1, none⟩ = some (.int .u8 ((d.L i : Nat) : Int)) ∧ w.cell? ⟨xb, xo + i * 4 + 2, none⟩ = some (.int .u16 ((d.Fr i : Nat) : Int)) ∧ w.cell? ⟨xb, xo + i * 4 + 3, none⟩ = some (.int .u8 ((d.Z i : Nat) : Int)))
    (hea : w.heap[ea.block]? = some (.cells ce te (0, 0))) (hg0 : w.cell? ⟨0, 0, none⟩ = some (.iface 108 (.pointer (some ea)))) (hg3 : w.cell? ⟨3, 0, none⟩ = some (.pointer zp))
    (a4 : Option Addr) (tb to tl c4 : Nat) (ha4 : 0 < tl → a4 = some ⟨tb, to, none⟩) (hT : ∀ k, k < tl → w.cell? ⟨tb, to + k, none⟩ = some (.int .u8 ((d.T k : Nat) : Int))) (ct : Nat) (dc : Bool) (hct : ct < 4294967296) :
    Calls Ybaf.prog 4 #[.slice a0 d.m c0, .int .u8 ((d.seed : Nat) : Int), .int .u16 ((d.py : Nat) : Int), .bool udp, .slice a4 tl c4, .int .u32 ((ct : Nat) : Int), .bool dc] w fun e w' => e = .returned (.bool true) ∧ Below w.heap.size w w' := by
  go_enter Ybaf.func4, Ybaf.ntmps4
  change Code.wp Ybaf.prog l4 _ _ _
  rw [Fm_of (N := 422) _ (by rfl)]
  exact built_wp F d hok udp hu a0 xb xo c0 ha0 zp ea ce te w hF hx hea hg0 hg3 a4 tb to tl c4 ha4 hT ct dc hct _ ⟨by rfl, by rfl, by rfl, by rfl, by rfl, by rfl, by rfl, trivial⟩
end Go.Proofs.YbulkblsgFmt

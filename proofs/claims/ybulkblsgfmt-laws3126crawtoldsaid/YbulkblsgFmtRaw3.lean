import Derived.Test.YbulkblsgFmtRaw2
namespace Go.Proofs.YbulkblsgFmt
open Go.RowKit Go.Extern.Stop Go.Stop Go.Extern
set_option linter.unusedVariables false
set_option linter.unusedSimpArgs false
theorem l5t_eq : dropC 5 l5 = (headC (dropC 5 l5)).seq (((headC (headC (dropC 6 l5))).seq (Code.cond (.tmp 41) ((headC (thnC (tailC (headC (dropC 6 l5))))).seq .ret) .skip)).seq (((headC (headC (dropC 7 l5))).seq (Code.cond (.tmp 51) ((headC (thnC (tailC (headC (dropC 7 l5))))).seq .ret) .skip)).seq (((headC (headC (dropC 8 l5))).seq (Code.cond (.tmp 66) ((headC (thnC (tailC (headC (dropC 8 l5))))).seq .ret) .skip)).seq (((headC (headC (dropC 9 l5))).seq (Code.cond (.tmp 72) ((headC (thnC (tailC (headC (dropC 9 l5))))).seq .ret) .skip)).seq (((headC (headC (dropC 10 l5))).seq (Code.cond (.tmp 81) ((headC (thnC (tailC (headC (dropC 10 l5))))).seq .ret) .skip)).seq (((headC (headC (dropC 11 l5))).seq (Code.cond (.tmp 82) lB .skip)).seq ((headC (dropC 12 l5)).seq .ret))))))) := by kernel_rfl
theorem lB_eq : lB = ((headC (headC lB)).seq (Code.cond (.tmp 89) ((headC (thnC (tailC (headC lB)))).seq .ret) .skip)).seq ((headC (dropC 1 lB)).seq (((headC (headC (dropC 2 lB))).seq (Code.cond (.tmp 102) ((headC (thnC (tailC (headC (dropC 2 lB))))).seq .ret) .skip)).seq ((headC (dropC 3 lB)).seq ((headC (dropC 4 lB)).seq .ret)))) := by kernel_rfl
theorem l5h_eq : l5 = (headC l5).seq (((headC (headC (dropC 1 l5))).seq (Code.cond (.tmp 14) ((headC (thnC (tailC (headC (dropC 1 l5))))).seq .ret) .skip)).seq ((headC (dropC 2 l5)).seq (((headC (headC (dropC 3 l5))).seq (Code.cond (.tmp 22) (thnC (tailC (headC (dropC 3 l5)))) .skip)).seq ((headC (dropC 4 l5)).seq (dropC 5 l5))))) := by kernel_rfl
theorem Res.raw {b off n c : Nat} {C : Nat → Nat} {zp : Option Addr} {ad : Value} {X0 : Nat} {pk : Array Value} {ok : Bool} {er : Value} (h : Res b off n c C zp (.iface 108 ad) X0 pk ok er) (hn : ¬ (n < 40 ∨ ¬ C 0 / 16 = 6)) :
    (pk = zpk ∧ ok = false ∧ er = .nilIface) ∨ (∃ t tn tc ad', pk = hdr C zp t tn tc 0 ∧ ok = false ∧ er = .iface 108 ad') ∨
    (∃ o, 40 ≤ o ∧ o ≤ n ∧ o ≤ pay C + 40 ∧ pk = hdr C zp (some ⟨b, off + sh c o, none⟩) (n - o) (c - o) ((pay C : Int) + 40 - (o : Int)) ∧ ok = true ∧ er = .nilIface) := by
  have tf : ∀ o, ∃ t tn tc, tcpk b off n c C zp o 0 = hdr C zp t tn tc 0 := fun o => by
    unfold tcpk
    split
    · exact ⟨_, _, _, rfl⟩
    · exact ⟨_, _, _, rfl⟩
  unfold Res at h
  rw [if_neg hn] at h
  split at h
  · exact Or.inl h
  · obtain ⟨h1, h2, bb, h3, _⟩ := h
    exact Or.inr (Or.inl ⟨_, _, _, _, h1, h2, h3⟩)
  · rename_i o fg hlp
    have ho := lp_ge _ _ _ _ _ _ hlp
    obtain ⟨t, tn, tc, ht⟩ := tf o
    split at h
    · obtain ⟨h1, h2, bb, h3, _⟩ := h
      exact Or.inr (Or.inl ⟨_, _, _, _, h1.trans ht, h2, h3⟩)
    · split at h
      · obtain ⟨h1, h2, h3⟩ := h
        exact Or.inr (Or.inl ⟨_, _, _, _, h1.trans ht, h2, h3⟩)
      · split at h
        · obtain ⟨h1, h2, bb, h3, _⟩ := h
          exact Or.inr (Or.inl ⟨_, _, _, _, h1.trans ht, h2, h3⟩)
        · obtain ⟨h1, h2, h3⟩ := h
          refine Or.inr (Or.inr ⟨o, ho, by omega, by omega, ?_, h2, h3⟩)
          rw [h1, tcpk, if_pos (by omega)]
set_option maxRecDepth 100000 in
set_option maxHeartbeats 1000000 in
theorem raw7 (F : Interp) (a5 : Option Addr) (gb n cap : Nat) (v2 : Value) (C : Nat → Nat) (zp : Option Addr) (ad : Value) (s : ByteArray) (B : Nat) (w wa : World) (hb : Below B w wa) (hBs : B ≤ wa.heap.size) (hF : F.answers wa.tape) (ha : 0 < n → a5 = some ⟨gb, 0, none⟩) (hn : n ≤ 4096) (hcap : n ≤ cap) (hC : ∀ k, k < n → wa.cell? ⟨gb, k, none⟩ = some (.int .u8 ((C k : Nat) : Int)) ∧ C k ≤ 255)
    (hg0 : wa.cell? ⟨0, 0, none⟩ = some (.iface 108 ad)) (hg3 : wa.cell? ⟨3, 0, none⟩ = some (.pointer zp)) (hs1 : ∀ x, Below wa.heap.size wa x → (convert 53 9 (.slice a5 n cap)).run Ybaf.prog x = .ok (.string s) x) (hs2 : ∀ x, Below wa.heap.size wa x → (convert 53 9 v2).run Ybaf.prog x = .ok (.string s) x) {x0 x1 x2 x3 x4 x7 x8 x9 x10 x11 x12 x13 x14 x15 x16 x17 x18 x19 x20 x21 x22 x23 x24 x25 x26 x27 x28 x29 x30 x31 x32 x33 x34 x35 x36 x37 x38 x39 x40 x41 x42 x43 x44 x45 x46 x47 x48 x49 x50 x51 x52 x53 x54 x55 x56 x57 x58 x59 x60 x61 x62 x63 x64 x65 x66 x67 x68 x69 x70 x71 x72 x73 x74 x75 x76 x77 x78 x79 x80 x81 x82 x83 x84 x85 x86 x87 x88 x89 x90 x91 x92 x93 x94 x95 x96 x97 x98 x99 x100 x101 x102 x103 x104 x105 x106 x107 x108 x109 x110 x111 x112 x113 x114 x115 x116 x117 x118 x119 x120 x121 x122 x123 x124 x125 x126 x127 : Value} :
    Code.wp Ybaf.prog (dropC 5 l5) (bodyPost Ybaf.prog Ybaf.f5 fun e w' => e = .returned (.bool true) ∧ Below B w w') { tmps := #[x0, x1, x2, x3, x4, .slice a5 n cap, v2, x7, x8, x9, x10, x11, x12, x13, x14, x15, x16, x17, x18, x19, x20, x21, x22, x23, x24, x25, x26, x27, x28, x29, x30, x31, x32, x33, x34, x35, x36, x37, x38, x39, x40, x41, x42, x43, x44, x45, x46, x47, x48, x49, x50, x51, x52, x53, x54, x55, x56, x57, x58, x59, x60, x61, x62, x63, x64, x65, x66, x67, x68, x69, x70, x71, x72, x73, x74, x75, x76, x77, x78, x79, x80, x81, x82, x83, x84, x85, x86, x87, x88, x89, x90, x91, x92, x93, x94, x95, x96, x97, x98, x99, x100, x101, x102, x103, x104, x105, x106, x107, x108, x109, x110, x111, x112, x113, x114, x115, x116, x117, x118, x119, x120, x121, x122, x123, x124, x125, x126, x127], defers := [] } wa := by
  rw [l5t_eq]
  refine wp_seq (wp_use (e7 F a5 gb 0 n cap C zp (.iface 108 ad) wa hF (fun h => ha (by omega)) (fun k hk => by rw [Nat.zero_add]; exact hC k hk) (by omega) hcap hg0 hg3 _ ?_))
  intro y32 y33 y34 y35 y36 y37 NP ok er pk wy hres bwy hNP hp
  have bW : Below B w wy := hb.trans (below_le bwy hBs)
  have lNP : NP < wy.heap.size := (Array.getElem?_eq_some_iff.1 hp).1
  refine wp_seq (wp_seq (wp_use (e8 (.slice a5 n cap) v2 s wy (hs1 wy bwy) (hs2 wy bwy) _ ?_)))
  intros
  refine wp_cond_false (by kernel_rfl) ?_
  refine wp_skip ?_
  have hCy : ∀ x, Below wa.heap.size wa x → ∀ k, k < n → x.cell? ⟨gb, k, none⟩ = some (.int .u8 ((C k : Nat) : Int)) ∧ C k ≤ 255 := fun x hx k hk => ⟨by rw [hx.cell (by exact World.block_lt_of_cell? wa _ (hC k hk).1)]; exact (hC k hk).1, (hC k hk).2⟩
  have hC0 : 40 ≤ n → wy.cell? ⟨gb, 0, none⟩ = some (.int .u8 (((if 0 < n then C 0 else 0) : Nat) : Int)) := fun h => by rw [if_pos (by omega)]; exact (hCy wy bwy 0 (by omega)).1
  refine wp_seq (wp_seq (wp_use (e10 a5 gb n cap (if 0 < n then C 0 else 0) wy (fun h => ha (by omega)) hC0 (by split; exact (hC 0 (by omega)).2; omega) _ ?_)))
  intros
  refine wp_cond (t := (decide (n < 40) || !((((if 0 < n then C 0 else 0) : Nat) : Int) / 16 == 6))) (by kernel_rfl) ?_
  by_cases hbad : n < 40 ∨ ¬ C 0 / 16 = 6
  · have e : (decide (n < 40) || !((((if 0 < n then C 0 else 0) : Nat) : Int) / 16 == 6)) = true := by
      by_cases h40 : n < 40
      · rw [decide_eq_true h40, Bool.true_or]
      · rw [if_pos (by omega), decide_eq_false h40, Bool.false_or]
        simp; omega
    rw [e, if_pos rfl]
    rw [Res, if_pos hbad] at hres
    obtain ⟨rfl, rfl, bb, rfl, _⟩ := hres
    refine wp_seq (wp_use (e11 _ NP wy hp _ ?_))
    intros
    rename_i wz bz
    refine wp_ret ?_; (try simp only [Exit.then]); exact bodyPost_ret_by (results_tmp rfl _ _ _) rfl ⟨rfl, bW.trans (below_le bz (by have := bwy.size; omega))⟩
  · have e : (decide (n < 40) || !((((if 0 < n then C 0 else 0) : Nat) : Int) / 16 == 6)) = false := by
      rw [if_pos (by omega), decide_eq_false (by omega), Bool.false_or]
      simp; omega
    rw [e, if_neg Bool.false_ne_true]
    refine wp_skip ?_
    have hsz : B ≤ wy.heap.size := by have := bwy.size; omega
    obtain rfl := ha (by omega)
    rcases hres.raw hbad with ⟨rfl, rfl, rfl⟩ | ⟨t, tn, tc, ad', rfl, rfl, rfl⟩ | ⟨o, o1, o2, o3, rfl, rfl, rfl⟩
    · refine wp_seq (wp_seq (wp_use (e12a _ wy _ ?_)))
      intros
      refine wp_cond_false (by kernel_rfl) ?_
      refine wp_skip ?_
      refine wp_seq (wp_seq (wp_use (e14b .nilIface wy _ ?_)))
      intros
      refine wp_cond_true (by kernel_rfl) ?_
      refine wp_seq (wp_use (e15 NP wy hp _ ?_))
      intros
      rename_i wz bz
      refine wp_ret ?_; (try simp only [Exit.then]); exact bodyPost_ret_by (results_tmp rfl _ _ _) rfl ⟨rfl, bW.trans (below_le bz hsz)⟩
    · refine wp_seq (wp_seq (wp_use (e12a _ wy _ ?_)))
      intros
      refine wp_cond_false (by kernel_rfl) ?_
      refine wp_skip ?_
      refine wp_seq (wp_seq (wp_use (e14c ad' wy _ ?_)))
      intros
      refine wp_cond_false (by kernel_rfl) ?_
      refine wp_skip ?_
      refine wp_seq (wp_seq (wp_use (e16 C zp t tn tc 0 gb n cap NP wy (by omega) hcap (hCy wy bwy) hp _ ?_)))
      intros
      rename_i wz bz
      refine wp_cond_false (by kernel_rfl) ?_
      refine wp_skip ?_
      refine wp_seq (wp_seq (wp_use (e18 false wz _ ?_)))
      refine wp_cond_false (by kernel_rfl) ?_
      refine wp_skip ?_
      have hpz : wz.heap[NP]? = some (.cells (hdr C zp t tn tc 0) 67 (0, 0)) := by rw [bz.block _ lNP]; exact hp
      refine wp_seq (wp_use (e26 _ _ _ _ _ _ _ _ _ _ NP wz hpz rfl _ ?_))
      intros
      refine wp_ret ?_; (try simp only [Exit.then]); exact bodyPost_ret_by (results_tmp rfl _ _ _) rfl ⟨rfl, bW.trans (below_le bz hsz)⟩
    · refine wp_seq (wp_seq (wp_use (e12b .nilIface wy _ ?_)))
      intros
      refine wp_cond_false (by kernel_rfl) ?_
      refine wp_skip ?_
      refine wp_seq (wp_seq (wp_use (e14a _ wy _ ?_)))
      intros
      refine wp_cond_false (by kernel_rfl) ?_
      refine wp_skip ?_
      refine wp_seq (wp_seq (wp_use (e16 C zp _ _ _ _ gb n cap NP wy (by omega) hcap (hCy wy bwy) hp _ ?_)))
      intros
      rename_i wz bz
      refine wp_cond_false (by kernel_rfl) ?_
      refine wp_skip ?_
      have hpz : wz.heap[NP]? = some (.cells (hdr C zp (some ⟨gb, 0 + sh cap o, none⟩) (n - o) (cap - o) ((pay C : Int) + 40 - (o : Int))) 67 (0, 0)) := by rw [bz.block _ lNP]; exact hp
      have bWz : Below wa.heap.size wa wz := bwy.trans (below_le bz bwy.size)
      refine wp_seq (wp_seq (wp_use (e18 true wz _ ?_)))
      refine wp_cond_true (by kernel_rfl) ?_
      rw [lB_eq]
      refine wp_seq (wp_seq (wp_use (e19 _ _ _ _ _ _ _ _ _ _ NP wz hpz _ n cap (by omega) hn _ ?_)))
      intros
      refine wp_cond_false (by kernel_rfl) ?_
      refine wp_skip ?_
      refine wp_seq (wp_use (e21 _ _ _ _ _ _ _ _ _ _ NP wz hpz _ n cap o (by omega) hn _ ?_))
      intros
      have hconv : (convert 53 9 (.slice (some ⟨gb, 0 + sh cap o, none⟩) (n - o) (cap - o))).run Ybaf.prog wz.drew = .ok (.string (strOfNums ((List.range (n - o)).map (fun k => ((C (o + k) : Nat) : Int))))) wz.drew := by
        refine run_convert_bytes_arg wz.drew 53 5 Ybaf.underlying53 Ybaf.underlying5 gb (0 + sh cap o) (n - o) (cap - o) _ (by simp) (fun i hi => ?_) 9 Ybaf.underlying9
        rw [sh, if_neg (by omega), show 0 + o + i = o + i from by omega]
        rw [show ((List.range (n - o)).map (fun k => ((C (o + k) : Nat) : Int))).getD i 0 = ((C (o + i) : Nat) : Int) from by simp [hi]]
        exact (hCy wz bWz (o + i) (by omega)).1
      refine wp_seq (wp_seq (wp_use (e22 _ _ _ _ _ _ _ _ _ _ NP wz hpz gb n cap o o2 hcap _ hconv hconv _ ?_)))
      intros
      refine wp_cond_false (by kernel_rfl) ?_
      refine wp_skip ?_
      refine wp_seq (wp_use (e24 gb n cap (C 4) (C 5) wz.drew (by omega) (hCy wz bWz 4 (by omega)).1 (hCy wz bWz 5 (by omega)).1 (hC 4 (by omega)).2 (hC 5 (by omega)).2 _ ?_))
      intros
      rename_i nq
      have hpay : pay C ≤ 65535 := by have := (hC 4 (by omega)).2; have := (hC 5 (by omega)).2; unfold pay; omega
      refine wp_seq (wp_use (e25 _ _ _ _ _ _ _ _ _ _ NP (wz.drew.drewN nq) hpz (pay C) o hpay (by omega) o1 rfl (by omega) _ ?_))
      intros
      have bf : Below B w wz := bW.trans (below_le bz hsz)
      refine wp_ret ?_; (try simp only [Exit.then]); exact bodyPost_ret_by (results_tmp rfl _ _ _) rfl ⟨rfl, ⟨bf.os, bf.tape, bf.output, bf.size, bf.block⟩⟩
end Go.Proofs.YbulkblsgFmt

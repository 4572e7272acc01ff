import Derived.Test.YbulkblsgFmtRaw3
namespace Go.Proofs.YbulkblsgFmt
open Go.RowKit Go.Extern.Stop Go.Stop Go.Extern
set_option linter.unusedVariables false
set_option linter.unusedSimpArgs false
/-- The bytes as a string, from a block that stays. -/
theorem conv_buf {wa x : World} {g n cap : Nat} {C : Nat → Nat} (h : Buf wa g n C) (hx : Below wa.heap.size wa x) : (convert 53 9 (.slice (some ⟨g, 0, none⟩) n cap)).run Ybaf.prog x = .ok (.string (strOfNums ((List.range n).map (fun k => ((C k : Nat) : Int))))) x := by
  refine run_convert_bytes_arg x 53 5 Ybaf.underlying53 Ybaf.underlying5 g 0 n cap _ (by simp) (fun i hi => ?_) 9 Ybaf.underlying9
  rw [Nat.zero_add, show ((List.range n).map (fun k => ((C k : Nat) : Int))).getD i 0 = ((C i : Nat) : Int) from by simp [hi], hx.cell (by exact h.lt)]
  exact h.cell hi
set_option maxRecDepth 100000 in
set_option maxHeartbeats 1000000 in
theorem raw_main (F : Interp) (a0 : Option Addr) (b off n c : Nat) (v6 : Bool) (G : Nat → Nat) (zp : Option Addr) (ad : Value) (w : World) (hF : F.answers w.tape) (ha : 0 < n → a0 = some ⟨b, off, none⟩) (hn : n ≤ 4096) (hG : ∀ k, k < n → w.cell? ⟨b, off + k, none⟩ = some (.int .u8 ((G k : Nat) : Int)) ∧ G k ≤ 255)
    (hg0 : w.cell? ⟨0, 0, none⟩ = some (.iface 108 ad)) (hg3 : w.cell? ⟨3, 0, none⟩ = some (.pointer zp)) :
    Calls Ybaf.prog 5 #[.slice a0 n c, .bool v6] w fun e w' => e = .returned (.bool true) ∧ Below w.heap.size w w' := by
  have l3 : 3 < w.heap.size := World.block_lt_of_cell? w _ hg3
  have hFx : ∀ x, Below w.heap.size w x → F.answers x.tape := fun x hx => by rw [hx.tape]; exact hF
  have hgx0 : ∀ x, Below w.heap.size w x → x.cell? ⟨0, 0, none⟩ = some (.iface 108 ad) := fun x hx => by rw [hx.cell (by show 0 < w.heap.size; omega)]; exact hg0
  have hgx3 : ∀ x, Below w.heap.size w x → x.cell? ⟨3, 0, none⟩ = some (.pointer zp) := fun x hx => by rw [hx.cell (by exact l3)]; exact hg3
  go_enter Ybaf.func5, Ybaf.ntmps5
  change Code.wp Ybaf.prog l5 _ _ _
  rw [l5h_eq]
  refine wp_seq (wp_use (e0 w _ ?_))
  refine wp_seq (wp_seq (wp_use (e1 a0 n c w hn _ ?_)))
  intros
  refine wp_cond_false (by kernel_rfl) ?_
  refine wp_skip ?_
  by_cases h0 : n = 0
  · subst h0
    refine wp_seq (wp_use (e3z a0 c w _ ?_))
    intros
    refine wp_seq (wp_seq (wp_use (e4 v6 none 0 0 w _ ?_)))
    intros
    refine wp_cond (t := (v6 && decide (0 < 0))) (by kernel_rfl) ?_
    rw [show (v6 && decide (0 < 0)) = false from by cases v6 <;> rfl, if_neg Bool.false_ne_true]
    refine wp_skip ?_
    refine wp_seq (wp_use (e6z w _ ?_))
    intros
    exact raw7 F none 0 0 0 (.slice none 0 0) (fun _ => 0) zp ad _ w.heap.size w w (Below.refl _ _) (Nat.le_refl _) hF (fun h => absurd h (by omega)) (by omega) (Nat.le_refl _) (fun k hk => absurd hk (by omega)) hg0 hg3 (fun x _ => run_convert_bytes_nil x 53 5 Ybaf.underlying53 Ybaf.underlying5 0 0 9 Ybaf.underlying9) (fun x _ => run_convert_bytes_nil x 53 5 Ybaf.underlying53 Ybaf.underlying5 0 0 9 Ybaf.underlying9)
  · obtain rfl := ha (by omega)
    refine wp_seq (wp_use (e3 b off n c G w (by omega) hn (fun k hk => (hG k hk).1) _ ?_))
    intros
    rename_i gb cap w1 hown b1
    obtain ⟨hbuf, hcap, hgb⟩ := Buf.of_own hown (by omega)
    have key : ∀ (C : Nat → Nat) (w2 : World), Buf w2 gb n C → (∀ k, k < n → C k ≤ 255) → Below w.heap.size w w2 → w.heap.size ≤ w2.heap.size → ∀ {t0 t1 t2 t3 t4 t6 t7 t8 t9 t10 t11 t12 t13 t14 t15 t16 t17 t18 t19 t20 t21 t22 t23 t24 t25 t26 t27 t28 t29 t30 t31 t32 t33 t34 t35 t36 t37 t38 t39 t40 t41 t42 t43 t44 t45 t46 t47 t48 t49 t50 t51 t52 t53 t54 t55 t56 t57 t58 t59 t60 t61 t62 t63 t64 t65 t66 t67 t68 t69 t70 t71 t72 t73 t74 t75 t76 t77 t78 t79 t80 t81 t82 t83 t84 t85 t86 t87 t88 t89 t90 t91 t92 t93 t94 t95 t96 t97 t98 t99 t100 t101 t102 t103 t104 t105 t106 t107 t108 t109 t110 t111 t112 t113 t114 t115 t116 t117 t118 t119 t120 t121 t122 t123 t124 t125 t126 t127 : Value},
        Code.wp Ybaf.prog ((headC (dropC 4 l5)).seq (dropC 5 l5)) (bodyPost Ybaf.prog Ybaf.f5 fun e w' => e = .returned (.bool true) ∧ Below w.heap.size w w') { tmps := #[t0, t1, t2, t3, t4, .slice (some ⟨gb, 0, none⟩) n cap, t6, t7, t8, t9, t10, t11, t12, t13, t14, t15, t16, t17, t18, t19, t20, t21, t22, t23, t24, t25, t26, t27, t28, t29, t30, t31, t32, t33, t34, t35, t36, t37, t38, t39, t40, t41, t42, t43, t44, t45, t46, t47, t48, t49, t50, t51, t52, t53, t54, t55, t56, t57, t58, t59, t60, t61, t62, t63, t64, t65, t66, t67, t68, t69, t70, t71, t72, t73, t74, t75, t76, t77, t78, t79, t80, t81, t82, t83, t84, t85, t86, t87, t88, t89, t90, t91, t92, t93, t94, t95, t96, t97, t98, t99, t100, t101, t102, t103, t104, t105, t106, t107, t108, t109, t110, t111, t112, t113, t114, t115, t116, t117, t118, t119, t120, t121, t122, t123, t124, t125, t126, t127], defers := [] } w2 := by
      intro C w2 hB hC b2 s2 t0 t1 t2 t3 t4 t6 t7 t8 t9 t10 t11 t12 t13 t14 t15 t16 t17 t18 t19 t20 t21 t22 t23 t24 t25 t26 t27 t28 t29 t30 t31 t32 t33 t34 t35 t36 t37 t38 t39 t40 t41 t42 t43 t44 t45 t46 t47 t48 t49 t50 t51 t52 t53 t54 t55 t56 t57 t58 t59 t60 t61 t62 t63 t64 t65 t66 t67 t68 t69 t70 t71 t72 t73 t74 t75 t76 t77 t78 t79 t80 t81 t82 t83 t84 t85 t86 t87 t88 t89 t90 t91 t92 t93 t94 t95 t96 t97 t98 t99 t100 t101 t102 t103 t104 t105 t106 t107 t108 t109 t110 t111 t112 t113 t114 t115 t116 t117 t118 t119 t120 t121 t122 t123 t124 t125 t126 t127
      refine wp_seq (wp_use (e6 gb 0 n cap C w2 (by omega) hn (fun k hk => by rw [Nat.zero_add]; exact hB.cell hk) _ ?_))
      intros
      rename_i gd capd w3 hown3 b3
      obtain ⟨hbufd, hcapd, hgd⟩ := Buf.of_own hown3 (by omega)
      have hB3 : Buf w3 gb n C := hB.of_block (b3.block _ hB.lt)
      exact raw7 F _ gb n cap _ C zp ad _ w.heap.size w w3 (b2.trans (below_le b3 s2)) (Nat.le_trans s2 b3.size) (hFx _ (b2.trans (below_le b3 s2))) (fun _ => rfl) hn hcap (fun k hk => ⟨hB3.cell hk, hC k hk⟩) (hgx0 _ (b2.trans (below_le b3 s2))) (hgx3 _ (b2.trans (below_le b3 s2))) (fun x hx => conv_buf hB3 hx) (fun x hx => conv_buf hbufd hx)
    refine wp_seq (wp_seq (wp_use (e4 v6 (some ⟨gb, 0, none⟩) n cap w1 _ ?_)))
    intros
    refine wp_cond (t := (v6 && decide (0 < n))) (by kernel_rfl) ?_
    rw [decide_eq_true (show 0 < n by omega), Bool.and_true]
    cases v6 with
    | false =>
      rw [if_neg Bool.false_ne_true]
      refine wp_skip ?_
      exact key G w1 hbuf (fun k hk => (hG k hk).2) b1 b1.size
    | true =>
      rw [if_pos rfl]
      refine wp_use (e5 gb n cap (G 0) w1 (by omega) (hbuf.cell (by omega)) hbuf.frozen (hG 0 (by omega)).2 _ ?_)
      intros
      have lo := bits_lo_u8 .or 96 ((G 0 : Int) % 16)
      have hi := bits_hi_u8 .or 96 ((G 0 : Int) % 16)
      have ev : (bits .or .u8 96 ((G 0 : Int) % 16)) = (((bits .or .u8 96 ((G 0 : Int) % 16)).toNat : Nat) : Int) := by omega
      rw [ev]
      exact key _ _ (hbuf.set (v := (bits .or .u8 96 ((G 0 : Int) % 16)).toNat) (by omega)) (fun k hk => by show (if k = 0 then _ else _) ≤ 255; split; omega; exact (hG k hk).2) (b1.setCell (by exact hgb) _) (by simp only [World.setCell, Array.size_modify]; exact b1.size)
set_option maxRecDepth 100000 in
set_option maxHeartbeats 1000000 in
theorem raw_long (a0 : Option Addr) (n c : Nat) (v : Value) (w : World) (h : 4096 < n) :
    Calls Ybaf.prog 5 #[.slice a0 n c, v] w fun e w' => e = .returned (.bool true) ∧ Below w.heap.size w w' := by
  have d0 : decide ((4096 : Int) < (n : Int)) = true := by simp; omega
  go_enter Ybaf.func5, Ybaf.ntmps5
  go_wp2
  go_ret
  exact ⟨rfl, Below.refl _ _⟩
end Go.Proofs.YbulkblsgFmt

import Derived.Test.YbulkblzuBuild
namespace Go.Proofs.Ybulkblzu
open Go.RowKit Go.Maps Go.WideMaps
set_option linter.unusedVariables false
set_option linter.unusedSimpArgs false
def kC (n : Nat) : Array Value := #[.int .u8 n, z8, z8, z8, z8, z8, z8, z8, z8, z8, z8, z8, z8, z8, z8, z8, z8, z8, z8, z8]
/-- share's body, its second half's if, its loop's round, the round's body. -/
noncomputable def sh5 : Code := Yba.f5.body.getD .skip
noncomputable def shT : Code := thnC (tailC (tailC (headC (dropC 2 sh5))))
noncomputable def shL : Code := lupC (blkC (tailC shT))
noncomputable def shX : Code := blkC (headC (tailC (tailC shL)))
theorem sh5_eq : sh5 = (headC sh5).seq ((headC (dropC 1 sh5)).seq (((headC (headC (dropC 2 sh5))).seq ((headC (tailC (headC (dropC 2 sh5)))).seq (Code.cond (.tmp 16) shT .skip))).seq ((headC (dropC 3 sh5)).seq .ret))) := by kernel_rfl
theorem shT_eq : shT = (headC shT).seq (Code.block 0 (.loop ((headC shL).seq ((Code.cond (.tmp 23) .skip (.exit 0)).seq ((Code.block 1 shX).seq (tailC (tailC (tailC shL)))))))) := by kernel_rfl
theorem shX_eq : shX = (headC shX).seq ((headC (tailC shX)).seq (Code.cond (.tmp 28) (thnC (tailC (tailC shX))) .skip)) := by kernel_rfl
theorem own_cell {w : World} {base : Nat} {e : TypeId} {size : Nat} {v : Value} {n : Nat} {xs : List Value} (h : w.ownsRow base e size v n xs) (hn : 0 < n) : ∃ g cap, v = .slice (some ⟨g, 0, none⟩) n cap ∧ base ≤ g ∧ g < w.heap.size ∧ ∀ k, k < xs.length → w.cell? ⟨g, k, none⟩ = xs[k]? := by
  obtain ⟨h1, h2 | ⟨g, cap, cur, hv, hb, hh, hc, hm, hs, ht⟩⟩ := h
  · omega
  · refine ⟨g, cap, hv, hb, (Array.getElem?_eq_some_iff.1 hh).1, fun k hk => ?_⟩
    rw [cell_of_row w g k cur e (0, 0) hh, ← ht, List.getElem?_take, if_pos (by omega)]
    simp
theorem bx28 (n : Nat) (w : World) : (Instr.box 28 (kA n)).run Yba.prog w = .ok (.pointer (some ⟨w.heap.size, 0, none⟩)) (w.alloc (.cells (kC n) 28)) := by kernel_rfl
theorem ld28 {n A : Nat} {w : World} (hA : w.heap[A]? = some (.cells (kC n) 28 (0, 0))) : (Instr.loadAt 28 (.pointer (some ⟨A, 0, none⟩))).run Yba.prog w = .ok (kA n) w := by
  simp only [Instr.loadAt, Instr.sureAddr, Sem.run_bind, Sem.run_pure, Result.andThen_ok, run_loadVar_row w A 28 28 _ (0, 0) _ hA Yba.underlying28 rfl (by kernel_rfl)]
  rfl
theorem fa55_8 (b : Nat) (w : World) : (Instr.fieldAt 55 (.pointer (some ⟨b, 0, none⟩)) 8).run Yba.prog w = .ok (.pointer (some ⟨b, 32, none⟩)) w := by kernel_rfl
theorem fa59_2 (b : Nat) (w : World) : (Instr.fieldAt 59 (.pointer (some ⟨b, 0, none⟩)) 2).run Yba.prog w = .ok (.pointer (some ⟨b, 21, none⟩)) w := fa59 b w
theorem fa62_1 (b : Nat) (w : World) : (Instr.fieldAt 62 (.pointer (some ⟨b, 0, none⟩)) 1).run Yba.prog w = .ok (.pointer (some ⟨b, 1, none⟩)) w := by kernel_rfl
theorem ld46 {v : Value} {b o : Nat} {w : World} (h : w.cell? ⟨b, o, none⟩ = some v) : (Instr.loadAt 46 (.pointer (some ⟨b, o, none⟩))).run Yba.prog w = .ok v w := by go_simp
theorem ld60 {v : Value} {b o : Nat} {w : World} (h : w.cell? ⟨b, o, none⟩ = some v) : (Instr.loadAt 60 (.pointer (some ⟨b, o, none⟩))).run Yba.prog w = .ok v w := by go_simp
theorem ex_look {o : Oper} {a : Act} {m x : Operand} {t : TypeId} {u v r : Value} {w : World} (ho : o.op = .lookup t m x false) (hm : a.eval m = u) (hx : a.eval x = v) (hrun : (Instr.lookup t u v false).run Yba.prog w = .ok r w) : (execOp a.eval o).run Yba.prog w = .ok (.value r) w := by
  simp [execOp, ho, hm, hx, hrun]
theorem bs33 (e : Ent) (w : World) : (Instr.buildSlice 25 1 #[(0, .agg (adC e).toArray)]).run Yba.prog w = .ok (.slice (some ⟨w.heap.size, 0, none⟩) 1 1) (w.alloc (.cells (adC e).toArray 33)) := by kernel_rfl
theorem ld62m {e : Ent} {p : Option Addr} {b o : Nat} {w : World} (h : w.rangeAt b o (enC e p)) : (Instr.loadAt 62 (.pointer (some ⟨b, o, none⟩))).run Yba.prog w = .ok (.agg (enC e p).toArray) w := run_loadAt_mid w b o 62 _ _ h Yba.underlying62 rfl (by kernel_rfl)
theorem ld33m {e : Ent} {b o : Nat} {w : World} (h : w.rangeAt b o (adC e)) : (Instr.loadAt 33 (.pointer (some ⟨b, o, none⟩))).run Yba.prog w = .ok (.agg (adC e).toArray) w := run_loadAt_mid w b o 33 _ _ h Yba.underlying33 rfl (by kernel_rfl)
theorem one33' (e : Ent) : ∀ u ∈ adC e, u.oneCell' = true := by
  intro u hu
  simp only [adC, List.mem_cons, List.not_mem_nil, or_false] at hu
  rcases hu with rfl | rfl | rfl | rfl | rfl | rfl | rfl | rfl | rfl | rfl | rfl | rfl | rfl | rfl | rfl | rfl | rfl | rfl | rfl | rfl | rfl | rfl <;> rfl
theorem lp {o : Oper} {a : Act} {x : Operand} {v : Value} {n : Nat} {w : World} {t : TypeId} (ho : o.op = .call { callee := .builtin .len, args := #[x], argTypes := #[t] }) (hx : a.eval x = v) (hrun : (Builtin.len_ #[t] o.type #[v]).run Yba.prog w = .ok (.int .i64 n) w) : (execOp a.eval o).run Yba.prog w = .ok (.value (.int .i64 n)) w := by
  simp [execOp, ho, hx, hrun, resolve, invoke, builtin]
theorem len57 (g : Option Addr) (n c : Nat) (ty : TypeId) (w : World) : (Builtin.len_ #[57] ty #[.slice g n c]).run Yba.prog w = .ok (.int .i64 n) w := by kernel_rfl

set_option maxRecDepth 100000 in
set_option maxHeartbeats 1000000 in
theorem s5r0 (n : Nat) (wa : World) {x0 x2 x3 x4 x5 x6 x7 x8 x9 x10 x11 x12 x13 x14 x15 x16 x17 x18 x19 x20 x21 x22 x23 x24 x25 x26 x27 x28 x29 x30 x31 x32 x33 x34 x35 : Value} (K : Act → World → Prop)
    (hK : K { tmps := #[x0, kA n, x2, .pointer (some ⟨wa.heap.size, 0, none⟩), .slice none 0 0, x5, x6, x7, x8, x9, x10, x11, x12, x13, x14, x15, x16, x17, x18, x19, x20, x21, x22, x23, x24, x25, x26, x27, x28, x29, x30, x31, x32, x33, x34, x35], defers := [] } (wa.alloc (.cells (kC n) 28))) :
    Code.wp Yba.prog (headC sh5) (only K) { tmps := #[x0, kA n, x2, x3, x4, x5, x6, x7, x8, x9, x10, x11, x12, x13, x14, x15, x16, x17, x18, x19, x20, x21, x22, x23, x24, x25, x26, x27, x28, x29, x30, x31, x32, x33, x34, x35], defers := [] } wa := by
  simp only [sh5, shL, shX, Yba.f5, Option.getD, dropC, headC, tailC, blkC, lupC, thnC, elsC]
  refine wp_region_lit ?_
  refine pl 3 rfl rfl (ex_box (x := .tmp 1) (t := 28) (by kernel_rfl) (by kernel_rfl) (bx28 n _)) ?_
  simp only [Act.put, List.setIfInBounds_toArray, List.set_cons_zero, List.set_cons_succ]
  refine plk 4 (.slice none 0 0) rfl rfl (by kernel_rfl) ?_
  simp only [Act.put, List.setIfInBounds_toArray, List.set_cons_zero, List.set_cons_succ]
  exact wpList_nil (hK )

set_option maxRecDepth 100000 in
set_option maxHeartbeats 1000000 in
theorem s5r1 (wa : World) {x0 x1 x2 x3 x4 x5 x6 x7 x8 x9 x10 x11 x12 x13 x14 x15 x16 x17 x18 x19 x20 x21 x22 x23 x24 x25 x26 x27 x28 x29 x30 x31 x32 x33 x34 x35 : Value} (K : Act → World → Prop)
    (hK : K { tmps := #[x0, x1, x2, x3, x4, .slice none 0 0, x6, x7, x8, x9, x10, x11, x12, x13, x14, x15, x16, x17, x18, x19, x20, x21, x22, x23, x24, x25, x26, x27, x28, x29, x30, x31, x32, x33, x34, x35], defers := [] } (wa)) :
    Code.wp Yba.prog (headC (dropC 1 sh5)) (only K) { tmps := #[x0, x1, x2, x3, x4, x5, x6, x7, x8, x9, x10, x11, x12, x13, x14, x15, x16, x17, x18, x19, x20, x21, x22, x23, x24, x25, x26, x27, x28, x29, x30, x31, x32, x33, x34, x35], defers := [] } wa := by
  simp only [sh5, shL, shX, Yba.f5, Option.getD, dropC, headC, tailC, blkC, lupC, thnC, elsC]
  refine wp_region_lit ?_
  refine plk 5 (.slice none 0 0) rfl rfl (by kernel_rfl) ?_
  simp only [Act.put, List.setIfInBounds_toArray, List.set_cons_zero, List.set_cons_succ]
  exact wpList_nil (hK )

set_option maxRecDepth 100000 in
set_option maxHeartbeats 1000000 in
theorem s5r2 (n T M A : Nat) (r : Value) (wa : World) (hT : wa.cell? ⟨T, 32, none⟩ = some (.map (some M))) (hA : wa.heap[A]? = some (.cells (kC n) 28 (0, 0))) (hl : (Instr.lookup 46 (.map (some M)) (kA n) false).run Yba.prog wa.drew = .ok r wa.drew) {x1 x2 x4 x5 x6 x7 x8 x9 x10 x11 x12 x13 x14 x15 x16 x17 x18 x19 x20 x21 x22 x23 x24 x25 x26 x27 x28 x29 x30 x31 x32 x33 x34 x35 : Value} (K : Act → World → Prop)
    (hK : ∀ (y9 y10 y11 y12 y13 y14 : Value), K { tmps := #[.pointer (some ⟨T, 0, none⟩), x1, x2, .pointer (some ⟨A, 0, none⟩), x4, x5, r, x7, x8, y9, y10, y11, y12, y13, y14, x15, x16, x17, x18, x19, x20, x21, x22, x23, x24, x25, x26, x27, x28, x29, x30, x31, x32, x33, x34, x35], defers := [] } (wa.drew)) :
    Code.wp Yba.prog (headC (headC (dropC 2 sh5))) (only K) { tmps := #[.pointer (some ⟨T, 0, none⟩), x1, x2, .pointer (some ⟨A, 0, none⟩), x4, x5, x6, x7, x8, x9, x10, x11, x12, x13, x14, x15, x16, x17, x18, x19, x20, x21, x22, x23, x24, x25, x26, x27, x28, x29, x30, x31, x32, x33, x34, x35], defers := [] } wa := by
  simp only [sh5, shL, shX, Yba.f5, Option.getD, dropC, headC, tailC, blkC, lupC, thnC, elsC]
  refine wp_region_any (by kernel_rfl) ?_
  change wpAny _ _ _ _ _ _ _ (World.drew _)
  refine anyT 9 (i := 0) (v := .pointer (some ⟨T, 0, none⟩)) rfl (by kernel_rfl) (by kernel_rfl) (by kernel_rfl) (fun _ _ _ h => h) (by kernel_rfl) (by kernel_rfl) (fun w => ex_move (x := .tmp 0) (v := .pointer (some ⟨T, 0, none⟩)) (by kernel_rfl) (by kernel_rfl) w) ?_
  simp only [Act.put, List.setIfInBounds_toArray, List.set_cons_zero, List.set_cons_succ]
  refine anyT 10 (i := 1) (v := .pointer (some ⟨T, 0, none⟩)) rfl (by kernel_rfl) (by kernel_rfl) (by kernel_rfl) (fun _ _ _ h => h) (by kernel_rfl) (by kernel_rfl) (fun w => ex_nil (x := .tmp 9) (by kernel_rfl) (by kernel_rfl) w) ?_
  simp only [Act.put, List.setIfInBounds_toArray, List.set_cons_zero, List.set_cons_succ]
  refine anyT 11 (i := 2) (v := .pointer (some ⟨T, 32, none⟩)) rfl (by kernel_rfl) (by kernel_rfl) (by kernel_rfl) (fun _ _ _ h => h) (by kernel_rfl) (by kernel_rfl) (fun w => ex_field (x := .tmp 10) (i := 8) (t := 55) (by kernel_rfl) (by kernel_rfl) (fa55_8 T w)) ?_
  simp only [Act.put, List.setIfInBounds_toArray, List.set_cons_zero, List.set_cons_succ]
  refine any2 12 13 (i := 3) (j := 4) (by kernel_rfl) rfl rfl (by kernel_rfl) (by kernel_rfl) (by kernel_rfl) (by kernel_rfl) (ex_load (x := .tmp 11) (t := 46) (by kernel_rfl) (by kernel_rfl) (ld46 hT)) (ex_load (x := .tmp 3) (t := 28) (by kernel_rfl) (by kernel_rfl) (ld28 hA)) ?_ ?_
  · skip
    simp only [Act.put, List.setIfInBounds_toArray, List.set_cons_zero, List.set_cons_succ]
    refine any1 13 (i := 4) (by kernel_rfl) rfl (by kernel_rfl) (by kernel_rfl) (ex_load (x := .tmp 3) (t := 28) (by kernel_rfl) (by kernel_rfl) (ld28 hA)) ?_
    simp only [Act.put, List.setIfInBounds_toArray, List.set_cons_zero, List.set_cons_succ]
    refine any1 14 (i := 5) (by kernel_rfl) rfl (by kernel_rfl) (by kernel_rfl) (ex_look (m := .tmp 12) (x := .tmp 13) (t := 46) (by kernel_rfl) (by kernel_rfl) (by kernel_rfl) hl) ?_
    simp only [Act.put, List.setIfInBounds_toArray, List.set_cons_zero, List.set_cons_succ]
    refine any1k 6 (r) (i := 6) (by kernel_rfl) rfl (by kernel_rfl) (by kernel_rfl) (by kernel_rfl) ?_
    simp only [Act.put, List.setIfInBounds_toArray, List.set_cons_zero, List.set_cons_succ]
    exact wpAny_done (by kernel_rfl) (hK _ _ _ _ _ _ ) _
  · skip
    simp only [Act.put, List.setIfInBounds_toArray, List.set_cons_zero, List.set_cons_succ]
    refine any1 12 (i := 3) (by kernel_rfl) rfl (by kernel_rfl) (by kernel_rfl) (ex_load (x := .tmp 11) (t := 46) (by kernel_rfl) (by kernel_rfl) (ld46 hT)) ?_
    simp only [Act.put, List.setIfInBounds_toArray, List.set_cons_zero, List.set_cons_succ]
    refine any1 14 (i := 5) (by kernel_rfl) rfl (by kernel_rfl) (by kernel_rfl) (ex_look (m := .tmp 12) (x := .tmp 13) (t := 46) (by kernel_rfl) (by kernel_rfl) (by kernel_rfl) hl) ?_
    simp only [Act.put, List.setIfInBounds_toArray, List.set_cons_zero, List.set_cons_succ]
    refine any1k 6 (r) (i := 6) (by kernel_rfl) rfl (by kernel_rfl) (by kernel_rfl) (by kernel_rfl) ?_
    simp only [Act.put, List.setIfInBounds_toArray, List.set_cons_zero, List.set_cons_succ]
    exact wpAny_done (by kernel_rfl) (hK _ _ _ _ _ _ ) _

set_option maxRecDepth 100000 in
set_option maxHeartbeats 1000000 in
theorem s5r3 (p : Option Addr) (wa : World) {x0 x1 x2 x3 x4 x5 x7 x8 x9 x10 x11 x12 x13 x14 x15 x16 x17 x18 x19 x20 x21 x22 x23 x24 x25 x26 x27 x28 x29 x30 x31 x32 x33 x34 x35 : Value} (K : Act → World → Prop)
    (hK : ∀ (y15 : Value), K { tmps := #[x0, x1, x2, x3, x4, x5, .pointer p, x7, x8, x9, x10, x11, x12, x13, x14, y15, .bool p.isSome, x17, x18, x19, x20, x21, x22, x23, x24, x25, x26, x27, x28, x29, x30, x31, x32, x33, x34, x35], defers := [] } (wa)) :
    Code.wp Yba.prog (headC (tailC (headC (dropC 2 sh5)))) (only K) { tmps := #[x0, x1, x2, x3, x4, x5, .pointer p, x7, x8, x9, x10, x11, x12, x13, x14, x15, x16, x17, x18, x19, x20, x21, x22, x23, x24, x25, x26, x27, x28, x29, x30, x31, x32, x33, x34, x35], defers := [] } wa := by
  cases p with
  | none =>
    simp only [sh5, shL, shX, Yba.f5, Option.getD, dropC, headC, tailC, blkC, lupC, thnC, elsC]
    refine wp_region_lit ?_
    refine plk 15 (.pointer none) rfl rfl (by kernel_rfl) ?_
    simp only [Act.put, List.setIfInBounds_toArray, List.set_cons_zero, List.set_cons_succ]
    refine plk 16 (.bool false) rfl rfl (by kernel_rfl) ?_
    simp only [Act.put, List.setIfInBounds_toArray, List.set_cons_zero, List.set_cons_succ]
    exact wpList_nil (hK _ )
  | some q =>
    simp only [sh5, shL, shX, Yba.f5, Option.getD, dropC, headC, tailC, blkC, lupC, thnC, elsC]
    refine wp_region_lit ?_
    refine plk 15 (.pointer (some q)) rfl rfl (by kernel_rfl) ?_
    simp only [Act.put, List.setIfInBounds_toArray, List.set_cons_zero, List.set_cons_succ]
    refine plk 16 (.bool true) rfl rfl (by kernel_rfl) ?_
    simp only [Act.put, List.setIfInBounds_toArray, List.set_cons_zero, List.set_cons_succ]
    exact wpList_nil (hK _ )
end Go.Proofs.Ybulkblzu

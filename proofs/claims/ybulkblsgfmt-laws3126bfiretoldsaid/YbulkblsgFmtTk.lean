import Derived.Test.YbulkblsgFmtTh
namespace Go.Proofs.YbulkblsgFmt
open Go.RowKit
set_option linter.unusedVariables false
set_option linter.unusedSimpArgs false
def a42 (g : Int) (C n : Nat) : Array Value := ((List.range 722).map (dv g 0 C n (fun _ => 0) (fun _ => 0) (.slice none 0 0) (.slice none 0 0))).toArray
theorem bd42 {w : World} {g : Int} {C n : Nat} : (Instr.build 42 #[(0, .int .i64 g), (3, .slice (some ⟨C, 0, none⟩) n n)]).run Ybaf.prog w = .ok (.agg (a42 g C n)) w := by kernel_rfl
theorem bx42 {w : World} {g : Int} {C n : Nat} : (Instr.box 42 (.agg (a42 g C n))).run Ybaf.prog w = .ok (.pointer (some ⟨w.heap.size, 0, none⟩)) (w.alloc (.cells (a42 g C n) 42)) := by kernel_rfl
theorem a42_row (w : World) (g : Int) (C n : Nat) : (w.alloc (.cells (a42 g C n) 42)).rowIs w.heap.size 42 722 (dv g 0 C n (fun _ => 0) (fun _ => 0) (.slice none 0 0) (.slice none 0 0)) := by
  have hs : (a42 g C n).size = 722 := by simp [a42]
  have := World.rowIs_alloc w (a42 g C n) 42 (dv g 0 C n (fun _ => 0) (fun _ => 0) (.slice none 0 0) (.slice none 0 0)) (fun i hi => by
    rw [hs] at hi
    simp [a42, hi])
  rwa [hs] at this
unseal AN in
theorem a_2w {M : Nat} {c : Code} {Q : Exit → Act → World → Prop} {f : Nat → Value} {w w1 w2 : World} {fuel : Nat} {listed : Array Bool} (i d j e : Nat) (op op2 : Op) {v u : Value} (hk : key (opAt c i) = (none, some d, op)) (hk2 : key (opAt c j) = (none, some e, op2)) (hr : Region.ready .any (opsC c) listed = [i, j]) (hrun : ∀ o : Oper, o.op = op → (execOp (Fm M f).eval o).run Ybaf.prog w = .ok (.value v) w1) (hrun2 : ∀ o : Oper, o.op = op2 → (execOp (Fm M f).eval o).run Ybaf.prog w = .ok (.value u) w2)
    (h : AN M c Q fuel (listed.setIfInBounds i true) (upd f d v) w1) (h2 : AN M c Q fuel (listed.setIfInBounds j true) (upd f e u) w2) : AN M c Q (fuel + 1) listed f w := by
  have hg : (opAt c i).guard = none := congrArg (·.1) hk
  have hd : (opAt c i).dst = some d := congrArg (·.2.1) hk
  have ho : (opAt c i).op = op := congrArg (·.2.2) hk
  have hg2 : (opAt c j).guard = none := congrArg (·.1) hk2
  have hd2 : (opAt c j).dst = some e := congrArg (·.2.1) hk2
  have ho2 : (opAt c j).op = op2 := congrArg (·.2.2) hk2
  unfold AN at h h2 ⊢
  refine any2 d e hr (at_of_key hk (Or.inl rfl)) (at_of_key hk2 (Or.inl rfl)) (by simp [Region.wanted, hg]) (by simp [Region.wanted, hg2]) hd hd2 (hrun _ ho) (hrun2 _ ho2) ?_ ?_
  · rw [Fm_put]; exact h
  · rw [Fm_put]; exact h2
def z44 : Array Value := #[.int .i64 0, .int .i32 0, .int .i32 0]
theorem info44 : (Ybaf.prog.info? 44).map (fun i => (i.zero, i.size, i.bytes)) = some (some (.agg z44), 3, 16) := by kernel_rfl
theorem mk36 {w : World} {n : Nat} (h : n ≤ 100000) : (Instr.makeSlice 36 (.int .i64 ((n : Nat) : Int)) (.int .i64 ((n : Nat) : Int))).run Ybaf.prog w = .ok (.slice (some ⟨w.heap.size, 0, none⟩) n n) (w.alloc (.cells (madeCells z44 (n * 3)) 44)) := by
  obtain ⟨i, hi, hz, hs, hb⟩ := iparts info44
  have hr := run_make (P := Ybaf.prog) w 36 44 i (.agg z44) Ybaf.underlying36 hi hz .i64 .i64 n n (by omega) (Int.le_refl _) (by rw [hb]; omega) (by omega)
  simp only [Int.toNat_natCast, hs] at hr
  exact hr
theorem z44_row (w : World) (n : Nat) : (w.alloc (.cells (madeCells z44 (n * 3)) 44)).rowIs w.heap.size 44 (n * 3) (cv (fun _ => 0) (fun _ => 0) (fun _ => 0)) := by
  have hs : (madeCells z44 (n * 3)).size = n * 3 := size_madeCells _ _
  have := World.rowIs_alloc w (madeCells z44 (n * 3)) 44 (cv (fun _ => 0) (fun _ => 0) (fun _ => 0)) (fun i hi => by
    rw [hs] at hi
    have e : z44.size = 3 := rfl
    simp only [madeCells, Array.getElem?_map, Array.getElem?_range, hi, if_true, Option.map_some, e]
    unfold cv
    have h3 : i % 3 = 0 ∨ i % 3 = 1 ∨ i % 3 = 2 := by omega
    rcases h3 with h | h | h <;> rw [h] <;> rfl)
  rwa [hs] at this
theorem bx34 {w : World} {g : Nat} : (Instr.box 34 (.agg (opt g))).run Ybaf.prog w = .ok (.pointer (some ⟨w.heap.size, 0, none⟩)) (w.alloc (.cells (opt g) 34)) := by kernel_rfl
theorem ld34 {w : World} {b g : Nat} (h : ∀ k v, (opt g)[k]? = some v → w.cell? ⟨b, k, none⟩ = some v) : (Instr.loadAt 34 (.pointer (some ⟨b, 0, none⟩))).run Ybaf.prog w = .ok (.agg (opt g)) w := by
  have h0 : w.cell? ⟨b, 0, none⟩ = some (.int .i64 1000000000) := h 0 _ rfl
  have h1 : w.cell? ⟨b, 1, none⟩ = some (.int .i64 0) := h 1 _ rfl
  have h2 : w.cell? ⟨b, 2, none⟩ = some (.int .i64 1000000000) := h 2 _ rfl
  have h3 : w.cell? ⟨b, 3, none⟩ = some (.int .i64 ((g : Nat) : Int)) := h 3 _ rfl
  have h4 : w.cell? ⟨b, 4, none⟩ = some (.bool false) := h 4 _ rfl
  have h5 : w.cell? ⟨b, 5, none⟩ = some (.bool false) := h 5 _ rfl
  clear h
  unfold opt
  go_simp
theorem ex_bx {P : Program} {a : Act} {w w' : World} {x : Operand} {t : TypeId} {u v : Value} (hx : a.eval x = u) (hr : (Instr.box t u).run P w = .ok v w') : ∀ o : Oper, o.op = .box t x → (execOp a.eval o).run P w = .ok (.value v) w' := fun o ho => ex_box ho hx hr
theorem ex_bd2' {P : Program} {a : Act} {w w' : World} {x y : Operand} {t : TypeId} {u0 u1 v : Value} (hx : a.eval x = u0) (hy : a.eval y = u1) (hr : (Instr.build t #[(0, u0), (3, u1)]).run P w = .ok v w') : ∀ o : Oper, o.op = .build t #[(0, x), (3, y)] → (execOp a.eval o).run P w = .ok (.value v) w' := fun o ho => by simp [execOp, ho, hx, hy, hr]
theorem neqE {x : Operand} {w : World} : (do eqGuard .neq 30 x (.const .nilIface) .nilIface .nilIface; binOp .neq 30 .nilIface .nilIface : Sem Value).run Ybaf.prog w = .ok (.bool false) w := by go_simp
theorem checkR {g : Nat} {w : World} (hg : 1 ≤ g) (hg2 : g ≤ 1000) : CallR 19 #[.agg (opt g)] w fun v w' => v = .nilIface ∧ w' = (w.alloc (.cells (opt g) 34)).alloc (.cells (opt g) 34) := (check_any g hg hg2 w).mono fun _ _ ⟨h1, h2⟩ => ⟨_, h1, rfl, h2⟩
noncomputable def l6 : Code := Ybaf.f6.body.getD .skip
noncomputable def p6a : Code := lupC (blkC (tailC (headC (dropC 5 l6))))
noncomputable def p6b : Code := lupC (blkC (tailC (headC (dropC 6 l6))))
theorem l6_eq : l6 = (headC l6).seq ((headC (dropC 1 l6)).seq (((headC (headC (dropC 2 l6))).seq (Code.cond (.tmp 13) (thnC (tailC (headC (dropC 2 l6)))) .skip)).seq (((headC (headC (dropC 3 l6))).seq (Code.cond (.tmp 20) (thnC (tailC (headC (dropC 3 l6)))) .skip)).seq ((headC (dropC 4 l6)).seq (((headC (headC (dropC 5 l6))).seq (Code.block 0 (.loop p6a))).seq (((headC (headC (dropC 6 l6))).seq (Code.block 2 (.loop p6b))).seq ((headC (dropC 7 l6)).seq .ret))))))) := by kernel_rfl
theorem p6a_eq : p6a = (headC p6a).seq ((Code.cond (.tmp 38) .skip (.exit 0)).seq ((Code.block 1 ((headC (blkC (headC (dropC 2 p6a)))).seq (tailC (blkC (headC (dropC 2 p6a)))))).seq (dropC 3 p6a))) := by kernel_rfl
theorem p6b_eq : p6b = (headC p6b).seq ((Code.cond (.tmp 49) .skip (.exit 2)).seq ((Code.block 3 ((headC (blkC (headC (dropC 2 p6b)))).seq (tailC (blkC (headC (dropC 2 p6b)))))).seq (dropC 3 p6b))) := by kernel_rfl
set_option maxRecDepth 100000 in
set_option maxHeartbeats 400000 in
theorem n0 (g : Nat) (wa : World) (f : Nat → Value) (h0 : f 0 = .agg (opt g)) (K : Act → World → Prop)
    (hK : ∀ (f' : Nat → Value), Same f f' [5, 4, 2] → f' 2 = .pointer (some ⟨wa.heap.size, 0, none⟩) → f' 4 = .pointer none → f' 5 = .nilIface → K (Fm 58 f') (wa.alloc (.cells (opt g) 34))) :
    Code.wp Ybaf.prog (headC l6) (only K) (Fm 58 f) wa := by
  refine regN (by kernel_rfl) ?_
  refine s_ex 0 2 (.box 34 (.tmp 0)) (v := .pointer (some ⟨wa.heap.size, 0, none⟩)) (by kernel_rfl) (ex_bx (u := .agg (opt g)) (evN rfl h0) (bx34)) ?_
  refine s_ex 1 4 (.assign (.const (.pointer none))) (v := .pointer none) (by kernel_rfl) (ex_as rfl) ?_
  refine s_ex 2 5 (.assign (.const (.nilIface))) (v := .nilIface) (by kernel_rfl) (ex_as rfl) ?_
  exact s_end (by kernel_rfl) (hK _  (((Same.refl.put 2 _).put 4 _).put 5 _) rfl rfl rfl)
set_option maxRecDepth 100000 in
set_option maxHeartbeats 400000 in
theorem n1 (B g : Nat) (wa : World) (hg : 1 ≤ g) (hg2 : g ≤ 1000) (hb : ∀ k v, (opt g)[k]? = some v → wa.cell? ⟨B, k, none⟩ = some v) (f : Nat → Value) (h2 : f 2 = .pointer (some ⟨B, 0, none⟩)) (K : Act → World → Prop)
    (hK : ∀ (f' : Nat → Value), Same f f' [6, 11, 10] → f' 6 = .nilIface → K (Fm 58 f') ((wa.alloc (.cells (opt g) 34)).alloc (.cells (opt g) 34))) :
    Code.wp Ybaf.prog (headC (dropC 1 l6)) (only K) (Fm 58 f) wa := by
  refine regN (by kernel_rfl) ?_
  refine s_ex 0 10 (.load 34 (.tmp 2)) (v := .agg (opt g)) (by kernel_rfl) (ex_ld (u := .pointer (some ⟨B, 0, none⟩)) (evN rfl h2) (ld34 hb)) ?_
  refine s_call 1 11 (.call { callee := .value (.func 19), args := #[(.tmp 10)], argTypes := #[34] }) (fn := 19) (args := #[.agg (opt g)]) (by kernel_rfl) (ex_fn1 (cf19 _) (evN rfl rfl)) (checkR hg hg2) ?_
  rintro _ _ ⟨rfl, rfl⟩
  refine s_ex 2 6 (.assign (.tmp 11)) (v := .nilIface) (by kernel_rfl) (ex_as (evN rfl rfl)) ?_
  exact s_end (by kernel_rfl) (hK _  (((Same.refl.put 10 _).put 11 _).put 6 _) rfl)
set_option maxRecDepth 100000 in
set_option maxHeartbeats 400000 in
theorem n2 (wa : World) (f : Nat → Value) (h6 : f 6 = .nilIface) (K : Act → World → Prop)
    (hK : ∀ (f' : Nat → Value), Same f f' [13, 12] → f' 13 = .bool false → K (Fm 58 f') (wa)) :
    Code.wp Ybaf.prog (headC (headC (dropC 2 l6))) (only K) (Fm 58 f) wa := by
  refine regN (by kernel_rfl) ?_
  refine s_ex 0 12 (.move (.tmp 6)) (v := .nilIface) (by kernel_rfl) (ex_mv (evN rfl h6)) ?_
  refine s_ex 1 13 (.binOp .neq 30 (.tmp 12) (.const (.nilIface)) 30) (v := .bool false) (by kernel_rfl) (ex_bn (u := .nilIface) (u' := .nilIface) (evN rfl rfl) rfl (neqE)) ?_
  exact s_end (by kernel_rfl) (hK _  ((Same.refl.put 12 _).put 13 _) rfl)
set_option maxRecDepth 100000 in
set_option maxHeartbeats 400000 in
theorem n4 (n : Nat) (wa : World) (hn : n ≤ 300) (f : Nat → Value) (h1 : f 1 = .int .i64 ((n : Nat) : Int)) (K : Act → World → Prop)
    (hK : ∀ (f' : Nat → Value), Same f f' [20, 19, 18, 17, 16, 15] → f' 20 = .bool false → K (Fm 58 f') (wa)) :
    Code.wp Ybaf.prog (headC (headC (dropC 3 l6))) (only K) (Fm 58 f) wa := by
  refine regN (by kernel_rfl) ?_
  refine s_ex 0 15 (.move (.tmp 1)) (v := .int .i64 ((n : Nat) : Int)) (by kernel_rfl) (ex_mv (evN rfl h1)) ?_
  refine s_ex 1 16 (.binOp .lss 3 (.tmp 15) (.const (.int .i64 0)) 3) (v := .bool false) (by kernel_rfl) (ex_bn (u := .int .i64 ((n : Nat) : Int)) (u' := .int .i64 0) (evN rfl rfl) rfl (lssI (decide_eq_false (by omega)))) ?_
  refine s_ex 2 17 (.move (.tmp 16)) (v := .bool false) (by kernel_rfl) (ex_mv (evN rfl rfl)) ?_
  refine s_g 3 18 2 17 false (.move (.tmp 1)) (v := .int .i64 ((n : Nat) : Int)) (by kernel_rfl) (by kernel_rfl) (by rfl) (by rfl) (ex_mv (evN rfl h1)) ?_
  refine s_g 4 19 2 17 false (.binOp .gtr 3 (.tmp 18) (.const (.int .i64 2147483647)) 3) (v := .bool false) (by kernel_rfl) (by kernel_rfl) (by rfl) (by rfl) (ex_bn (u := .int .i64 ((n : Nat) : Int)) (u' := .int .i64 2147483647) (evN rfl rfl) rfl (gtrI (decide_eq_false (by omega)))) ?_
  refine s_ex 5 20 (.pick (.tmp 17) (.const (.bool true)) (.tmp 19)) (v := .bool false) (by kernel_rfl) (ex_pickf (evN rfl rfl) (evN rfl rfl)) ?_
  exact s_end (by kernel_rfl) (hK _  ((((((Same.refl.put 15 _).put 16 _).put 17 _).put 18 _).put 19 _).put 20 _) rfl)
theorem bx42' {w : World} {g : Int} {n : Nat} : (Instr.box 42 (.agg (a42 g w.heap.size n))).run Ybaf.prog (w.alloc (.cells (madeCells z44 (n * 3)) 44)) = .ok (.pointer (some ⟨w.heap.size + 1, 0, none⟩)) ((w.alloc (.cells (madeCells z44 (n * 3)) 44)).alloc (.cells (a42 g w.heap.size n) 42)) := by
  have e := bx42 (w := w.alloc (.cells (madeCells z44 (n * 3)) 44)) (g := g) (C := w.heap.size) (n := n)
  rw [e, show (w.alloc (.cells (madeCells z44 (n * 3)) 44)).heap.size = w.heap.size + 1 from by show (w.heap.push _).size = _; rw [Array.size_push]]
set_option maxRecDepth 100000 in
set_option maxHeartbeats 400000 in
theorem n6 (B g n : Nat) (wa : World) (hn : n ≤ 300) (hb : wa.cell? ⟨B, 3, none⟩ = some (.int .i64 ((g : Nat) : Int))) (hB : B < wa.heap.size) (f : Nat → Value) (h1 : f 1 = .int .i64 ((n : Nat) : Int)) (h2 : f 2 = .pointer (some ⟨B, 0, none⟩)) (K : Act → World → Prop)
    (hK : ∀ (f' : Nat → Value), Same f f' [7, 31, 30, 29, 27, 28, 26] → f' 7 = .pointer (some ⟨wa.heap.size + 1, 0, none⟩) → K (Fm 58 f') ((wa.drew.alloc (.cells (madeCells z44 (n * 3)) 44)).alloc (.cells (a42 ((g : Nat) : Int) wa.heap.size n) 42))) :
    Code.wp Ybaf.prog (headC (dropC 4 l6)) (only K) (Fm 58 f) wa := by
  refine anyN 7 (by kernel_rfl) (by kernel_rfl) ?_
  refine a_take 0 26 (.fieldAddr 34 (.tmp 2) 3) (v := .pointer (some ⟨B, 3, none⟩)) (by kernel_rfl) (by kernel_rfl) (by kernel_rfl) (by kernel_rfl) (fun _ _ _ h => h) (fun _ => (ex_fa (u := .pointer (some ⟨B, 0, none⟩)) (evN rfl h2) (fa34_3))) ?_
  refine a_take 2 28 (.move (.tmp 1)) (v := .int .i64 ((n : Nat) : Int)) (by kernel_rfl) (by kernel_rfl) (by kernel_rfl) (by kernel_rfl) (fun _ _ _ h => h) (fun _ => (ex_mv (evN rfl h1))) ?_
  refine a_2w 1 27 3 29 (.load 27 (.tmp 26)) (.makeSlice 36 (.tmp 28) (.tmp 28)) (v := .int .i64 ((g : Nat) : Int)) (u := .slice (some ⟨wa.heap.size, 0, none⟩) n n) (by kernel_rfl) (by kernel_rfl) (by kernel_rfl) (ex_ld (u := .pointer (some ⟨B, 3, none⟩)) (evN rfl rfl) (ld27 (w := wa.drew) (by first | exact hb | (rw [World.cell?_alloc_lt _ _ _ hB]; exact hb)))) (ex_mk (u := .int .i64 ((n : Nat) : Int)) (u' := .int .i64 ((n : Nat) : Int)) (evN rfl rfl) (evN rfl rfl) (mk36 (w := wa.drew) (by omega))) ?_ ?_
  · refine a_1 3 29 (.makeSlice 36 (.tmp 28) (.tmp 28)) (v := .slice (some ⟨wa.heap.size, 0, none⟩) n n) (by kernel_rfl) (by kernel_rfl) (ex_mk (u := .int .i64 ((n : Nat) : Int)) (u' := .int .i64 ((n : Nat) : Int)) (evN rfl rfl) (evN rfl rfl) (mk36 (w := wa.drew) (by omega))) ?_
    refine a_take 4 30 (.build 42 #[(0, (.tmp 27)), (3, (.tmp 29))]) (v := .agg (a42 ((g : Nat) : Int) wa.heap.size n)) (by kernel_rfl) (by kernel_rfl) (by kernel_rfl) (by kernel_rfl) (fun _ _ _ h => h) (fun _ => (ex_bd2' (u0 := .int .i64 ((g : Nat) : Int)) (u1 := .slice (some ⟨wa.heap.size, 0, none⟩) n n) (evN rfl rfl) (evN rfl rfl) (bd42))) ?_
    refine a_1 5 31 (.box 42 (.tmp 30)) (v := .pointer (some ⟨wa.heap.size + 1, 0, none⟩)) (by kernel_rfl) (by kernel_rfl) (ex_bx (u := .agg (a42 ((g : Nat) : Int) wa.heap.size n)) (evN rfl rfl) (bx42' (w := wa.drew))) ?_
    refine a_take 6 7 (.assign (.tmp 31)) (v := .pointer (some ⟨wa.heap.size + 1, 0, none⟩)) (by kernel_rfl) (by kernel_rfl) (by kernel_rfl) (by kernel_rfl) (fun _ _ _ h => h) (fun _ => (ex_as (evN rfl rfl))) ?_
    exact a_end (by kernel_rfl) (hK _  (((((((((Same.refl.put 26 _).put 28 _).put 27 _).put 29 _).put 30 _).put 31 _).put 7 _)).wide rfl) rfl)
  · refine a_1 1 27 (.load 27 (.tmp 26)) (v := .int .i64 ((g : Nat) : Int)) (by kernel_rfl) (by kernel_rfl) (ex_ld (u := .pointer (some ⟨B, 3, none⟩)) (evN rfl rfl) (ld27 (w := (wa.drew.alloc (.cells (madeCells z44 (n * 3)) 44))) (by first | exact hb | (rw [World.cell?_alloc_lt _ _ _ hB]; exact hb)))) ?_
    refine a_take 4 30 (.build 42 #[(0, (.tmp 27)), (3, (.tmp 29))]) (v := .agg (a42 ((g : Nat) : Int) wa.heap.size n)) (by kernel_rfl) (by kernel_rfl) (by kernel_rfl) (by kernel_rfl) (fun _ _ _ h => h) (fun _ => (ex_bd2' (u0 := .int .i64 ((g : Nat) : Int)) (u1 := .slice (some ⟨wa.heap.size, 0, none⟩) n n) (evN rfl rfl) (evN rfl rfl) (bd42))) ?_
    refine a_1 5 31 (.box 42 (.tmp 30)) (v := .pointer (some ⟨wa.heap.size + 1, 0, none⟩)) (by kernel_rfl) (by kernel_rfl) (ex_bx (u := .agg (a42 ((g : Nat) : Int) wa.heap.size n)) (evN rfl rfl) (bx42' (w := wa.drew))) ?_
    refine a_take 6 7 (.assign (.tmp 31)) (v := .pointer (some ⟨wa.heap.size + 1, 0, none⟩)) (by kernel_rfl) (by kernel_rfl) (by kernel_rfl) (by kernel_rfl) (fun _ _ _ h => h) (fun _ => (ex_as (evN rfl rfl))) ?_
    exact a_end (by kernel_rfl) (hK _  (((((((((Same.refl.put 26 _).put 28 _).put 29 _).put 27 _).put 30 _).put 31 _).put 7 _)).wide rfl) rfl)
set_option maxRecDepth 100000 in
set_option maxHeartbeats 400000 in
theorem n7 (D C n : Nat) (wa : World) (hs : wa.cell? ⟨D, 3, none⟩ = some (.slice (some ⟨C, 0, none⟩) n n)) (f : Nat → Value) (h7 : f 7 = .pointer (some ⟨D, 0, none⟩)) (K : Act → World → Prop)
    (hK : ∀ (f' : Nat → Value), Same f f' [37, 36, 35, 34, 33, 32] → f' 36 = .int .i64 ((n : Nat) : Int) → f' 37 = .int .i64 ((0 : Nat) : Int) → K (Fm 58 f') (wa)) :
    Code.wp Ybaf.prog (headC (headC (dropC 5 l6))) (only K) (Fm 58 f) wa := by
  refine regN (by kernel_rfl) ?_
  refine s_ex 0 32 (.move (.tmp 7)) (v := .pointer (some ⟨D, 0, none⟩)) (by kernel_rfl) (ex_mv (evN rfl h7)) ?_
  refine s_ex 1 33 (.nilCheck (.tmp 32)) (v := .pointer (some ⟨D, 0, none⟩)) (by kernel_rfl) (ex_nc (evN rfl rfl)) ?_
  refine s_ex 2 34 (.fieldAddr 42 (.tmp 33) 3) (v := .pointer (some ⟨D, 3, none⟩)) (by kernel_rfl) (ex_fa (u := .pointer (some ⟨D, 0, none⟩)) (evN rfl rfl) (fa42_3)) ?_
  refine s_ex 3 35 (.load 36 (.tmp 34)) (v := .slice (some ⟨C, 0, none⟩) n n) (by kernel_rfl) (ex_ld (u := .pointer (some ⟨D, 3, none⟩)) (evN rfl rfl) (ld36 hs)) ?_
  refine s_ex 4 36 (.call { callee := .builtin .len, args := #[(.tmp 35)], argTypes := #[36] }) (v := .int .i64 ((n : Nat) : Int)) (by kernel_rfl) (ex_len (ad := (some ⟨C, 0, none⟩)) (n := n) (c := n) Ybaf.underlying36 (evN rfl rfl)) ?_
  refine s_ex 5 37 (.move (.const (.int .i64 0))) (v := .int .i64 0) (by kernel_rfl) (ex_mv rfl) ?_
  exact s_end (by kernel_rfl) (hK _  ((((((Same.refl.put 32 _).put 33 _).put 34 _).put 35 _).put 36 _).put 37 _) rfl rfl)
set_option maxRecDepth 100000 in
set_option maxHeartbeats 400000 in
theorem n8 (i n : Nat) (wa : World) (f : Nat → Value) (h36 : f 36 = .int .i64 ((n : Nat) : Int)) (h37 : f 37 = .int .i64 ((i : Nat) : Int)) (K : Act → World → Prop)
    (hK : ∀ (f' : Nat → Value), Same f f' [38] → f' 38 = .bool (decide (((i : Nat) : Int) < ((n : Nat) : Int))) → K (Fm 58 f') (wa)) :
    Code.wp Ybaf.prog (headC p6a) (only K) (Fm 58 f) wa := by
  refine regN (by kernel_rfl) ?_
  refine s_ex 0 38 (.binOp .lss 3 (.tmp 37) (.tmp 36) 3) (v := .bool (decide (((i : Nat) : Int) < ((n : Nat) : Int)))) (by kernel_rfl) (ex_bn (u := .int .i64 ((i : Nat) : Int)) (u' := .int .i64 ((n : Nat) : Int)) (evN rfl h37) (evN rfl h36) (lssI rfl)) ?_
  exact s_end (by kernel_rfl) (hK _  (Same.refl.put 38 _) rfl)
set_option maxRecDepth 100000 in
set_option maxHeartbeats 400000 in
theorem n9 (i : Nat) (wa : World) (f : Nat → Value) (h37 : f 37 = .int .i64 ((i : Nat) : Int)) (K : Act → World → Prop)
    (hK : ∀ (f' : Nat → Value), Same f f' [8, 39] → f' 8 = .int .i64 ((i : Nat) : Int) → K (Fm 58 f') (wa)) :
    Code.wp Ybaf.prog (headC (blkC (headC (dropC 2 p6a)))) (only K) (Fm 58 f) wa := by
  refine regN (by kernel_rfl) ?_
  refine s_ex 0 39 (.move (.tmp 37)) (v := .int .i64 ((i : Nat) : Int)) (by kernel_rfl) (ex_mv (evN rfl h37)) ?_
  refine s_ex 1 8 (.assign (.tmp 39)) (v := .int .i64 ((i : Nat) : Int)) (by kernel_rfl) (ex_as (evN rfl rfl)) ?_
  exact s_end (by kernel_rfl) (hK _  ((Same.refl.put 39 _).put 8 _) rfl)
set_option maxRecDepth 100000 in
set_option maxHeartbeats 400000 in
theorem n10 (D C n i : Nat) (u : Value) (wa : World) (hi : i < n) (hs : wa.cell? ⟨D, 3, none⟩ = some (.slice (some ⟨C, 0, none⟩) n n)) (hp : wa.cell? ⟨C, i * 3 + 2, none⟩ = some u) (hf : wa.frozen? ⟨C, i * 3 + 2, none⟩ = false) (f : Nat → Value) (h7 : f 7 = .pointer (some ⟨D, 0, none⟩)) (h8 : f 8 = .int .i64 ((i : Nat) : Int)) (K : Act → World → Prop)
    (hK : ∀ (f' : Nat → Value), Same f f' [46, 45, 44, 43, 42, 41, 40] → K (Fm 58 f') (wa.setCell ⟨C, i * 3 + 2, none⟩ (.int .i32 (-2147483648)))) :
    Code.wp Ybaf.prog (tailC (blkC (headC (dropC 2 p6a)))) (only K) (Fm 58 f) wa := by
  refine regN (by kernel_rfl) ?_
  refine s_ex 0 40 (.move (.tmp 7)) (v := .pointer (some ⟨D, 0, none⟩)) (by kernel_rfl) (ex_mv (evN rfl h7)) ?_
  refine s_ex 1 41 (.nilCheck (.tmp 40)) (v := .pointer (some ⟨D, 0, none⟩)) (by kernel_rfl) (ex_nc (evN rfl rfl)) ?_
  refine s_ex 2 42 (.fieldAddr 42 (.tmp 41) 3) (v := .pointer (some ⟨D, 3, none⟩)) (by kernel_rfl) (ex_fa (u := .pointer (some ⟨D, 0, none⟩)) (evN rfl rfl) (fa42_3)) ?_
  refine s_ex 3 43 (.load 36 (.tmp 42)) (v := .slice (some ⟨C, 0, none⟩) n n) (by kernel_rfl) (ex_ld (u := .pointer (some ⟨D, 3, none⟩)) (evN rfl rfl) (ld36 hs)) ?_
  refine s_ex 4 44 (.move (.tmp 8)) (v := .int .i64 ((i : Nat) : Int)) (by kernel_rfl) (ex_mv (evN rfl h8)) ?_
  refine s_ex 5 45 (.indexAddr 36 (.tmp 43) (.tmp 44)) (v := .pointer (some ⟨C, i * 3, none⟩)) (by kernel_rfl) (ex_ix (u := .slice (some ⟨C, 0, none⟩) n n) (i := .int .i64 ((i : Nat) : Int)) (evN rfl rfl) (evN rfl rfl) (ix36_i64 hi)) ?_
  refine s_ex 6 46 (.fieldAddr 44 (.tmp 45) 2) (v := .pointer (some ⟨C, i * 3 + 2, none⟩)) (by kernel_rfl) (ex_fa (u := .pointer (some ⟨C, i * 3, none⟩)) (evN rfl rfl) (fa44_2)) ?_
  refine s_st 7 21 (.tmp 46) (.const (.int .i32 (-2147483648))) (p := .pointer (some ⟨C, i * 3 + 2, none⟩)) (q := .int .i32 (-2147483648)) (by kernel_rfl) (evN rfl rfl) rfl (st21 hp hf) ?_
  exact s_end (by kernel_rfl) (hK _  (((((((Same.refl.put 40 _).put 41 _).put 42 _).put 43 _).put 44 _).put 45 _).put 46 _))
set_option maxRecDepth 100000 in
set_option maxHeartbeats 400000 in
theorem n11 (i : Nat) (wa : World) (hi : i < 100000) (f : Nat → Value) (h37 : f 37 = .int .i64 ((i : Nat) : Int)) (K : Act → World → Prop)
    (hK : ∀ (f' : Nat → Value), Same f f' [37, 47] → f' 37 = .int .i64 (((i : Nat) : Int) + 1) → K (Fm 58 f') (wa)) :
    Code.wp Ybaf.prog (dropC 3 p6a) (only K) (Fm 58 f) wa := by
  refine regN (by kernel_rfl) ?_
  refine s_ex 0 47 (.binOp .add 3 (.tmp 37) (.const (.int .i64 1)) 3) (v := .int .i64 (((i : Nat) : Int) + 1)) (by kernel_rfl) (ex_bn (u := .int .i64 ((i : Nat) : Int)) (u' := .int .i64 1) (evN rfl h37) rfl (addI rfl (by omega) (by omega))) ?_
  refine s_ex 1 37 (.move (.tmp 47)) (v := .int .i64 (((i : Nat) : Int) + 1)) (by kernel_rfl) (ex_mv (evN rfl rfl)) ?_
  exact s_end (by kernel_rfl) (hK _  ((Same.refl.put 47 _).put 37 _) rfl)
set_option maxRecDepth 100000 in
set_option maxHeartbeats 400000 in
theorem n12 (wa : World) (f : Nat → Value)  (K : Act → World → Prop)
    (hK : ∀ (f' : Nat → Value), Same f f' [48] → f' 48 = .int .i64 ((0 : Nat) : Int) → K (Fm 58 f') (wa)) :
    Code.wp Ybaf.prog (headC (headC (dropC 6 l6))) (only K) (Fm 58 f) wa := by
  refine regN (by kernel_rfl) ?_
  refine s_ex 0 48 (.move (.const (.int .i64 0))) (v := .int .i64 0) (by kernel_rfl) (ex_mv rfl) ?_
  exact s_end (by kernel_rfl) (hK _  (Same.refl.put 48 _) rfl)
set_option maxRecDepth 100000 in
set_option maxHeartbeats 400000 in
theorem n13 (i : Nat) (wa : World) (f : Nat → Value) (h48 : f 48 = .int .i64 ((i : Nat) : Int)) (K : Act → World → Prop)
    (hK : ∀ (f' : Nat → Value), Same f f' [49] → f' 49 = .bool (decide (((i : Nat) : Int) < 705)) → K (Fm 58 f') (wa)) :
    Code.wp Ybaf.prog (headC p6b) (only K) (Fm 58 f) wa := by
  refine regN (by kernel_rfl) ?_
  refine s_ex 0 49 (.binOp .lss 3 (.tmp 48) (.const (.int .i64 705)) 3) (v := .bool (decide (((i : Nat) : Int) < 705))) (by kernel_rfl) (ex_bn (u := .int .i64 ((i : Nat) : Int)) (u' := .int .i64 705) (evN rfl h48) rfl (lssI rfl)) ?_
  exact s_end (by kernel_rfl) (hK _  (Same.refl.put 49 _) rfl)
set_option maxRecDepth 100000 in
set_option maxHeartbeats 400000 in
theorem n14 (i : Nat) (wa : World) (f : Nat → Value) (h48 : f 48 = .int .i64 ((i : Nat) : Int)) (K : Act → World → Prop)
    (hK : ∀ (f' : Nat → Value), Same f f' [9, 50] → f' 9 = .int .i64 ((i : Nat) : Int) → K (Fm 58 f') (wa)) :
    Code.wp Ybaf.prog (headC (blkC (headC (dropC 2 p6b)))) (only K) (Fm 58 f) wa := by
  refine regN (by kernel_rfl) ?_
  refine s_ex 0 50 (.move (.tmp 48)) (v := .int .i64 ((i : Nat) : Int)) (by kernel_rfl) (ex_mv (evN rfl h48)) ?_
  refine s_ex 1 9 (.assign (.tmp 50)) (v := .int .i64 ((i : Nat) : Int)) (by kernel_rfl) (ex_as (evN rfl rfl)) ?_
  exact s_end (by kernel_rfl) (hK _  ((Same.refl.put 50 _).put 9 _) rfl)
set_option maxRecDepth 100000 in
set_option maxHeartbeats 400000 in
theorem n15 (D i : Nat) (u : Value) (wa : World) (hi : i < 705) (hp : wa.cell? ⟨D, 4 + i, none⟩ = some u) (hf : wa.frozen? ⟨D, 4 + i, none⟩ = false) (f : Nat → Value) (h7 : f 7 = .pointer (some ⟨D, 0, none⟩)) (h9 : f 9 = .int .i64 ((i : Nat) : Int)) (K : Act → World → Prop)
    (hK : ∀ (f' : Nat → Value), Same f f' [55, 54, 53, 52, 51] → K (Fm 58 f') (wa.setCell ⟨D, 4 + i, none⟩ (.int .i32 (-1)))) :
    Code.wp Ybaf.prog (tailC (blkC (headC (dropC 2 p6b)))) (only K) (Fm 58 f) wa := by
  refine regN (by kernel_rfl) ?_
  refine s_ex 0 51 (.move (.tmp 7)) (v := .pointer (some ⟨D, 0, none⟩)) (by kernel_rfl) (ex_mv (evN rfl h7)) ?_
  refine s_ex 1 52 (.move (.tmp 9)) (v := .int .i64 ((i : Nat) : Int)) (by kernel_rfl) (ex_mv (evN rfl h9)) ?_
  refine s_ex 2 53 (.nilCheck (.tmp 51)) (v := .pointer (some ⟨D, 0, none⟩)) (by kernel_rfl) (ex_nc (evN rfl rfl)) ?_
  refine s_ex 3 54 (.fieldAddr 42 (.tmp 53) 4) (v := .pointer (some ⟨D, 4, none⟩)) (by kernel_rfl) (ex_fa (u := .pointer (some ⟨D, 0, none⟩)) (evN rfl rfl) (fa42_4)) ?_
  refine s_ex 4 55 (.indexAddr 37 (.tmp 54) (.tmp 52)) (v := .pointer (some ⟨D, 4 + i, none⟩)) (by kernel_rfl) (ex_ix (u := .pointer (some ⟨D, 4, none⟩)) (i := .int .i64 ((i : Nat) : Int)) (evN rfl rfl) (evN rfl rfl) (ix37_i64 hi)) ?_
  refine s_st 5 21 (.tmp 55) (.const (.int .i32 (-1))) (p := .pointer (some ⟨D, 4 + i, none⟩)) (q := .int .i32 (-1)) (by kernel_rfl) (evN rfl rfl) rfl (st21 hp hf) ?_
  exact s_end (by kernel_rfl) (hK _  (((((Same.refl.put 51 _).put 52 _).put 53 _).put 54 _).put 55 _))
set_option maxRecDepth 100000 in
set_option maxHeartbeats 400000 in
theorem n16 (i : Nat) (wa : World) (hi : i < 100000) (f : Nat → Value) (h48 : f 48 = .int .i64 ((i : Nat) : Int)) (K : Act → World → Prop)
    (hK : ∀ (f' : Nat → Value), Same f f' [48, 56] → f' 48 = .int .i64 (((i : Nat) : Int) + 1) → K (Fm 58 f') (wa)) :
    Code.wp Ybaf.prog (dropC 3 p6b) (only K) (Fm 58 f) wa := by
  refine regN (by kernel_rfl) ?_
  refine s_ex 0 56 (.binOp .add 3 (.tmp 48) (.const (.int .i64 1)) 3) (v := .int .i64 (((i : Nat) : Int) + 1)) (by kernel_rfl) (ex_bn (u := .int .i64 ((i : Nat) : Int)) (u' := .int .i64 1) (evN rfl h48) rfl (addI rfl (by omega) (by omega))) ?_
  refine s_ex 1 48 (.move (.tmp 56)) (v := .int .i64 (((i : Nat) : Int) + 1)) (by kernel_rfl) (ex_mv (evN rfl rfl)) ?_
  exact s_end (by kernel_rfl) (hK _  ((Same.refl.put 56 _).put 48 _) rfl)
set_option maxRecDepth 100000 in
set_option maxHeartbeats 400000 in
theorem n17 (v : Value) (wa : World) (f : Nat → Value) (h7 : f 7 = v) (K : Act → World → Prop)
    (hK : ∀ (f' : Nat → Value), Same f f' [5, 4, 57] → f' 4 = v → f' 5 = .nilIface → K (Fm 58 f') (wa)) :
    Code.wp Ybaf.prog (headC (dropC 7 l6)) (only K) (Fm 58 f) wa := by
  refine regN (by kernel_rfl) ?_
  refine s_ex 0 57 (.move (.tmp 7)) (v := v) (by kernel_rfl) (ex_mv (evN rfl h7)) ?_
  refine s_ex 1 4 (.assign (.tmp 57)) (v := v) (by kernel_rfl) (ex_as (evN rfl rfl)) ?_
  refine s_ex 2 5 (.assign (.const (.nilIface))) (v := .nilIface) (by kernel_rfl) (ex_as rfl) ?_
  exact s_end (by kernel_rfl) (hK _  (((Same.refl.put 57 _).put 4 _).put 5 _) rfl rfl)
theorem bel_al {B : Nat} {w w' : World} (h : Below B w w') (hB : B ≤ w'.heap.size) (o : Obj) : Below B w (w'.alloc o) := ⟨h.os, h.tape, h.output, by have := h.size; show w.heap.size ≤ (w'.heap.push o).size; rw [Array.size_push]; omega, fun k hk => by
  show (w'.heap.push o)[k]? = _
  rw [Array.getElem?_push, if_neg (by omega)]; exact h.block k hk⟩
theorem bel_st {B : Nat} {w w' : World} (h : Below B w w') (b o : Nat) (v : Value) (hb : B ≤ b) : Below B w (w'.setCell ⟨b, o, none⟩ v) := ⟨h.os, h.tape, h.output, by have := h.size; simp [World.setCell]; omega, fun k hk => by
  have e : b ≠ k := by omega
  have e2 : (w'.setCell ⟨b, o, none⟩ v).heap[k]? = w'.heap[k]? := by simp [World.setCell, Array.getElem?_modify, e]
  rw [e2]; exact h.block k hk⟩
theorem al_size (w : World) (o : Obj) : (w.alloc o).heap.size = w.heap.size + 1 := by show (w.heap.push o).size = _; rw [Array.size_push]
theorem evG6 {N k : Nat} {f : Nat → Value} {v : Value} (h : Nat.blt k N = true) (hv : f k = v) : (Fm N f).tmps.getD k undef = v := evN h hv
theorem ret6 {f : Nat → Value} {R : Ending → World → Prop} {v u : Value} {wy : World} (h4 : f 4 = v) (h5 : f 5 = u) (hb : R (.returned (.tuple #[v, u])) wy) : bodyPost Ybaf.prog Ybaf.f6 R .ret (Fm 58 f) wy := by
  refine bodyPost_ret_by (v := .tuple #[v, u]) ?_ rfl hb
  rw [results_tmp2 (t := 4) (u := 5) rfl]
  rw [evG6 (N := 58) (k := 4) rfl h4, evG6 (N := 58) (k := 5) rfl h5]
set_option maxRecDepth 100000 in
set_option maxHeartbeats 1000000 in
theorem newd_any (g n : Nat) (hg : 1 ≤ g) (hg2 : g ≤ 1000) (hn : n ≤ 300) (w : World) :
    Calls Ybaf.prog 6 #[.agg (opt g), .int .i64 ((n : Nat) : Int)] w fun e w' => ∃ D C : Nat, e = .returned (.tuple #[.pointer (some ⟨D, 0, none⟩), .nilIface]) ∧ D ≠ C ∧ w.heap.size ≤ D ∧ w.heap.size ≤ C ∧ w'.rowIs D 42 722 (dv ((g : Nat) : Int) 0 C n (fun k => if k < 705 then -1 else 0) (fun _ => 0) (.slice none 0 0) (.slice none 0 0)) ∧ w'.rowIs C 44 (n * 3) (cv (fun _ => 0) (fun _ => 0) (fun k => if k < n then -2147483648 else 0)) ∧ Below w.heap.size w w' := by
  go_enter Ybaf.func6, Ybaf.ntmps6
  change Code.wp Ybaf.prog l6 _ _ _
  rw [Fm_of (N := 58) _ (by rfl)]
  generalize hf : (fun k => Array.getD _ k undef) = f
  have H : Has f [(0, .agg (opt g)), (1, .int .i64 ((n : Nat) : Int))] := by
    subst hf
    exact ⟨by rfl, by rfl, trivial⟩
  clear hf
  rw [l6_eq]
  refine wp_seq (wp_use (n0 g w f H.1 _ ?_))
  intro f1  S1 e1_2 e1_4 e1_5 
  have H1 : Has f1 [(2, .pointer (some ⟨w.heap.size, 0, none⟩)), (4, .pointer none), (5, .nilIface), (0, .agg (opt g)), (1, .int .i64 ((n : Nat) : Int))] := ⟨e1_2, e1_4, e1_5, H.keep S1⟩
  have hb0 : ∀ k v, (opt g)[k]? = some v → (w.alloc (.cells (opt g) 34)).cell? ⟨w.heap.size, k, none⟩ = some v := fun k v hk => by
    have := World.rowIs_alloc w (opt g) 34 (fun i => (opt g).getD i undef) (fun i hi => by rw [Array.getD_eq_getD_getElem?, Array.getElem?_eq_getElem hi]; rfl)
    have hlt : k < (opt g).size := (Array.getElem?_eq_some_iff.1 hk).1
    rw [this.cell hlt, Array.getD_eq_getD_getElem?, hk]; rfl
  refine wp_seq (wp_use (n1 w.heap.size g _ hg hg2 hb0 f1 H1.1 _ ?_))
  intro f2  S2 e2_6 
  have H2 : Has f2 [(6, .nilIface), (2, .pointer (some ⟨w.heap.size, 0, none⟩)), (4, .pointer none), (5, .nilIface), (0, .agg (opt g)), (1, .int .i64 ((n : Nat) : Int))] := ⟨e2_6, H1.keep S2⟩
  have hB1 : Below w.heap.size w (((w.alloc (.cells (opt g) 34)).alloc (.cells (opt g) 34)).alloc (.cells (opt g) 34)) := bel_al (bel_al (bel_al (Below.refl _ _) (Nat.le_refl _) _) (by rw [al_size]; omega) _) (by rw [al_size, al_size]; omega) _
  have hg3 : (((w.alloc (.cells (opt g) 34)).alloc (.cells (opt g) 34)).alloc (.cells (opt g) 34)).cell? ⟨w.heap.size, 3, none⟩ = some (.int .i64 ((g : Nat) : Int)) := by
    rw [World.cell?_alloc_lt _ _ _ (by show w.heap.size < _; rw [al_size, al_size]; omega), World.cell?_alloc_lt _ _ _ (by show w.heap.size < _; rw [al_size]; omega)]
    exact hb0 3 _ rfl
  have hsz1 : w.heap.size < (((w.alloc (.cells (opt g) 34)).alloc (.cells (opt g) 34)).alloc (.cells (opt g) 34)).heap.size := by rw [al_size, al_size, al_size]; omega
  revert hB1 hg3 hsz1
  generalize ((w.alloc (.cells (opt g) 34)).alloc (.cells (opt g) 34)).alloc (.cells (opt g) 34) = w1
  intro hB1 hg3 hsz1
  refine wp_seq (wp_seq (wp_use (n2 w1 f2 H2.1 _ ?_)))
  intro f3  S3 e3_13 
  have H3 : Has f3 [(13, .bool false), (6, .nilIface), (2, .pointer (some ⟨w.heap.size, 0, none⟩)), (4, .pointer none), (5, .nilIface), (0, .agg (opt g)), (1, .int .i64 ((n : Nat) : Int))] := ⟨e3_13, H2.keep S3⟩
  refine wp_cond_false (evN rfl H3.1) (wp_skip ?_)
  refine wp_seq (wp_seq (wp_use (n4 n w1 hn f3 H3.2.2.2.2.2.2.1 _ ?_)))
  intro f4  S4 e4_20 
  have H4 : Has f4 [(20, .bool false), (13, .bool false), (6, .nilIface), (2, .pointer (some ⟨w.heap.size, 0, none⟩)), (4, .pointer none), (5, .nilIface), (0, .agg (opt g)), (1, .int .i64 ((n : Nat) : Int))] := ⟨e4_20, H3.keep S4⟩
  refine wp_cond_false (evN rfl H4.1) (wp_skip ?_)
  refine wp_seq (wp_use (n6 w.heap.size g n w1 hn hg3 hsz1 f4 H4.2.2.2.2.2.2.2.1 H4.2.2.2.1 _ ?_))
  intro f5  S5 e5_7 
  have H5 : Has f5 [(7, .pointer (some ⟨w1.heap.size + 1, 0, none⟩)), (20, .bool false), (13, .bool false), (6, .nilIface), (2, .pointer (some ⟨w.heap.size, 0, none⟩)), (4, .pointer none), (5, .nilIface), (0, .agg (opt g)), (1, .int .i64 ((n : Nat) : Int))] := ⟨e5_7, H4.keep S5⟩
  have hC0 := (z44_row w1.drew n).alloc (.cells (a42 ((g : Nat) : Int) w1.heap.size n) 42)
  have hD0 := a42_row (w1.drew.alloc (.cells (madeCells z44 (n * 3)) 44)) ((g : Nat) : Int) w1.heap.size n
  rw [al_size] at hD0
  have hB2 : Below w.heap.size w ((w1.drew.alloc (.cells (madeCells z44 (n * 3)) 44)).alloc (.cells (a42 ((g : Nat) : Int) w1.heap.size n) 42)) := bel_al (bel_al hB1.drew (by show w.heap.size ≤ w1.heap.size; omega) _) (by rw [al_size]; show w.heap.size ≤ w1.heap.size + 1; omega) _
  revert hC0 hD0 hB2
  generalize (w1.drew.alloc (.cells (madeCells z44 (n * 3)) 44)).alloc (.cells (a42 ((g : Nat) : Int) w1.heap.size n) 42) = w2
  change w2.rowIs w1.heap.size 44 (n * 3) (cv (fun _ => 0) (fun _ => 0) (fun _ => 0)) → w2.rowIs (w1.heap.size + 1) 42 722 _ → _ → _
  intro hC0 hD0 hB2
  obtain ⟨C, hCe⟩ : ∃ C, C = w1.heap.size := ⟨_, rfl⟩
  obtain ⟨D, hDe⟩ : ∃ D, D = w1.heap.size + 1 := ⟨_, rfl⟩
  rw [← hDe] at hD0
  rw [← hCe] at hC0 hD0
  have hDC : D ≠ C := by omega
  have hDw : w.heap.size ≤ D := by omega
  have hCw : w.heap.size ≤ C := by omega
  rw [← hDe] at H5
  refine wp_join (fun a' w' => ∃ f : Nat → Value, a' = Fm 58 f ∧ Has f [(7, .pointer (some ⟨D, 0, none⟩))] ∧ w'.rowIs D 42 722 (dv ((g : Nat) : Int) 0 C n (fun k => if k < 0 then -1 else 0) (fun _ => 0) (.slice none 0 0) (.slice none 0 0)) ∧ w'.rowIs C 44 (n * 3) (cv (fun _ => 0) (fun _ => 0) (fun k => if k < n then -2147483648 else 0)) ∧ Below w.heap.size w w') ?_ ?_
  · refine wp_seq (wp_use (n7 D C n w2 (hD0.cell (by omega)) f5 H5.1 _ ?_))
    intro f6  S6 e6_36 e6_37 
    have H6 : Has f6 [(36, .int .i64 ((n : Nat) : Int)), (37, .int .i64 ((0 : Nat) : Int)), (7, .pointer (some ⟨D, 0, none⟩)), (20, .bool false), (13, .bool false), (6, .nilIface), (2, .pointer (some ⟨w.heap.size, 0, none⟩)), (4, .pointer none), (5, .nilIface), (0, .agg (opt g)), (1, .int .i64 ((n : Nat) : Int))] := ⟨e6_36, e6_37, H5.keep S6⟩
    refine wp_block (wp_loop_ghost (fun k a' w' => ∃ (f : Nat → Value) (i : Nat), a' = Fm 58 f ∧ k = n - i ∧ i ≤ n ∧ Has f [(7, .pointer (some ⟨D, 0, none⟩)), (36, .int .i64 ((n : Nat) : Int)), (37, .int .i64 ((i : Nat) : Int))] ∧ w'.rowIs D 42 722 (dv ((g : Nat) : Int) 0 C n (fun k => if k < 0 then -1 else 0) (fun _ => 0) (.slice none 0 0) (.slice none 0 0)) ∧ w'.rowIs C 44 (n * 3) (cv (fun _ => 0) (fun _ => 0) (fun k => if k < i then -2147483648 else 0)) ∧ Below w.heap.size w w') n ⟨f6, 0, rfl, by omega, by omega, ⟨H6.2.2.1, H6.1, H6.2.1, trivial⟩, hD0.congr (fun k _ => by simp), hC0.congr (fun k _ => by simp), hB2⟩ ?_)
    rintro k _ w3 ⟨f, i, rfl, rfl, hi, H, hD3, hC3, hB3⟩
    rw [p6a_eq]
    refine wp_seq (wp_use (n8 i n w3 f H.2.1 H.2.2.1 _ ?_))
    intro f31  S31 e31_38 
    have H31 : Has f31 [(38, .bool (decide (((i : Nat) : Int) < ((n : Nat) : Int)))), (7, .pointer (some ⟨D, 0, none⟩)), (36, .int .i64 ((n : Nat) : Int)), (37, .int .i64 ((i : Nat) : Int))] := ⟨e31_38, H.keep S31⟩
    by_cases hlt : ((i : Nat) : Int) < ((n : Nat) : Int)
    · refine wp_seq (wp_cond_true (evN rfl (H31.1.trans (by rw [decide_eq_true hlt]))) (wp_skip ?_))
      refine wp_seq (wp_block ?_)
      refine wp_seq (wp_use (n9 i w3 f31 H31.2.2.2.1 _ ?_))
      intro f32  S32 e32_8 
      have H32 : Has f32 [(8, .int .i64 ((i : Nat) : Int)), (38, .bool (decide (((i : Nat) : Int) < ((n : Nat) : Int)))), (7, .pointer (some ⟨D, 0, none⟩)), (36, .int .i64 ((n : Nat) : Int)), (37, .int .i64 ((i : Nat) : Int))] := ⟨e32_8, H31.keep S32⟩
      refine wp_use (n10 D C n i _ w3 (by omega) (hD3.cell (by omega)) (hC3.cell (by omega)) (hC3.frozen _) f32 H32.2.2.1 H32.1 _ ?_)
      intro f33  S33  
      have H33 : Has f33 [(8, .int .i64 ((i : Nat) : Int)), (38, .bool (decide (((i : Nat) : Int) < ((n : Nat) : Int)))), (7, .pointer (some ⟨D, 0, none⟩)), (36, .int .i64 ((n : Nat) : Int)), (37, .int .i64 ((i : Nat) : Int))] := H32.keep S33
      refine wp_use (n11 i _ (by omega) f33 H33.2.2.2.2.1 _ ?_)
      intro f34  S34 e34_37 
      have H34 : Has f34 [(37, .int .i64 (((i : Nat) : Int) + 1)), (8, .int .i64 ((i : Nat) : Int)), (38, .bool (decide (((i : Nat) : Int) < ((n : Nat) : Int)))), (7, .pointer (some ⟨D, 0, none⟩)), (36, .int .i64 ((n : Nat) : Int))] := ⟨e34_37, H33.keep S34⟩
      refine ⟨n - (i + 1), by omega, f34, i + 1, rfl, rfl, by omega, ⟨H34.2.2.2.1, H34.2.2.2.2.1, H34.1, trivial⟩, hD3.setOther (a := ⟨C, i * 3 + 2, none⟩) hDC _, (hC3.set (i * 3 + 2) _).congr fun k _ => ?_, bel_st hB3 C _ _ hCw⟩
      rw [cv_set2]
      congr 1
      funext z
      show (if z = i then (-2147483648 : Int) else if z < i then -2147483648 else 0) = if z < i + 1 then -2147483648 else 0
      by_cases e : z = i
      · rw [if_pos e, if_pos (by omega)]
      · rw [if_neg e]
        by_cases e2 : z < i
        · rw [if_pos e2, if_pos (by omega)]
        · rw [if_neg e2, if_neg (by omega)]
    · refine wp_seq (wp_cond_false (evN rfl (H31.1.trans (by rw [decide_eq_false hlt]))) (wp_exit ?_))
      have hin : i = n := by omega
      subst hin
      exact ⟨f31, rfl, ⟨H31.2.1, trivial⟩, hD3, hC3, hB3⟩
  · rintro _ w4 ⟨f, rfl, H, hD4, hC4, hB4⟩
    refine wp_join (fun a' w' => ∃ f : Nat → Value, a' = Fm 58 f ∧ Has f [(7, .pointer (some ⟨D, 0, none⟩))] ∧ w'.rowIs D 42 722 (dv ((g : Nat) : Int) 0 C n (fun k => if k < 705 then -1 else 0) (fun _ => 0) (.slice none 0 0) (.slice none 0 0)) ∧ w'.rowIs C 44 (n * 3) (cv (fun _ => 0) (fun _ => 0) (fun k => if k < n then -2147483648 else 0)) ∧ Below w.heap.size w w') ?_ ?_
    · refine wp_seq (wp_use (n12 w4 f  _ ?_))
      intro f51  S51 e51_48 
      have H51 : Has f51 [(48, .int .i64 ((0 : Nat) : Int)), (7, .pointer (some ⟨D, 0, none⟩))] := ⟨e51_48, H.keep S51⟩
      refine wp_block (wp_loop_ghost (fun k a' w' => ∃ (f : Nat → Value) (i : Nat), a' = Fm 58 f ∧ k = 705 - i ∧ i ≤ 705 ∧ Has f [(7, .pointer (some ⟨D, 0, none⟩)), (48, .int .i64 ((i : Nat) : Int))] ∧ w'.rowIs D 42 722 (dv ((g : Nat) : Int) 0 C n (fun k => if k < i then -1 else 0) (fun _ => 0) (.slice none 0 0) (.slice none 0 0)) ∧ w'.rowIs C 44 (n * 3) (cv (fun _ => 0) (fun _ => 0) (fun k => if k < n then -2147483648 else 0)) ∧ Below w.heap.size w w') 705 ⟨f51, 0, rfl, by omega, by omega, ⟨H51.2.1, H51.1, trivial⟩, hD4, hC4, hB4⟩ ?_)
      rintro k _ w3 ⟨f, i, rfl, rfl, hi, H, hD3, hC3, hB3⟩
      rw [p6b_eq]
      refine wp_seq (wp_use (n13 i w3 f H.2.1 _ ?_))
      intro f61  S61 e61_49 
      have H61 : Has f61 [(49, .bool (decide (((i : Nat) : Int) < 705))), (7, .pointer (some ⟨D, 0, none⟩)), (48, .int .i64 ((i : Nat) : Int))] := ⟨e61_49, H.keep S61⟩
      by_cases hlt : ((i : Nat) : Int) < 705
      · refine wp_seq (wp_cond_true (evN rfl (H61.1.trans (by rw [decide_eq_true hlt]))) (wp_skip ?_))
        refine wp_seq (wp_block ?_)
        refine wp_seq (wp_use (n14 i w3 f61 H61.2.2.1 _ ?_))
        intro f62  S62 e62_9 
        have H62 : Has f62 [(9, .int .i64 ((i : Nat) : Int)), (49, .bool (decide (((i : Nat) : Int) < 705))), (7, .pointer (some ⟨D, 0, none⟩)), (48, .int .i64 ((i : Nat) : Int))] := ⟨e62_9, H61.keep S62⟩
        refine wp_use (n15 D i _ w3 (by omega) (hD3.cell (by omega)) (hD3.frozen _) f62 H62.2.2.1 H62.1 _ ?_)
        intro f63  S63  
        have H63 : Has f63 [(9, .int .i64 ((i : Nat) : Int)), (49, .bool (decide (((i : Nat) : Int) < 705))), (7, .pointer (some ⟨D, 0, none⟩)), (48, .int .i64 ((i : Nat) : Int))] := H62.keep S63
        refine wp_use (n16 i _ (by omega) f63 H63.2.2.2.1 _ ?_)
        intro f64  S64 e64_48 
        have H64 : Has f64 [(48, .int .i64 (((i : Nat) : Int) + 1)), (9, .int .i64 ((i : Nat) : Int)), (49, .bool (decide (((i : Nat) : Int) < 705))), (7, .pointer (some ⟨D, 0, none⟩))] := ⟨e64_48, H63.keep S64⟩
        refine ⟨705 - (i + 1), by omega, f64, i + 1, rfl, rfl, by omega, ⟨H64.2.2.2.1, H64.1, trivial⟩, (hD3.set (4 + i) _).congr fun k _ => ?_, hC3.setOther (a := ⟨D, 4 + i, none⟩) hDC.symm _, bel_st hB3 D _ _ hDw⟩
        rw [dv_seth i (by omega)]
        congr 1
        funext z
        show (if z = i then (-1 : Int) else if z < i then -1 else 0) = if z < i + 1 then -1 else 0
        by_cases e : z = i
        · rw [if_pos e, if_pos (by omega)]
        · rw [if_neg e]
          by_cases e2 : z < i
          · rw [if_pos e2, if_pos (by omega)]
          · rw [if_neg e2, if_neg (by omega)]
      · refine wp_seq (wp_cond_false (evN rfl (H61.1.trans (by rw [decide_eq_false hlt]))) (wp_exit ?_))
        have hin : i = 705 := by omega
        subst hin
        exact ⟨f61, rfl, ⟨H61.2.1, trivial⟩, hD3, hC3, hB3⟩
    · rintro _ w5 ⟨f, rfl, H, hD5, hC5, hB5⟩
      refine wp_seq (wp_use (n17 _ w5 f H.1 _ ?_))
      intro f71  S71 e71_4 e71_5 
      have H71 : Has f71 [(4, .pointer (some ⟨D, 0, none⟩)), (5, .nilIface), (7, .pointer (some ⟨D, 0, none⟩))] := ⟨e71_4, e71_5, H.keep S71⟩
      exact wp_ret (ret6 H71.1 H71.2.1 ⟨D, C, rfl, hDC, hDw, hCw, hD5, hC5, hB5⟩)
end Go.Proofs.YbulkblsgFmt

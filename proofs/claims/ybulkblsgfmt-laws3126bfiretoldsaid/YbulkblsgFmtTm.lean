import Derived.Test.YbulkblsgFmtTl
namespace Go.Proofs.YbulkblsgFmt
open Go.RowKit
set_option linter.unusedVariables false
set_option linter.unusedSimpArgs false
section
variable {x y : Operand} {w : World}
theorem cv242 {a : Nat} (h : a < 65536) : (convert 24 2 (.int .u16 ((a : Nat) : Int))).run Ybaf.prog w = .ok (.int .i64 ((a : Nat) : Int)) w := by
  go_simp
  try (simp [IntKind.wrap, IntKind.bits, IntKind.signed]; omega)
theorem remK {a : Nat} : (do eqGuard .rem 2 x y (.int .i64 ((a : Nat) : Int)) (.int .i64 1000); binOp .rem 2 (.int .i64 ((a : Nat) : Int)) (.int .i64 1000) : Sem Value).run Ybaf.prog w = .ok (.int .i64 ((a % 1000 : Nat) : Int)) w := by
  go_simp
  try rw [Int.tmod_eq_emod_of_nonneg (by omega)]
  try omega
theorem addK {a : Nat} (h : a < 100000) : (do eqGuard .add 2 x y (.int .i64 1) (.int .i64 ((a : Nat) : Int)); binOp .add 2 (.int .i64 1) (.int .i64 ((a : Nat) : Int)) : Sem Value).run Ybaf.prog w = .ok (.int .i64 ((1 + a : Nat) : Int)) w := by
  have e : IntKind.i64.wrap (1 + (a : Int)) = ((1 + a : Nat) : Int) := by simp [IntKind.wrap, IntKind.bits, IntKind.signed]; omega
  have k : (do eqGuard .add 2 x y (.int .i64 1) (.int .i64 ((a : Nat) : Int)); binOp .add 2 (.int .i64 1) (.int .i64 ((a : Nat) : Int)) : Sem Value).run Ybaf.prog w = .ok (.int .i64 (IntKind.i64.wrap (1 + (a : Int)))) w := by kernel_rfl
  rw [k, e]
theorem lss25 {a b : Int} {r : Bool} (h : decide (a < b) = r) : (do eqGuard .lss 25 x y (.int .u32 a) (.int .u32 b); binOp .lss 25 (.int .u32 a) (.int .u32 b) : Sem Value).run Ybaf.prog w = .ok (.bool r) w := by
  subst h
  kernel_rfl
theorem eql25 {a b : Int} {r : Bool} (h : (a == b) = r) : (do eqGuard .eql 25 x y (.int .u32 a) (.int .u32 b); binOp .eql 25 (.int .u32 a) (.int .u32 b) : Sem Value).run Ybaf.prog w = .ok (.bool r) w := by
  subst h
  go_simp
theorem eqlP {a : Addr} : (do eqGuard .eql 28 x (.const (.pointer none)) (.pointer (some a)) (.pointer none); binOp .eql 28 (.pointer (some a)) (.pointer none) : Sem Value).run Ybaf.prog w = .ok (.bool false) w := by go_simp
theorem bd34 {g : Nat} : (Instr.build 34 #[(0, .int .i64 1000000000), (2, .int .i64 1000000000), (3, .int .i64 ((g : Nat) : Int))]).run Ybaf.prog w = .ok (.agg (opt g)) w := by kernel_rfl
theorem ex_bd3 {P : Program} {a : Act} {w w' : World} {x y z : Operand} {t : TypeId} {u0 u1 u2 v : Value} (hx : a.eval x = u0) (hy : a.eval y = u1) (hz : a.eval z = u2) (hr : (Instr.build t #[(0, u0), (2, u1), (3, u2)]).run P w = .ok v w') : ∀ o : Oper, o.op = .build t #[(0, x), (2, y), (3, z)] → (execOp a.eval o).run P w = .ok (.value v) w' := fun o ho => by simp [execOp, ho, hx, hy, hz, hr]
theorem info4' : (Ybaf.prog.info? 4).map (fun i => (i.zero, i.size, i.bytes)) = some (some (.bool false), 1, 1) := by kernel_rfl
theorem mk23 {n : Nat} (h : n ≤ 100000) : (Instr.makeSlice 23 (.int .i64 ((n : Nat) : Int)) (.int .i64 ((n : Nat) : Int))).run Ybaf.prog w = .ok (.slice (some ⟨w.heap.size, 0, none⟩) n n) (w.alloc (.cells (madeCells #[.bool false] n) 4)) :=
  run_make_row' 23 4 _ 1 Ybaf.underlying23 info4' rfl .i64 .i64 n (by omega) (by omega) w
theorem mk26 {n : Nat} (h : n ≤ 100000) : (Instr.makeSlice 26 (.int .i64 ((n : Nat) : Int)) (.int .i64 ((n : Nat) : Int))).run Ybaf.prog w = .ok (.slice (some ⟨w.heap.size, 0, none⟩) n n) (w.alloc (.cells (madeCells #[.int .i64 0] n) 3)) :=
  run_make_row' 26 3 _ 8 Ybaf.underlying26 info3' rfl .i64 .i64 n (by omega) (by omega) w
theorem mk26c {n : Nat} (h : n ≤ 100000) : (Instr.makeSlice 26 (.int .i64 0) (.int .i64 ((n : Nat) : Int))).run Ybaf.prog w = .ok (.slice (some ⟨w.heap.size, 0, none⟩) 0 n) (w.alloc (.cells (madeCells #[.int .i64 0] n) 3)) := by
  obtain ⟨i, hi, hz, hs, hb⟩ := iparts info3'
  have hr := run_make (P := Ybaf.prog) w 26 3 i (.int .i64 0) Ybaf.underlying26 hi hz .i64 .i64 0 n (by omega) (by omega) (by rw [hb]; omega) (by omega)
  simp only [Int.toNat_natCast, hs, Nat.mul_one] at hr
  exact hr
theorem ix23z {b n c i : Nat} (h : i < n) : (Instr.indexAt 23 (.slice (some ⟨b, 0, none⟩) n c) (.int .i64 ((i : Nat) : Int))).run Ybaf.prog w = .ok (.pointer (some ⟨b, i, none⟩)) w := by
  have := ix23 (w := w) (b := b) (o := 0) (c := c) h
  rwa [Nat.zero_add] at this
theorem ix26z {b n c i : Nat} (h : i < n) : (Instr.indexAt 26 (.slice (some ⟨b, 0, none⟩) n c) (.int .i64 ((i : Nat) : Int))).run Ybaf.prog w = .ok (.pointer (some ⟨b, i, none⟩)) w := by
  have := ix26 (w := w) (b := b) (o := 0) (c := c) h
  rwa [Nat.zero_add] at this
theorem ex_cp {P : Program} {a : Act} {w w' : World} {x y : Operand} {t : TypeId} {u v r : Value} (hx : a.eval x = u) (hy : a.eval y = v) (hr : ∀ ty, (Builtin.copy_ #[t, t] ty #[u, v]).run P w = .ok r w') : ∀ o : Oper, o.op = .call { callee := .builtin .copy, args := #[x, y], argTypes := #[t, t] } → (execOp a.eval o).run P w = .ok (.value r) w' := fun o ho => by
  unfold execOp
  simp only [ho]
  simp [resolve, invoke, builtin, hx, hy, hr]
end
theorem btickR {dl g : Nat} {w : World} (hg : 1 ≤ g) (hg2 : g ≤ 1000) (hdl : dl < 4294967296) : CallR 9 #[.int .u32 ((dl : Nat) : Int), .int .i64 ((g : Nat) : Int)] w fun v w' => v = .int .u64 ((tck dl g : Nat) : Int) ∧ w' = w := (btick_any dl g hg hg2 hdl w).mono fun _ _ ⟨h1, h2⟩ => ⟨_, h1, rfl, h2⟩
theorem blistR {t nx : Nat} {w : World} (ht : t < 18446744073709551616) (hn : nx < 18446744073709551616) : CallR 11 #[.int .u64 ((t : Nat) : Int), .int .u64 ((nx : Nat) : Int)] w fun v w' => v = .int .i32 ((lst t nx : Nat) : Int) ∧ w' = w := (blist_any t nx ht hn w).mono fun _ _ ⟨h1, h2⟩ => ⟨_, h1, rfl, h2⟩
noncomputable def l3 : Code := Ybaf.f3.body.getD .skip
noncomputable def l3a : Code := lupC (blkC (tailC (headC (dropC 8 l3))))
noncomputable def b3a : Code := blkC (headC (dropC 1 l3a))
noncomputable def l3b : Code := lupC (blkC (tailC (headC (dropC 13 l3))))
noncomputable def b3b : Code := blkC (headC (dropC 1 l3b))
noncomputable def l3c : Code := lupC (blkC (tailC (headC (dropC 14 l3))))
noncomputable def b3c : Code := blkC (headC (dropC 1 l3c))
noncomputable def l3d : Code := lupC (blkC (tailC b3c))
noncomputable def b3d : Code := blkC (tailC l3d)
noncomputable def l3e : Code := lupC (blkC (tailC (headC (dropC 16 l3))))
noncomputable def b3e : Code := blkC (headC (dropC 1 l3e))
noncomputable def l3f : Code := lupC (blkC (tailC (headC (dropC 17 l3))))
noncomputable def b3f : Code := blkC (headC (dropC 1 l3f))
noncomputable def l3g : Code := lupC (blkC (tailC (headC (dropC 18 l3))))
noncomputable def b3g : Code := blkC (headC (dropC 1 l3g))
noncomputable def l3h : Code := lupC (blkC (tailC (headC (dropC 8 b3g))))
noncomputable def b3h : Code := blkC (headC (dropC 1 l3h))
set_option maxRecDepth 100000 in
set_option maxHeartbeats 400000 in
theorem m0 (wa : World) (f : Nat → Value)  (K : Act → World → Prop)
    (hK : ∀ (f' : Nat → Value), Same f f' [12] → f' 12 = .bool false → K (Fm 309 f') (wa)) :
    Code.wp Ybaf.prog (headC l3) (only K) (Fm 309 f) wa := by
  refine regN (by kernel_rfl) ?_
  refine s_ex 0 12 (.assign (.const (.bool false))) (v := .bool false) (by kernel_rfl) (ex_as rfl) ?_
  exact s_end (by kernel_rfl) (hK _  (Same.refl.put 12 _) rfl)
set_option maxRecDepth 100000 in
set_option maxHeartbeats 400000 in
theorem m1 (a0 : Option Addr) (n c0 : Nat) (a5 : Option Addr) (p c5 : Nat) (wa : World) (hn : n ≤ 300) (hp : p ≤ 1024) (f : Nat → Value) (h0 : f 0 = .slice a0 n c0) (h5 : f 5 = .slice a5 p c5) (K : Act → World → Prop)
    (hK : ∀ (f' : Nat → Value), Same f f' [44, 43, 42, 41, 40, 39, 38, 37] → f' 44 = .bool false → K (Fm 309 f') (wa)) :
    Code.wp Ybaf.prog (headC (headC (dropC 1 l3))) (only K) (Fm 309 f) wa := by
  refine regN (by kernel_rfl) ?_
  refine s_ex 0 37 (.move (.tmp 0)) (v := .slice a0 n c0) (by kernel_rfl) (ex_mv (evN rfl h0)) ?_
  refine s_ex 1 38 (.call { callee := .builtin .len, args := #[(.tmp 37)], argTypes := #[22] }) (v := .int .i64 ((n : Nat) : Int)) (by kernel_rfl) (ex_len (ad := a0) (n := n) (c := c0) Ybaf.underlying22 (evN rfl rfl)) ?_
  refine s_ex 2 39 (.binOp .gtr 3 (.tmp 38) (.const (.int .i64 300)) 3) (v := .bool false) (by kernel_rfl) (ex_bn (u := .int .i64 ((n : Nat) : Int)) (u' := .int .i64 300) (evN rfl rfl) rfl (gtrI (decide_eq_false (by omega)))) ?_
  refine s_ex 3 40 (.move (.tmp 39)) (v := .bool false) (by kernel_rfl) (ex_mv (evN rfl rfl)) ?_
  refine s_g 4 41 3 40 false (.move (.tmp 5)) (v := .slice a5 p c5) (by kernel_rfl) (by kernel_rfl) (by rfl) (by rfl) (ex_mv (evN rfl h5)) ?_
  refine s_g 5 42 3 40 false (.call { callee := .builtin .len, args := #[(.tmp 41)], argTypes := #[26] }) (v := .int .i64 ((p : Nat) : Int)) (by kernel_rfl) (by kernel_rfl) (by rfl) (by rfl) (ex_len (ad := a5) (n := p) (c := c5) Ybaf.underlying26 (evN rfl rfl)) ?_
  refine s_g 6 43 3 40 false (.binOp .gtr 3 (.tmp 42) (.const (.int .i64 1024)) 3) (v := .bool false) (by kernel_rfl) (by kernel_rfl) (by rfl) (by rfl) (ex_bn (u := .int .i64 ((p : Nat) : Int)) (u' := .int .i64 1024) (evN rfl rfl) rfl (gtrI (decide_eq_false (by omega)))) ?_
  refine s_ex 7 44 (.pick (.tmp 40) (.const (.bool true)) (.tmp 43)) (v := .bool false) (by kernel_rfl) (ex_pickf (evN rfl rfl) (evN rfl rfl)) ?_
  exact s_end (by kernel_rfl) (hK _  ((((((((Same.refl.put 37 _).put 38 _).put 39 _).put 40 _).put 41 _).put 42 _).put 43 _).put 44 _) rfl)
set_option maxRecDepth 100000 in
set_option maxHeartbeats 400000 in
theorem m1a (a0 : Option Addr) (n c0 : Nat) (wa : World) (hn : ¬ n ≤ 300) (f : Nat → Value) (h0 : f 0 = .slice a0 n c0) (K : Act → World → Prop)
    (hK : ∀ (f' : Nat → Value), Same f f' [44, 43, 42, 41, 40, 39, 38, 37] → f' 44 = .bool true → K (Fm 309 f') (wa)) :
    Code.wp Ybaf.prog (headC (headC (dropC 1 l3))) (only K) (Fm 309 f) wa := by
  refine regN (by kernel_rfl) ?_
  refine s_ex 0 37 (.move (.tmp 0)) (v := .slice a0 n c0) (by kernel_rfl) (ex_mv (evN rfl h0)) ?_
  refine s_ex 1 38 (.call { callee := .builtin .len, args := #[(.tmp 37)], argTypes := #[22] }) (v := .int .i64 ((n : Nat) : Int)) (by kernel_rfl) (ex_len (ad := a0) (n := n) (c := c0) Ybaf.underlying22 (evN rfl rfl)) ?_
  refine s_ex 2 39 (.binOp .gtr 3 (.tmp 38) (.const (.int .i64 300)) 3) (v := .bool true) (by kernel_rfl) (ex_bn (u := .int .i64 ((n : Nat) : Int)) (u' := .int .i64 300) (evN rfl rfl) rfl (gtrI (decide_eq_true (by omega)))) ?_
  refine s_ex 3 40 (.move (.tmp 39)) (v := .bool true) (by kernel_rfl) (ex_mv (evN rfl rfl)) ?_
  refine s_no 4 41 3 40 false (.move (.tmp 5)) (by kernel_rfl) (by kernel_rfl) (by rfl) (by rfl) ?_
  refine s_no 5 42 3 40 false (.call { callee := .builtin .len, args := #[(.tmp 41)], argTypes := #[26] }) (by kernel_rfl) (by kernel_rfl) (by rfl) (by rfl) ?_
  refine s_no 6 43 3 40 false (.binOp .gtr 3 (.tmp 42) (.const (.int .i64 1024)) 3) (by kernel_rfl) (by kernel_rfl) (by rfl) (by rfl) ?_
  refine s_ex 7 44 (.pick (.tmp 40) (.const (.bool true)) (.tmp 43)) (v := .bool true) (by kernel_rfl) (ex_pickt (evN rfl rfl) rfl) ?_
  exact s_end (by kernel_rfl) (hK _  ((((((((Same.refl.put 37 _).put 38 _).put 39 _).put 40 _).put 41 _).put 42 _).put 43 _).put 44 _) rfl)
set_option maxRecDepth 100000 in
set_option maxHeartbeats 400000 in
theorem m1b (a0 : Option Addr) (n c0 : Nat) (a5 : Option Addr) (p c5 : Nat) (wa : World) (hn : n ≤ 300) (hp : ¬ p ≤ 1024) (f : Nat → Value) (h0 : f 0 = .slice a0 n c0) (h5 : f 5 = .slice a5 p c5) (K : Act → World → Prop)
    (hK : ∀ (f' : Nat → Value), Same f f' [44, 43, 42, 41, 40, 39, 38, 37] → f' 44 = .bool true → K (Fm 309 f') (wa)) :
    Code.wp Ybaf.prog (headC (headC (dropC 1 l3))) (only K) (Fm 309 f) wa := by
  refine regN (by kernel_rfl) ?_
  refine s_ex 0 37 (.move (.tmp 0)) (v := .slice a0 n c0) (by kernel_rfl) (ex_mv (evN rfl h0)) ?_
  refine s_ex 1 38 (.call { callee := .builtin .len, args := #[(.tmp 37)], argTypes := #[22] }) (v := .int .i64 ((n : Nat) : Int)) (by kernel_rfl) (ex_len (ad := a0) (n := n) (c := c0) Ybaf.underlying22 (evN rfl rfl)) ?_
  refine s_ex 2 39 (.binOp .gtr 3 (.tmp 38) (.const (.int .i64 300)) 3) (v := .bool false) (by kernel_rfl) (ex_bn (u := .int .i64 ((n : Nat) : Int)) (u' := .int .i64 300) (evN rfl rfl) rfl (gtrI (decide_eq_false (by omega)))) ?_
  refine s_ex 3 40 (.move (.tmp 39)) (v := .bool false) (by kernel_rfl) (ex_mv (evN rfl rfl)) ?_
  refine s_g 4 41 3 40 false (.move (.tmp 5)) (v := .slice a5 p c5) (by kernel_rfl) (by kernel_rfl) (by rfl) (by rfl) (ex_mv (evN rfl h5)) ?_
  refine s_g 5 42 3 40 false (.call { callee := .builtin .len, args := #[(.tmp 41)], argTypes := #[26] }) (v := .int .i64 ((p : Nat) : Int)) (by kernel_rfl) (by kernel_rfl) (by rfl) (by rfl) (ex_len (ad := a5) (n := p) (c := c5) Ybaf.underlying26 (evN rfl rfl)) ?_
  refine s_g 6 43 3 40 false (.binOp .gtr 3 (.tmp 42) (.const (.int .i64 1024)) 3) (v := .bool true) (by kernel_rfl) (by kernel_rfl) (by rfl) (by rfl) (ex_bn (u := .int .i64 ((p : Nat) : Int)) (u' := .int .i64 1024) (evN rfl rfl) rfl (gtrI (decide_eq_true (by omega)))) ?_
  refine s_ex 7 44 (.pick (.tmp 40) (.const (.bool true)) (.tmp 43)) (v := .bool true) (by kernel_rfl) (ex_pickf (evN rfl rfl) (evN rfl rfl)) ?_
  exact s_end (by kernel_rfl) (hK _  ((((((((Same.refl.put 37 _).put 38 _).put 39 _).put 40 _).put 41 _).put 42 _).put 43 _).put 44 _) rfl)
set_option maxRecDepth 100000 in
set_option maxHeartbeats 400000 in
theorem m2 (wa : World) (f : Nat → Value)  (K : Act → World → Prop)
    (hK : ∀ (f' : Nat → Value), Same f f' [12] → f' 12 = .bool true → K (Fm 309 f') (wa)) :
    Code.wp Ybaf.prog (headC (thnC (tailC (headC (dropC 1 l3))))) (only K) (Fm 309 f) wa := by
  refine regN (by kernel_rfl) ?_
  refine s_ex 0 12 (.assign (.const (.bool true))) (v := .bool true) (by kernel_rfl) (ex_as rfl) ?_
  exact s_end (by kernel_rfl) (hK _  (Same.refl.put 12 _) rfl)
set_option maxRecDepth 100000 in
set_option maxHeartbeats 400000 in
theorem m3 (gr : Nat) (wa : World) (hg : gr < 65536) (f : Nat → Value) (h2 : f 2 = .int .u16 ((gr : Nat) : Int)) (K : Act → World → Prop)
    (hK : ∀ (f' : Nat → Value), Same f f' [13, 48, 47, 46, 45] → f' 13 = .int .i64 ((1 + gr % 1000 : Nat) : Int) → K (Fm 309 f') (wa)) :
    Code.wp Ybaf.prog (headC (dropC 2 l3)) (only K) (Fm 309 f) wa := by
  refine regN (by kernel_rfl) ?_
  refine s_ex 0 45 (.move (.tmp 2)) (v := .int .u16 ((gr : Nat) : Int)) (by kernel_rfl) (ex_mv (evN rfl h2)) ?_
  refine s_ex 1 46 (.convert 24 2 (.tmp 45)) (v := .int .i64 ((gr : Nat) : Int)) (by kernel_rfl) (ex_cv (u := .int .u16 ((gr : Nat) : Int)) (evN rfl rfl) (cv242 hg)) ?_
  refine s_ex 2 47 (.binOp .rem 2 (.tmp 46) (.const (.int .i64 1000)) 2) (v := .int .i64 ((gr % 1000 : Nat) : Int)) (by kernel_rfl) (ex_bn (u := .int .i64 ((gr : Nat) : Int)) (u' := .int .i64 1000) (evN rfl rfl) rfl (remK)) ?_
  refine s_ex 3 48 (.binOp .add 2 (.const (.int .i64 1)) (.tmp 47) 2) (v := .int .i64 ((1 + gr % 1000 : Nat) : Int)) (by kernel_rfl) (ex_bn (u := .int .i64 1) (u' := .int .i64 ((gr % 1000 : Nat) : Int)) rfl (evN rfl rfl) (addK (by omega))) ?_
  refine s_ex 4 13 (.assign (.tmp 48)) (v := .int .i64 ((1 + gr % 1000 : Nat) : Int)) (by kernel_rfl) (ex_as (evN rfl rfl)) ?_
  exact s_end (by kernel_rfl) (hK _  (((((Same.refl.put 45 _).put 46 _).put 47 _).put 48 _).put 13 _) rfl)
set_option maxRecDepth 100000 in
set_option maxHeartbeats 400000 in
theorem m4 (a0 : Option Addr) (n c0 : Nat) (wa : World) (f : Nat → Value) (h0 : f 0 = .slice a0 n c0) (K : Act → World → Prop)
    (hK : ∀ (f' : Nat → Value), Same f f' [14, 50, 49] → f' 14 = .int .i64 ((n : Nat) : Int) → K (Fm 309 f') (wa)) :
    Code.wp Ybaf.prog (headC (dropC 3 l3)) (only K) (Fm 309 f) wa := by
  refine regN (by kernel_rfl) ?_
  refine s_ex 0 49 (.move (.tmp 0)) (v := .slice a0 n c0) (by kernel_rfl) (ex_mv (evN rfl h0)) ?_
  refine s_ex 1 50 (.call { callee := .builtin .len, args := #[(.tmp 49)], argTypes := #[22] }) (v := .int .i64 ((n : Nat) : Int)) (by kernel_rfl) (ex_len (ad := a0) (n := n) (c := c0) Ybaf.underlying22 (evN rfl rfl)) ?_
  refine s_ex 2 14 (.assign (.tmp 50)) (v := .int .i64 ((n : Nat) : Int)) (by kernel_rfl) (ex_as (evN rfl rfl)) ?_
  exact s_end (by kernel_rfl) (hK _  (((Same.refl.put 49 _).put 50 _).put 14 _) rfl)
set_option maxRecDepth 100000 in
set_option maxHeartbeats 400000 in
theorem m5 (g n : Nat) (wa : World) (R : Value → Value → World → Prop) (hc : CallR 6 #[.agg (opt g), .int .i64 ((n : Nat) : Int)] wa fun v w' => ∃ x y : Value, v = .tuple #[x, y] ∧ R x y w') (f : Nat → Value) (h13 : f 13 = .int .i64 ((g : Nat) : Int)) (h14 : f 14 = .int .i64 ((n : Nat) : Int)) (K : Act → World → Prop)
    (hK : ∀ (f' : Nat → Value) (x y : Value) (wx : World), Same f f' [16, 15, 57, 56, 51, 55, 54, 53, 52] → f' 15 = x → f' 16 = y → R x y wx → K (Fm 309 f') (wx)) :
    Code.wp Ybaf.prog (headC (dropC 4 l3)) (only K) (Fm 309 f) wa := by
  refine regN (by kernel_rfl) ?_
  refine s_ex 0 52 (.move (.tmp 13)) (v := .int .i64 ((g : Nat) : Int)) (by kernel_rfl) (ex_mv (evN rfl h13)) ?_
  refine s_ex 1 53 (.build 34 #[(0, (.const (.int .i64 1000000000))), (2, (.const (.int .i64 1000000000))), (3, (.tmp 52))]) (v := .agg (opt g)) (by kernel_rfl) (ex_bd3 (u0 := .int .i64 1000000000) (u1 := .int .i64 1000000000) (u2 := .int .i64 ((g : Nat) : Int)) rfl rfl (evN rfl rfl) (bd34)) ?_
  refine s_ex 2 54 (.move (.tmp 14)) (v := .int .i64 ((n : Nat) : Int)) (by kernel_rfl) (ex_mv (evN rfl h14)) ?_
  refine s_call 3 55 (.call { callee := .value (.func 6), args := #[(.tmp 53), (.tmp 54)], argTypes := #[34, 3] }) (fn := 6) (args := #[.agg (opt g), .int .i64 ((n : Nat) : Int)]) (by kernel_rfl) (ex_fn2 (cf6 _) (evN rfl rfl) (evN rfl rfl)) (hc) ?_
  rintro _ wx ⟨x, y, rfl, hR⟩
  refine s_ex 4 51 (.move (.tmp 55)) (v := .tuple #[x, y]) (by kernel_rfl) (ex_mv (evN rfl rfl)) ?_
  refine s_ex 5 56 (.extract (.tmp 51) 0) (v := x) (by kernel_rfl) (ex_xt (u := .tuple #[x, y]) (evN rfl rfl) (by kernel_rfl)) ?_
  refine s_ex 6 57 (.extract (.tmp 51) 1) (v := y) (by kernel_rfl) (ex_xt (u := .tuple #[x, y]) (evN rfl rfl) (by kernel_rfl)) ?_
  refine s_ex 7 15 (.assign (.tmp 56)) (v := x) (by kernel_rfl) (ex_as (evN rfl rfl)) ?_
  refine s_ex 8 16 (.assign (.tmp 57)) (v := y) (by kernel_rfl) (ex_as (evN rfl rfl)) ?_
  exact s_end (by kernel_rfl) (hK _ x y wx (((((((((Same.refl.put 52 _).put 53 _).put 54 _).put 55 _).put 51 _).put 56 _).put 57 _).put 15 _).put 16 _) rfl rfl hR)
set_option maxRecDepth 100000 in
set_option maxHeartbeats 400000 in
theorem m6 (D : Nat) (wa : World) (f : Nat → Value) (h15 : f 15 = .pointer (some ⟨D, 0, none⟩)) (h16 : f 16 = .nilIface) (K : Act → World → Prop)
    (hK : ∀ (f' : Nat → Value), Same f f' [63, 62, 61, 60, 59, 58] → f' 63 = .bool false → K (Fm 309 f') (wa)) :
    Code.wp Ybaf.prog (headC (headC (dropC 5 l3))) (only K) (Fm 309 f) wa := by
  refine regN (by kernel_rfl) ?_
  refine s_ex 0 58 (.move (.tmp 16)) (v := .nilIface) (by kernel_rfl) (ex_mv (evN rfl h16)) ?_
  refine s_ex 1 59 (.binOp .neq 30 (.tmp 58) (.const (.nilIface)) 30) (v := .bool false) (by kernel_rfl) (ex_bn (u := .nilIface) (u' := .nilIface) (evN rfl rfl) rfl (neqE)) ?_
  refine s_ex 2 60 (.move (.tmp 59)) (v := .bool false) (by kernel_rfl) (ex_mv (evN rfl rfl)) ?_
  refine s_g 3 61 2 60 false (.move (.tmp 15)) (v := .pointer (some ⟨D, 0, none⟩)) (by kernel_rfl) (by kernel_rfl) (by rfl) (by rfl) (ex_mv (evN rfl h15)) ?_
  refine s_g 4 62 2 60 false (.binOp .eql 28 (.tmp 61) (.const (.pointer none)) 28) (v := .bool false) (by kernel_rfl) (by kernel_rfl) (by rfl) (by rfl) (ex_bn (u := .pointer (some ⟨D, 0, none⟩)) (u' := .pointer none) (evN rfl rfl) rfl (eqlP)) ?_
  refine s_ex 5 63 (.pick (.tmp 60) (.const (.bool true)) (.tmp 62)) (v := .bool false) (by kernel_rfl) (ex_pickf (evN rfl rfl) (evN rfl rfl)) ?_
  exact s_end (by kernel_rfl) (hK _  ((((((Same.refl.put 58 _).put 59 _).put 60 _).put 61 _).put 62 _).put 63 _) rfl)
set_option maxRecDepth 100000 in
set_option maxHeartbeats 400000 in
theorem m8 (D tk : Nat) (u : Value) (wa : World) (ht : tk < 4294967296) (hc : wa.cell? ⟨D, 2, none⟩ = some u) (hf : wa.frozen? ⟨D, 2, none⟩ = false) (f : Nat → Value) (h3 : f 3 = .int .u32 ((tk : Nat) : Int)) (h15 : f 15 = .pointer (some ⟨D, 0, none⟩)) (K : Act → World → Prop)
    (hK : ∀ (f' : Nat → Value), Same f f' [68, 67, 66, 65, 64] → K (Fm 309 f') (wa.setCell ⟨D, 2, none⟩ (.int .u64 ((tk : Nat) : Int)))) :
    Code.wp Ybaf.prog (headC (dropC 6 l3)) (only K) (Fm 309 f) wa := by
  refine regN (by kernel_rfl) ?_
  refine s_ex 0 64 (.move (.tmp 15)) (v := .pointer (some ⟨D, 0, none⟩)) (by kernel_rfl) (ex_mv (evN rfl h15)) ?_
  refine s_ex 1 65 (.move (.tmp 3)) (v := .int .u32 ((tk : Nat) : Int)) (by kernel_rfl) (ex_mv (evN rfl h3)) ?_
  refine s_ex 2 66 (.convert 25 35 (.tmp 65)) (v := .int .u64 ((tk : Nat) : Int)) (by kernel_rfl) (ex_cv (u := .int .u32 ((tk : Nat) : Int)) (evN rfl rfl) (cv2535 ht)) ?_
  refine s_ex 3 67 (.nilCheck (.tmp 64)) (v := .pointer (some ⟨D, 0, none⟩)) (by kernel_rfl) (ex_nc (evN rfl rfl)) ?_
  refine s_ex 4 68 (.fieldAddr 42 (.tmp 67) 2) (v := .pointer (some ⟨D, 2, none⟩)) (by kernel_rfl) (ex_fa (u := .pointer (some ⟨D, 0, none⟩)) (evN rfl rfl) (fa42_2)) ?_
  refine s_st 5 35 (.tmp 68) (.tmp 66) (p := .pointer (some ⟨D, 2, none⟩)) (q := .int .u64 ((tk : Nat) : Int)) (by kernel_rfl) (evN rfl rfl) (evN rfl rfl) (st35 hc hf) ?_
  exact s_end (by kernel_rfl) (hK _  (((((Same.refl.put 64 _).put 65 _).put 66 _).put 67 _).put 68 _))
set_option maxRecDepth 100000 in
set_option maxHeartbeats 400000 in
theorem m9 (n : Nat) (wa : World) (hn : n ≤ 300) (f : Nat → Value) (h14 : f 14 = .int .i64 ((n : Nat) : Int)) (K : Act → World → Prop)
    (hK : ∀ (f' : Nat → Value), Same f f' [17, 70, 69] → f' 17 = .slice (some ⟨wa.heap.size, 0, none⟩) n n → K (Fm 309 f') (wa.alloc (.cells (madeCells #[.bool false] n) 4))) :
    Code.wp Ybaf.prog (headC (dropC 7 l3)) (only K) (Fm 309 f) wa := by
  refine regN (by kernel_rfl) ?_
  refine s_ex 0 69 (.move (.tmp 14)) (v := .int .i64 ((n : Nat) : Int)) (by kernel_rfl) (ex_mv (evN rfl h14)) ?_
  refine s_ex 1 70 (.makeSlice 23 (.tmp 69) (.tmp 69)) (v := .slice (some ⟨wa.heap.size, 0, none⟩) n n) (by kernel_rfl) (ex_mk (u := .int .i64 ((n : Nat) : Int)) (u' := .int .i64 ((n : Nat) : Int)) (evN rfl rfl) (evN rfl rfl) (mk23 (by omega))) ?_
  refine s_ex 2 17 (.assign (.tmp 70)) (v := .slice (some ⟨wa.heap.size, 0, none⟩) n n) (by kernel_rfl) (ex_as (evN rfl rfl)) ?_
  exact s_end (by kernel_rfl) (hK _  (((Same.refl.put 69 _).put 70 _).put 17 _) rfl)
set_option maxRecDepth 100000 in
set_option maxHeartbeats 400000 in
theorem m10 (wa : World) (f : Nat → Value)  (K : Act → World → Prop)
    (hK : ∀ (f' : Nat → Value), Same f f' [18] → f' 18 = .int .i64 ((0 : Nat) : Int) → K (Fm 309 f') (wa)) :
    Code.wp Ybaf.prog (headC (headC (dropC 8 l3))) (only K) (Fm 309 f) wa := by
  refine regN (by kernel_rfl) ?_
  refine s_ex 0 18 (.assign (.const (.int .i64 0))) (v := .int .i64 0) (by kernel_rfl) (ex_as rfl) ?_
  exact s_end (by kernel_rfl) (hK _  (Same.refl.put 18 _) rfl)
set_option maxRecDepth 100000 in
set_option maxHeartbeats 400000 in
theorem m11 (i n : Nat) (wa : World) (f : Nat → Value) (h14 : f 14 = .int .i64 ((n : Nat) : Int)) (h18 : f 18 = .int .i64 ((i : Nat) : Int)) (K : Act → World → Prop)
    (hK : ∀ (f' : Nat → Value), Same f f' [73, 72, 71] → f' 73 = .bool (decide (((i : Nat) : Int) < ((n : Nat) : Int))) → K (Fm 309 f') (wa)) :
    Code.wp Ybaf.prog (headC (headC l3a)) (only K) (Fm 309 f) wa := by
  refine regN (by kernel_rfl) ?_
  refine s_ex 0 71 (.move (.tmp 18)) (v := .int .i64 ((i : Nat) : Int)) (by kernel_rfl) (ex_mv (evN rfl h18)) ?_
  refine s_ex 1 72 (.move (.tmp 14)) (v := .int .i64 ((n : Nat) : Int)) (by kernel_rfl) (ex_mv (evN rfl h14)) ?_
  refine s_ex 2 73 (.binOp .lss 3 (.tmp 71) (.tmp 72) 3) (v := .bool (decide (((i : Nat) : Int) < ((n : Nat) : Int)))) (by kernel_rfl) (ex_bn (u := .int .i64 ((i : Nat) : Int)) (u' := .int .i64 ((n : Nat) : Int)) (evN rfl rfl) (evN rfl rfl) (lssI rfl)) ?_
  exact s_end (by kernel_rfl) (hK _  (((Same.refl.put 71 _).put 72 _).put 73 _) rfl)
set_option maxRecDepth 100000 in
set_option maxHeartbeats 400000 in
theorem m12 (i : Nat) (wa : World) (hi : i < 100000) (f : Nat → Value) (h18 : f 18 = .int .i64 ((i : Nat) : Int)) (K : Act → World → Prop)
    (hK : ∀ (f' : Nat → Value), Same f f' [18, 75, 74] → f' 18 = .int .i64 (((i : Nat) : Int) + 1) → K (Fm 309 f') (wa)) :
    Code.wp Ybaf.prog (dropC 2 l3a) (only K) (Fm 309 f) wa := by
  refine regN (by kernel_rfl) ?_
  refine s_ex 0 74 (.move (.tmp 18)) (v := .int .i64 ((i : Nat) : Int)) (by kernel_rfl) (ex_mv (evN rfl h18)) ?_
  refine s_ex 1 75 (.binOp .add 3 (.tmp 74) (.const (.int .i64 1)) 3) (v := .int .i64 (((i : Nat) : Int) + 1)) (by kernel_rfl) (ex_bn (u := .int .i64 ((i : Nat) : Int)) (u' := .int .i64 1) (evN rfl rfl) rfl (addI rfl (by omega) (by omega))) ?_
  refine s_ex 2 18 (.assign (.tmp 75)) (v := .int .i64 (((i : Nat) : Int) + 1)) (by kernel_rfl) (ex_as (evN rfl rfl)) ?_
  exact s_end (by kernel_rfl) (hK _  (((Same.refl.put 74 _).put 75 _).put 18 _) rfl)
set_option maxRecDepth 100000 in
set_option maxHeartbeats 400000 in
theorem m13 (D C ab ao n c0 i dl : Nat) (u : Value) (wa : World) (hi : i < n) (hdl : dl < 4294967296) (hs : wa.cell? ⟨D, 3, none⟩ = some (.slice (some ⟨C, 0, none⟩) n n)) (ha : wa.cell? ⟨ab, ao + i, none⟩ = some (.int .u32 ((dl : Nat) : Int))) (hc : wa.cell? ⟨C, i * 3, none⟩ = some u) (hf : wa.frozen? ⟨C, i * 3, none⟩ = false) (f : Nat → Value) (h0 : f 0 = .slice (some ⟨ab, ao, none⟩) n c0) (h15 : f 15 = .pointer (some ⟨D, 0, none⟩)) (h18 : f 18 = .int .i64 ((i : Nat) : Int)) (K : Act → World → Prop)
    (hK : ∀ (f' : Nat → Value), Same f f' [87, 86, 85, 84, 79, 83, 82, 81, 80, 78, 77, 76] → K (Fm 309 f') (wa.drew.setCell ⟨C, i * 3, none⟩ (.int .i64 ((dl : Nat) : Int)))) :
    Code.wp Ybaf.prog (headC b3a) (only K) (Fm 309 f) wa := by
  refine anyN 13 (by kernel_rfl) (by kernel_rfl) ?_
  refine a_take 0 76 (.move (.tmp 15)) (v := .pointer (some ⟨D, 0, none⟩)) (by kernel_rfl) (by kernel_rfl) (by kernel_rfl) (by kernel_rfl) (fun _ _ _ h => h) (fun _ => (ex_mv (evN rfl h15))) ?_
  refine a_take 1 77 (.nilCheck (.tmp 76)) (v := .pointer (some ⟨D, 0, none⟩)) (by kernel_rfl) (by kernel_rfl) (by kernel_rfl) (by kernel_rfl) (fun _ _ _ h => h) (fun _ => (ex_nc (evN rfl rfl))) ?_
  refine a_take 2 78 (.fieldAddr 42 (.tmp 77) 3) (v := .pointer (some ⟨D, 3, none⟩)) (by kernel_rfl) (by kernel_rfl) (by kernel_rfl) (by kernel_rfl) (fun _ _ _ h => h) (fun _ => (ex_fa (u := .pointer (some ⟨D, 0, none⟩)) (evN rfl rfl) (fa42_3))) ?_
  refine a_take 4 80 (.move (.tmp 18)) (v := .int .i64 ((i : Nat) : Int)) (by kernel_rfl) (by kernel_rfl) (by kernel_rfl) (by kernel_rfl) (fun _ _ _ h => h) (fun _ => (ex_mv (evN rfl h18))) ?_
  refine a_take 5 81 (.move (.tmp 0)) (v := .slice (some ⟨ab, ao, none⟩) n c0) (by kernel_rfl) (by kernel_rfl) (by kernel_rfl) (by kernel_rfl) (fun _ _ _ h => h) (fun _ => (ex_mv (evN rfl h0))) ?_
  refine a_take 6 82 (.move (.tmp 18)) (v := .int .i64 ((i : Nat) : Int)) (by kernel_rfl) (by kernel_rfl) (by kernel_rfl) (by kernel_rfl) (fun _ _ _ h => h) (fun _ => (ex_mv (evN rfl h18))) ?_
  refine a_take 7 83 (.indexAddr 22 (.tmp 81) (.tmp 82)) (v := .pointer (some ⟨ab, ao + i, none⟩)) (by kernel_rfl) (by kernel_rfl) (by kernel_rfl) (by kernel_rfl) (fun _ _ _ h => h) (fun _ => (ex_ix (u := .slice (some ⟨ab, ao, none⟩) n c0) (i := .int .i64 ((i : Nat) : Int)) (evN rfl rfl) (evN rfl rfl) (ix22 hi))) ?_
  refine a_2 3 79 8 84 (.load 36 (.tmp 78)) (.load 25 (.tmp 83)) (v := .slice (some ⟨C, 0, none⟩) n n) (u := .int .u32 ((dl : Nat) : Int)) (by kernel_rfl) (by kernel_rfl) (by kernel_rfl) (ex_ld (u := .pointer (some ⟨D, 3, none⟩)) (evN rfl rfl) (ld36 (w := wa.drew) hs)) (ex_ld (u := .pointer (some ⟨ab, ao + i, none⟩)) (evN rfl rfl) (ld25 (w := wa.drew) ha)) ?_ ?_
  · refine a_1 8 84 (.load 25 (.tmp 83)) (v := .int .u32 ((dl : Nat) : Int)) (by kernel_rfl) (by kernel_rfl) (ex_ld (u := .pointer (some ⟨ab, ao + i, none⟩)) (evN rfl rfl) (ld25 (w := wa.drew) ha)) ?_
    refine a_take 9 85 (.convert 25 27 (.tmp 84)) (v := .int .i64 ((dl : Nat) : Int)) (by kernel_rfl) (by kernel_rfl) (by kernel_rfl) (by kernel_rfl) (fun _ _ _ h => h) (fun _ => (ex_cv (u := .int .u32 ((dl : Nat) : Int)) (evN rfl rfl) (cv2527 hdl))) ?_
    refine a_take 10 86 (.indexAddr 36 (.tmp 79) (.tmp 80)) (v := .pointer (some ⟨C, i * 3, none⟩)) (by kernel_rfl) (by kernel_rfl) (by kernel_rfl) (by kernel_rfl) (fun _ _ _ h => h) (fun _ => (ex_ix (u := .slice (some ⟨C, 0, none⟩) n n) (i := .int .i64 ((i : Nat) : Int)) (evN rfl rfl) (evN rfl rfl) (ix36_i64 hi))) ?_
    refine a_take 11 87 (.fieldAddr 44 (.tmp 86) 0) (v := .pointer (some ⟨C, i * 3, none⟩)) (by kernel_rfl) (by kernel_rfl) (by kernel_rfl) (by kernel_rfl) (fun _ _ _ h => h) (fun _ => (ex_fa (u := .pointer (some ⟨C, i * 3, none⟩)) (evN rfl rfl) (fa44_0))) ?_
    refine a_st 12 27 (.tmp 87) (.tmp 85) (p := .pointer (some ⟨C, i * 3, none⟩)) (q := .int .i64 ((dl : Nat) : Int)) (by kernel_rfl) (by kernel_rfl) (evN rfl rfl) (evN rfl rfl) (st27 (w := wa.drew) hc hf) ?_
    exact a_end (by kernel_rfl) (hK _  ((((((((((((((Same.refl.put 76 _).put 77 _).put 78 _).put 80 _).put 81 _).put 82 _).put 83 _).put 79 _).put 84 _).put 85 _).put 86 _).put 87 _)).wide rfl))
  · refine a_take 9 85 (.convert 25 27 (.tmp 84)) (v := .int .i64 ((dl : Nat) : Int)) (by kernel_rfl) (by kernel_rfl) (by kernel_rfl) (by kernel_rfl) (fun _ _ _ h => h) (fun _ => (ex_cv (u := .int .u32 ((dl : Nat) : Int)) (evN rfl rfl) (cv2527 hdl))) ?_
    refine a_1 3 79 (.load 36 (.tmp 78)) (v := .slice (some ⟨C, 0, none⟩) n n) (by kernel_rfl) (by kernel_rfl) (ex_ld (u := .pointer (some ⟨D, 3, none⟩)) (evN rfl rfl) (ld36 (w := wa.drew) hs)) ?_
    refine a_take 10 86 (.indexAddr 36 (.tmp 79) (.tmp 80)) (v := .pointer (some ⟨C, i * 3, none⟩)) (by kernel_rfl) (by kernel_rfl) (by kernel_rfl) (by kernel_rfl) (fun _ _ _ h => h) (fun _ => (ex_ix (u := .slice (some ⟨C, 0, none⟩) n n) (i := .int .i64 ((i : Nat) : Int)) (evN rfl rfl) (evN rfl rfl) (ix36_i64 hi))) ?_
    refine a_take 11 87 (.fieldAddr 44 (.tmp 86) 0) (v := .pointer (some ⟨C, i * 3, none⟩)) (by kernel_rfl) (by kernel_rfl) (by kernel_rfl) (by kernel_rfl) (fun _ _ _ h => h) (fun _ => (ex_fa (u := .pointer (some ⟨C, i * 3, none⟩)) (evN rfl rfl) (fa44_0))) ?_
    refine a_st 12 27 (.tmp 87) (.tmp 85) (p := .pointer (some ⟨C, i * 3, none⟩)) (q := .int .i64 ((dl : Nat) : Int)) (by kernel_rfl) (by kernel_rfl) (evN rfl rfl) (evN rfl rfl) (st27 (w := wa.drew) hc hf) ?_
    exact a_end (by kernel_rfl) (hK _  ((((((((((((((Same.refl.put 76 _).put 77 _).put 78 _).put 80 _).put 81 _).put 82 _).put 83 _).put 84 _).put 85 _).put 79 _).put 86 _).put 87 _)).wide rfl))
set_option maxRecDepth 100000 in
set_option maxHeartbeats 400000 in
theorem m14a (a1 : Option Addr) (pn c1 i : Nat) (wa : World) (hi : ¬ i < pn) (f : Nat → Value) (h1 : f 1 = .slice a1 pn c1) (h18 : f 18 = .int .i64 ((i : Nat) : Int)) (K : Act → World → Prop)
    (hK : ∀ (f' : Nat → Value), Same f f' [97, 96, 95, 94, 93, 92, 91, 90, 89, 88] → f' 97 = .bool true → K (Fm 309 f') (wa)) :
    Code.wp Ybaf.prog (headC (tailC b3a)) (only K) (Fm 309 f) wa := by
  refine regN (by kernel_rfl) ?_
  refine s_ex 0 88 (.move (.tmp 18)) (v := .int .i64 ((i : Nat) : Int)) (by kernel_rfl) (ex_mv (evN rfl h18)) ?_
  refine s_ex 1 89 (.move (.tmp 1)) (v := .slice a1 pn c1) (by kernel_rfl) (ex_mv (evN rfl h1)) ?_
  refine s_ex 2 90 (.call { callee := .builtin .len, args := #[(.tmp 89)], argTypes := #[23] }) (v := .int .i64 ((pn : Nat) : Int)) (by kernel_rfl) (ex_len (ad := a1) (n := pn) (c := c1) Ybaf.underlying23 (evN rfl rfl)) ?_
  refine s_ex 3 91 (.binOp .geq 3 (.tmp 88) (.tmp 90) 3) (v := .bool true) (by kernel_rfl) (ex_bn (u := .int .i64 ((i : Nat) : Int)) (u' := .int .i64 ((pn : Nat) : Int)) (evN rfl rfl) (evN rfl rfl) (geqI (decide_eq_true (by omega)))) ?_
  refine s_ex 4 92 (.move (.tmp 91)) (v := .bool true) (by kernel_rfl) (ex_mv (evN rfl rfl)) ?_
  refine s_no 5 93 4 92 false (.move (.tmp 1)) (by kernel_rfl) (by kernel_rfl) (by rfl) (by rfl) ?_
  refine s_no 6 94 4 92 false (.move (.tmp 18)) (by kernel_rfl) (by kernel_rfl) (by rfl) (by rfl) ?_
  refine s_no 7 95 4 92 false (.indexAddr 23 (.tmp 93) (.tmp 94)) (by kernel_rfl) (by kernel_rfl) (by rfl) (by rfl) ?_
  refine s_no 8 96 4 92 false (.load 4 (.tmp 95)) (by kernel_rfl) (by kernel_rfl) (by rfl) (by rfl) ?_
  refine s_ex 9 97 (.pick (.tmp 92) (.const (.bool true)) (.tmp 96)) (v := .bool true) (by kernel_rfl) (ex_pickt (evN rfl rfl) rfl) ?_
  exact s_end (by kernel_rfl) (hK _  ((((((((((Same.refl.put 88 _).put 89 _).put 90 _).put 91 _).put 92 _).put 93 _).put 94 _).put 95 _).put 96 _).put 97 _) rfl)
set_option maxRecDepth 100000 in
set_option maxHeartbeats 400000 in
theorem m14b (pb po pn c1 i : Nat) (b : Bool) (wa : World) (hi : i < pn) (hb : wa.cell? ⟨pb, po + i, none⟩ = some (.bool b)) (f : Nat → Value) (h1 : f 1 = .slice (some ⟨pb, po, none⟩) pn c1) (h18 : f 18 = .int .i64 ((i : Nat) : Int)) (K : Act → World → Prop)
    (hK : ∀ (f' : Nat → Value), Same f f' [97, 96, 95, 94, 93, 92, 91, 90, 89, 88] → f' 97 = .bool b → K (Fm 309 f') (wa)) :
    Code.wp Ybaf.prog (headC (tailC b3a)) (only K) (Fm 309 f) wa := by
  refine regN (by kernel_rfl) ?_
  refine s_ex 0 88 (.move (.tmp 18)) (v := .int .i64 ((i : Nat) : Int)) (by kernel_rfl) (ex_mv (evN rfl h18)) ?_
  refine s_ex 1 89 (.move (.tmp 1)) (v := .slice (some ⟨pb, po, none⟩) pn c1) (by kernel_rfl) (ex_mv (evN rfl h1)) ?_
  refine s_ex 2 90 (.call { callee := .builtin .len, args := #[(.tmp 89)], argTypes := #[23] }) (v := .int .i64 ((pn : Nat) : Int)) (by kernel_rfl) (ex_len (ad := (some ⟨pb, po, none⟩)) (n := pn) (c := c1) Ybaf.underlying23 (evN rfl rfl)) ?_
  refine s_ex 3 91 (.binOp .geq 3 (.tmp 88) (.tmp 90) 3) (v := .bool false) (by kernel_rfl) (ex_bn (u := .int .i64 ((i : Nat) : Int)) (u' := .int .i64 ((pn : Nat) : Int)) (evN rfl rfl) (evN rfl rfl) (geqI (decide_eq_false (by omega)))) ?_
  refine s_ex 4 92 (.move (.tmp 91)) (v := .bool false) (by kernel_rfl) (ex_mv (evN rfl rfl)) ?_
  refine s_g 5 93 4 92 false (.move (.tmp 1)) (v := .slice (some ⟨pb, po, none⟩) pn c1) (by kernel_rfl) (by kernel_rfl) (by rfl) (by rfl) (ex_mv (evN rfl h1)) ?_
  refine s_g 6 94 4 92 false (.move (.tmp 18)) (v := .int .i64 ((i : Nat) : Int)) (by kernel_rfl) (by kernel_rfl) (by rfl) (by rfl) (ex_mv (evN rfl h18)) ?_
  refine s_g 7 95 4 92 false (.indexAddr 23 (.tmp 93) (.tmp 94)) (v := .pointer (some ⟨pb, po + i, none⟩)) (by kernel_rfl) (by kernel_rfl) (by rfl) (by rfl) (ex_ix (u := .slice (some ⟨pb, po, none⟩) pn c1) (i := .int .i64 ((i : Nat) : Int)) (evN rfl rfl) (evN rfl rfl) (ix23 hi)) ?_
  refine s_g 8 96 4 92 false (.load 4 (.tmp 95)) (v := .bool b) (by kernel_rfl) (by kernel_rfl) (by rfl) (by rfl) (ex_ld (u := .pointer (some ⟨pb, po + i, none⟩)) (evN rfl rfl) (ld4 hb)) ?_
  refine s_ex 9 97 (.pick (.tmp 92) (.const (.bool true)) (.tmp 96)) (v := .bool b) (by kernel_rfl) (ex_pickf (evN rfl rfl) (evN rfl rfl)) ?_
  exact s_end (by kernel_rfl) (hK _  ((((((((((Same.refl.put 88 _).put 89 _).put 90 _).put 91 _).put 92 _).put 93 _).put 94 _).put 95 _).put 96 _).put 97 _) rfl)
set_option maxRecDepth 100000 in
set_option maxHeartbeats 400000 in
theorem m15 (Lb n i : Nat) (u : Value) (wa : World) (hi : i < n) (hc : wa.cell? ⟨Lb, i, none⟩ = some u) (hf : wa.frozen? ⟨Lb, i, none⟩ = false) (f : Nat → Value) (h17 : f 17 = .slice (some ⟨Lb, 0, none⟩) n n) (h18 : f 18 = .int .i64 ((i : Nat) : Int)) (K : Act → World → Prop)
    (hK : ∀ (f' : Nat → Value), Same f f' [100, 99, 98] → K (Fm 309 f') (wa.setCell ⟨Lb, i, none⟩ (.bool true))) :
    Code.wp Ybaf.prog (headC (thnC (tailC (tailC b3a)))) (only K) (Fm 309 f) wa := by
  refine regN (by kernel_rfl) ?_
  refine s_ex 0 98 (.move (.tmp 17)) (v := .slice (some ⟨Lb, 0, none⟩) n n) (by kernel_rfl) (ex_mv (evN rfl h17)) ?_
  refine s_ex 1 99 (.move (.tmp 18)) (v := .int .i64 ((i : Nat) : Int)) (by kernel_rfl) (ex_mv (evN rfl h18)) ?_
  refine s_ex 2 100 (.indexAddr 23 (.tmp 98) (.tmp 99)) (v := .pointer (some ⟨Lb, i, none⟩)) (by kernel_rfl) (ex_ix (u := .slice (some ⟨Lb, 0, none⟩) n n) (i := .int .i64 ((i : Nat) : Int)) (evN rfl rfl) (evN rfl rfl) (ix23z hi)) ?_
  refine s_st 3 4 (.tmp 100) (.const (.bool true)) (p := .pointer (some ⟨Lb, i, none⟩)) (q := .bool true) (by kernel_rfl) (evN rfl rfl) rfl (st4 hc hf) ?_
  exact s_end (by kernel_rfl) (hK _  (((Same.refl.put 98 _).put 99 _).put 100 _))
set_option maxRecDepth 100000 in
set_option maxHeartbeats 400000 in
theorem m16 (D i : Nat) (wa : World) (hi : i < 100000) (R : Value → World → Prop) (hc : CallR 7 #[.pointer (some ⟨D, 0, none⟩), .int .i32 ((i : Nat) : Int), .int .i32 704] wa R) (f : Nat → Value) (h15 : f 15 = .pointer (some ⟨D, 0, none⟩)) (h18 : f 18 = .int .i64 ((i : Nat) : Int)) (K : Act → World → Prop)
    (hK : ∀ (f' : Nat → Value) (v : Value) (wx : World), Same f f' [104, 103, 102, 101] → R v wx → K (Fm 309 f') (wx)) :
    Code.wp Ybaf.prog (tailC (thnC (tailC (tailC b3a)))) (only K) (Fm 309 f) wa := by
  refine regN (by kernel_rfl) ?_
  refine s_ex 0 101 (.move (.tmp 15)) (v := .pointer (some ⟨D, 0, none⟩)) (by kernel_rfl) (ex_mv (evN rfl h15)) ?_
  refine s_ex 1 102 (.move (.tmp 18)) (v := .int .i64 ((i : Nat) : Int)) (by kernel_rfl) (ex_mv (evN rfl h18)) ?_
  refine s_ex 2 103 (.convert 3 21 (.tmp 102)) (v := .int .i32 ((i : Nat) : Int)) (by kernel_rfl) (ex_cv (u := .int .i64 ((i : Nat) : Int)) (evN rfl rfl) (cv321 (by omega))) ?_
  refine s_call 3 104 (.call { callee := .value (.func 7), args := #[(.tmp 101), (.tmp 103), (.const (.int .i32 704))], argTypes := #[28, 21, 21] }) (fn := 7) (args := #[.pointer (some ⟨D, 0, none⟩), .int .i32 ((i : Nat) : Int), .int .i32 704]) (by kernel_rfl) (ex_fn3 (cf7 _) (evN rfl rfl) (evN rfl rfl) rfl) (hc) ?_
  intro v wx hR
  exact s_end (by kernel_rfl) (hK _ v wx ((((Same.refl.put 101 _).put 102 _).put 103 _).put 104 _) hR)
set_option maxRecDepth 100000 in
set_option maxHeartbeats 400000 in
theorem m17 (a5 : Option Addr) (p c5 : Nat) (wa : World) (hp : p ≤ 1024) (f : Nat → Value) (h5 : f 5 = .slice a5 p c5) (K : Act → World → Prop)
    (hK : ∀ (f' : Nat → Value), Same f f' [19, 107, 106, 105] → f' 19 = .slice (some ⟨wa.heap.size, 0, none⟩) p p → K (Fm 309 f') (wa.alloc (.cells (madeCells #[.int .i64 0] p) 3))) :
    Code.wp Ybaf.prog (headC (dropC 9 l3)) (only K) (Fm 309 f) wa := by
  refine regN (by kernel_rfl) ?_
  refine s_ex 0 105 (.move (.tmp 5)) (v := .slice a5 p c5) (by kernel_rfl) (ex_mv (evN rfl h5)) ?_
  refine s_ex 1 106 (.call { callee := .builtin .len, args := #[(.tmp 105)], argTypes := #[26] }) (v := .int .i64 ((p : Nat) : Int)) (by kernel_rfl) (ex_len (ad := a5) (n := p) (c := c5) Ybaf.underlying26 (evN rfl rfl)) ?_
  refine s_ex 2 107 (.makeSlice 26 (.tmp 106) (.tmp 106)) (v := .slice (some ⟨wa.heap.size, 0, none⟩) p p) (by kernel_rfl) (ex_mk (u := .int .i64 ((p : Nat) : Int)) (u' := .int .i64 ((p : Nat) : Int)) (evN rfl rfl) (evN rfl rfl) (mk26 (by omega))) ?_
  refine s_ex 3 19 (.assign (.tmp 107)) (v := .slice (some ⟨wa.heap.size, 0, none⟩) p p) (by kernel_rfl) (ex_as (evN rfl rfl)) ?_
  exact s_end (by kernel_rfl) (hK _  ((((Same.refl.put 105 _).put 106 _).put 107 _).put 19 _) rfl)
set_option maxRecDepth 100000 in
set_option maxHeartbeats 400000 in
theorem m18 (E : Nat) (a5 : Option Addr) (p c5 : Nat) (wa w9 : World) (r : Value) (hr : ∀ ty, (Builtin.copy_ #[26, 26] ty #[.slice (some ⟨E, 0, none⟩) p p, .slice a5 p c5]).run Ybaf.prog wa = .ok r w9) (f : Nat → Value) (h5 : f 5 = .slice a5 p c5) (h19 : f 19 = .slice (some ⟨E, 0, none⟩) p p) (K : Act → World → Prop)
    (hK : ∀ (f' : Nat → Value), Same f f' [110, 109, 108] → K (Fm 309 f') (w9)) :
    Code.wp Ybaf.prog (headC (dropC 10 l3)) (only K) (Fm 309 f) wa := by
  refine regN (by kernel_rfl) ?_
  refine s_ex 0 108 (.move (.tmp 19)) (v := .slice (some ⟨E, 0, none⟩) p p) (by kernel_rfl) (ex_mv (evN rfl h19)) ?_
  refine s_ex 1 109 (.move (.tmp 5)) (v := .slice a5 p c5) (by kernel_rfl) (ex_mv (evN rfl h5)) ?_
  refine s_ex 2 110 (.call { callee := .builtin .copy, args := #[(.tmp 108), (.tmp 109)], argTypes := #[26, 26] }) (v := r) (by kernel_rfl) (ex_cp (u := .slice (some ⟨E, 0, none⟩) p p) (v := .slice a5 p c5) (evN rfl rfl) (evN rfl rfl) hr) ?_
  exact s_end (by kernel_rfl) (hK _  (((Same.refl.put 108 _).put 109 _).put 110 _))
set_option maxRecDepth 100000 in
set_option maxHeartbeats 400000 in
theorem m19 (D E p bd : Nat) (wa : World) (hb : bd < 4294967296) (R : Value → World → Prop) (hc : CallR 8 #[.pointer (some ⟨D, 0, none⟩), .int .i32 704, .int .u64 ((bd : Nat) : Int), .slice (some ⟨E, 0, none⟩) p p] wa R) (f : Nat → Value) (h4 : f 4 = .int .u32 ((bd : Nat) : Int)) (h15 : f 15 = .pointer (some ⟨D, 0, none⟩)) (h19 : f 19 = .slice (some ⟨E, 0, none⟩) p p) (K : Act → World → Prop)
    (hK : ∀ (f' : Nat → Value) (v : Value) (wx : World), Same f f' [20, 115, 114, 113, 112, 111] → f' 20 = v → R v wx → K (Fm 309 f') (wx)) :
    Code.wp Ybaf.prog (headC (dropC 11 l3)) (only K) (Fm 309 f) wa := by
  refine regN (by kernel_rfl) ?_
  refine s_ex 0 111 (.move (.tmp 15)) (v := .pointer (some ⟨D, 0, none⟩)) (by kernel_rfl) (ex_mv (evN rfl h15)) ?_
  refine s_ex 1 112 (.move (.tmp 4)) (v := .int .u32 ((bd : Nat) : Int)) (by kernel_rfl) (ex_mv (evN rfl h4)) ?_
  refine s_ex 2 113 (.convert 25 35 (.tmp 112)) (v := .int .u64 ((bd : Nat) : Int)) (by kernel_rfl) (ex_cv (u := .int .u32 ((bd : Nat) : Int)) (evN rfl rfl) (cv2535 hb)) ?_
  refine s_ex 3 114 (.move (.tmp 19)) (v := .slice (some ⟨E, 0, none⟩) p p) (by kernel_rfl) (ex_mv (evN rfl h19)) ?_
  refine s_call 4 115 (.call { callee := .value (.func 8), args := #[(.tmp 111), (.const (.int .i32 704)), (.tmp 113), (.tmp 114)], argTypes := #[28, 21, 35, 26] }) (fn := 8) (args := #[.pointer (some ⟨D, 0, none⟩), .int .i32 704, .int .u64 ((bd : Nat) : Int), .slice (some ⟨E, 0, none⟩) p p]) (by kernel_rfl) (ex_fn4 (cf8 _) (evN rfl rfl) rfl (evN rfl rfl) (evN rfl rfl)) (hc) ?_
  intro v wx hR
  refine s_ex 5 20 (.assign (.tmp 115)) (v := v) (by kernel_rfl) (ex_as (evN rfl rfl)) ?_
  exact s_end (by kernel_rfl) (hK _ v wx ((((((Same.refl.put 111 _).put 112 _).put 113 _).put 114 _).put 115 _).put 20 _) rfl hR)
set_option maxRecDepth 100000 in
set_option maxHeartbeats 400000 in
theorem m20 (n : Nat) (wa : World) (hn : n ≤ 300) (f : Nat → Value) (h14 : f 14 = .int .i64 ((n : Nat) : Int)) (K : Act → World → Prop)
    (hK : ∀ (f' : Nat → Value), Same f f' [21, 117, 116] → f' 21 = .slice (some ⟨wa.heap.size, 0, none⟩) 0 n → K (Fm 309 f') (wa.alloc (.cells (madeCells #[.int .i64 0] n) 3))) :
    Code.wp Ybaf.prog (headC (dropC 12 l3)) (only K) (Fm 309 f) wa := by
  refine regN (by kernel_rfl) ?_
  refine s_ex 0 116 (.move (.tmp 14)) (v := .int .i64 ((n : Nat) : Int)) (by kernel_rfl) (ex_mv (evN rfl h14)) ?_
  refine s_ex 1 117 (.makeSlice 26 (.const (.int .i64 0)) (.tmp 116)) (v := .slice (some ⟨wa.heap.size, 0, none⟩) 0 n) (by kernel_rfl) (ex_mk (u := .int .i64 0) (u' := .int .i64 ((n : Nat) : Int)) rfl (evN rfl rfl) (mk26c (by omega))) ?_
  refine s_ex 2 21 (.assign (.tmp 117)) (v := .slice (some ⟨wa.heap.size, 0, none⟩) 0 n) (by kernel_rfl) (ex_as (evN rfl rfl)) ?_
  exact s_end (by kernel_rfl) (hK _  (((Same.refl.put 116 _).put 117 _).put 21 _) rfl)
set_option maxRecDepth 100000 in
set_option maxHeartbeats 400000 in
theorem m21 (wa : World) (f : Nat → Value)  (K : Act → World → Prop)
    (hK : ∀ (f' : Nat → Value), Same f f' [22] → f' 22 = .int .i64 ((0 : Nat) : Int) → K (Fm 309 f') (wa)) :
    Code.wp Ybaf.prog (headC (headC (dropC 13 l3))) (only K) (Fm 309 f) wa := by
  refine regN (by kernel_rfl) ?_
  refine s_ex 0 22 (.assign (.const (.int .i64 0))) (v := .int .i64 0) (by kernel_rfl) (ex_as rfl) ?_
  exact s_end (by kernel_rfl) (hK _  (Same.refl.put 22 _) rfl)
set_option maxRecDepth 100000 in
set_option maxHeartbeats 400000 in
theorem m22 (i n : Nat) (wa : World) (f : Nat → Value) (h14 : f 14 = .int .i64 ((n : Nat) : Int)) (h22 : f 22 = .int .i64 ((i : Nat) : Int)) (K : Act → World → Prop)
    (hK : ∀ (f' : Nat → Value), Same f f' [120, 119, 118] → f' 120 = .bool (decide (((i : Nat) : Int) < ((n : Nat) : Int))) → K (Fm 309 f') (wa)) :
    Code.wp Ybaf.prog (headC (headC l3b)) (only K) (Fm 309 f) wa := by
  refine regN (by kernel_rfl) ?_
  refine s_ex 0 118 (.move (.tmp 22)) (v := .int .i64 ((i : Nat) : Int)) (by kernel_rfl) (ex_mv (evN rfl h22)) ?_
  refine s_ex 1 119 (.move (.tmp 14)) (v := .int .i64 ((n : Nat) : Int)) (by kernel_rfl) (ex_mv (evN rfl h14)) ?_
  refine s_ex 2 120 (.binOp .lss 3 (.tmp 118) (.tmp 119) 3) (v := .bool (decide (((i : Nat) : Int) < ((n : Nat) : Int)))) (by kernel_rfl) (ex_bn (u := .int .i64 ((i : Nat) : Int)) (u' := .int .i64 ((n : Nat) : Int)) (evN rfl rfl) (evN rfl rfl) (lssI rfl)) ?_
  exact s_end (by kernel_rfl) (hK _  (((Same.refl.put 118 _).put 119 _).put 120 _) rfl)
set_option maxRecDepth 100000 in
set_option maxHeartbeats 400000 in
theorem m23 (i : Nat) (wa : World) (hi : i < 100000) (f : Nat → Value) (h22 : f 22 = .int .i64 ((i : Nat) : Int)) (K : Act → World → Prop)
    (hK : ∀ (f' : Nat → Value), Same f f' [22, 122, 121] → f' 22 = .int .i64 (((i : Nat) : Int) + 1) → K (Fm 309 f') (wa)) :
    Code.wp Ybaf.prog (dropC 2 l3b) (only K) (Fm 309 f) wa := by
  refine regN (by kernel_rfl) ?_
  refine s_ex 0 121 (.move (.tmp 22)) (v := .int .i64 ((i : Nat) : Int)) (by kernel_rfl) (ex_mv (evN rfl h22)) ?_
  refine s_ex 1 122 (.binOp .add 3 (.tmp 121) (.const (.int .i64 1)) 3) (v := .int .i64 (((i : Nat) : Int) + 1)) (by kernel_rfl) (ex_bn (u := .int .i64 ((i : Nat) : Int)) (u' := .int .i64 1) (evN rfl rfl) rfl (addI rfl (by omega) (by omega))) ?_
  refine s_ex 2 22 (.assign (.tmp 122)) (v := .int .i64 (((i : Nat) : Int) + 1)) (by kernel_rfl) (ex_as (evN rfl rfl)) ?_
  exact s_end (by kernel_rfl) (hK _  (((Same.refl.put 121 _).put 122 _).put 22 _) rfl)
set_option maxRecDepth 100000 in
set_option maxHeartbeats 400000 in
theorem m24f (Lb n i : Nat) (wa : World) (hi : i < n) (hb : wa.cell? ⟨Lb, i, none⟩ = some (.bool false)) (f : Nat → Value) (h17 : f 17 = .slice (some ⟨Lb, 0, none⟩) n n) (h22 : f 22 = .int .i64 ((i : Nat) : Int)) (K : Act → World → Prop)
    (hK : ∀ (f' : Nat → Value), Same f f' [137, 136, 135, 134, 133, 132, 131, 130, 129, 128, 127, 126, 125, 124, 123] → f' 137 = .bool false → K (Fm 309 f') (wa)) :
    Code.wp Ybaf.prog (headC b3b) (only K) (Fm 309 f) wa := by
  refine regN (by kernel_rfl) ?_
  refine s_ex 0 123 (.move (.tmp 17)) (v := .slice (some ⟨Lb, 0, none⟩) n n) (by kernel_rfl) (ex_mv (evN rfl h17)) ?_
  refine s_ex 1 124 (.move (.tmp 22)) (v := .int .i64 ((i : Nat) : Int)) (by kernel_rfl) (ex_mv (evN rfl h22)) ?_
  refine s_ex 2 125 (.indexAddr 23 (.tmp 123) (.tmp 124)) (v := .pointer (some ⟨Lb, i, none⟩)) (by kernel_rfl) (ex_ix (u := .slice (some ⟨Lb, 0, none⟩) n n) (i := .int .i64 ((i : Nat) : Int)) (evN rfl rfl) (evN rfl rfl) (ix23z hi)) ?_
  refine s_ex 3 126 (.load 4 (.tmp 125)) (v := .bool false) (by kernel_rfl) (ex_ld (u := .pointer (some ⟨Lb, i, none⟩)) (evN rfl rfl) (ld4 hb)) ?_
  refine s_ex 4 127 (.move (.tmp 126)) (v := .bool false) (by kernel_rfl) (ex_mv (evN rfl rfl)) ?_
  refine s_no 5 128 4 127 true (.move (.tmp 0)) (by kernel_rfl) (by kernel_rfl) (by rfl) (by rfl) ?_
  refine s_no 6 129 4 127 true (.move (.tmp 22)) (by kernel_rfl) (by kernel_rfl) (by rfl) (by rfl) ?_
  refine s_no 7 130 4 127 true (.indexAddr 22 (.tmp 128) (.tmp 129)) (by kernel_rfl) (by kernel_rfl) (by rfl) (by rfl) ?_
  refine s_no 8 131 4 127 true (.load 25 (.tmp 130)) (by kernel_rfl) (by kernel_rfl) (by rfl) (by rfl) ?_
  refine s_no 9 132 4 127 true (.move (.tmp 13)) (by kernel_rfl) (by kernel_rfl) (by rfl) (by rfl) ?_
  refine s_no 10 133 4 127 true (.call { callee := .value (.func 9), args := #[(.tmp 131), (.tmp 132)], argTypes := #[25, 27] }) (by kernel_rfl) (by kernel_rfl) (by rfl) (by rfl) ?_
  refine s_no 11 134 4 127 true (.move (.tmp 4)) (by kernel_rfl) (by kernel_rfl) (by rfl) (by rfl) ?_
  refine s_no 12 135 4 127 true (.convert 25 35 (.tmp 134)) (by kernel_rfl) (by kernel_rfl) (by rfl) (by rfl) ?_
  refine s_no 13 136 4 127 true (.binOp .lss 35 (.tmp 133) (.tmp 135) 35) (by kernel_rfl) (by kernel_rfl) (by rfl) (by rfl) ?_
  refine s_ex 14 137 (.pick (.tmp 127) (.tmp 136) (.const (.bool false))) (v := .bool false) (by kernel_rfl) (ex_pickf (evN rfl rfl) rfl) ?_
  exact s_end (by kernel_rfl) (hK _  (((((((((((((((Same.refl.put 123 _).put 124 _).put 125 _).put 126 _).put 127 _).put 128 _).put 129 _).put 130 _).put 131 _).put 132 _).put 133 _).put 134 _).put 135 _).put 136 _).put 137 _) rfl)
set_option maxRecDepth 100000 in
set_option maxHeartbeats 400000 in
theorem m24t (Lb ab ao n c0 i dl g bd : Nat) (wa : World) (hi : i < n) (hg : 1 ≤ g) (hg2 : g ≤ 1000) (hdl : dl < 4294967296) (hbd : bd < 4294967296) (hb : wa.cell? ⟨Lb, i, none⟩ = some (.bool true)) (ha : wa.cell? ⟨ab, ao + i, none⟩ = some (.int .u32 ((dl : Nat) : Int))) (f : Nat → Value) (h0 : f 0 = .slice (some ⟨ab, ao, none⟩) n c0) (h4 : f 4 = .int .u32 ((bd : Nat) : Int)) (h13 : f 13 = .int .i64 ((g : Nat) : Int)) (h17 : f 17 = .slice (some ⟨Lb, 0, none⟩) n n) (h22 : f 22 = .int .i64 ((i : Nat) : Int)) (K : Act → World → Prop)
    (hK : ∀ (f' : Nat → Value), Same f f' [137, 136, 135, 134, 133, 132, 131, 130, 129, 128, 127, 126, 125, 124, 123] → f' 137 = .bool (decide (((tck dl g : Nat) : Int) < ((bd : Nat) : Int))) → K (Fm 309 f') (wa)) :
    Code.wp Ybaf.prog (headC b3b) (only K) (Fm 309 f) wa := by
  refine regN (by kernel_rfl) ?_
  refine s_ex 0 123 (.move (.tmp 17)) (v := .slice (some ⟨Lb, 0, none⟩) n n) (by kernel_rfl) (ex_mv (evN rfl h17)) ?_
  refine s_ex 1 124 (.move (.tmp 22)) (v := .int .i64 ((i : Nat) : Int)) (by kernel_rfl) (ex_mv (evN rfl h22)) ?_
  refine s_ex 2 125 (.indexAddr 23 (.tmp 123) (.tmp 124)) (v := .pointer (some ⟨Lb, i, none⟩)) (by kernel_rfl) (ex_ix (u := .slice (some ⟨Lb, 0, none⟩) n n) (i := .int .i64 ((i : Nat) : Int)) (evN rfl rfl) (evN rfl rfl) (ix23z hi)) ?_
  refine s_ex 3 126 (.load 4 (.tmp 125)) (v := .bool true) (by kernel_rfl) (ex_ld (u := .pointer (some ⟨Lb, i, none⟩)) (evN rfl rfl) (ld4 hb)) ?_
  refine s_ex 4 127 (.move (.tmp 126)) (v := .bool true) (by kernel_rfl) (ex_mv (evN rfl rfl)) ?_
  refine s_g 5 128 4 127 true (.move (.tmp 0)) (v := .slice (some ⟨ab, ao, none⟩) n c0) (by kernel_rfl) (by kernel_rfl) (by rfl) (by rfl) (ex_mv (evN rfl h0)) ?_
  refine s_g 6 129 4 127 true (.move (.tmp 22)) (v := .int .i64 ((i : Nat) : Int)) (by kernel_rfl) (by kernel_rfl) (by rfl) (by rfl) (ex_mv (evN rfl h22)) ?_
  refine s_g 7 130 4 127 true (.indexAddr 22 (.tmp 128) (.tmp 129)) (v := .pointer (some ⟨ab, ao + i, none⟩)) (by kernel_rfl) (by kernel_rfl) (by rfl) (by rfl) (ex_ix (u := .slice (some ⟨ab, ao, none⟩) n c0) (i := .int .i64 ((i : Nat) : Int)) (evN rfl rfl) (evN rfl rfl) (ix22 hi)) ?_
  refine s_g 8 131 4 127 true (.load 25 (.tmp 130)) (v := .int .u32 ((dl : Nat) : Int)) (by kernel_rfl) (by kernel_rfl) (by rfl) (by rfl) (ex_ld (u := .pointer (some ⟨ab, ao + i, none⟩)) (evN rfl rfl) (ld25 ha)) ?_
  refine s_g 9 132 4 127 true (.move (.tmp 13)) (v := .int .i64 ((g : Nat) : Int)) (by kernel_rfl) (by kernel_rfl) (by rfl) (by rfl) (ex_mv (evN rfl h13)) ?_
  refine s_gc 10 133 4 127 true (.call { callee := .value (.func 9), args := #[(.tmp 131), (.tmp 132)], argTypes := #[25, 27] }) (fn := 9) (args := #[.int .u32 ((dl : Nat) : Int), .int .i64 ((g : Nat) : Int)]) (by kernel_rfl) (by kernel_rfl) (by rfl) (by rfl) (ex_fn2 (cf9 _) (evN rfl rfl) (evN rfl rfl)) (btickR hg hg2 hdl) ?_
  rintro _ _ ⟨rfl, rfl⟩
  refine s_g 11 134 4 127 true (.move (.tmp 4)) (v := .int .u32 ((bd : Nat) : Int)) (by kernel_rfl) (by kernel_rfl) (by rfl) (by rfl) (ex_mv (evN rfl h4)) ?_
  refine s_g 12 135 4 127 true (.convert 25 35 (.tmp 134)) (v := .int .u64 ((bd : Nat) : Int)) (by kernel_rfl) (by kernel_rfl) (by rfl) (by rfl) (ex_cv (u := .int .u32 ((bd : Nat) : Int)) (evN rfl rfl) (cv2535 hbd)) ?_
  refine s_g 13 136 4 127 true (.binOp .lss 35 (.tmp 133) (.tmp 135) 35) (v := .bool (decide (((tck dl g : Nat) : Int) < ((bd : Nat) : Int)))) (by kernel_rfl) (by kernel_rfl) (by rfl) (by rfl) (ex_bn (u := .int .u64 ((tck dl g : Nat) : Int)) (u' := .int .u64 ((bd : Nat) : Int)) (evN rfl rfl) (evN rfl rfl) (lssV rfl)) ?_
  refine s_ex 14 137 (.pick (.tmp 127) (.tmp 136) (.const (.bool false))) (v := .bool (decide (((tck dl g : Nat) : Int) < ((bd : Nat) : Int)))) (by kernel_rfl) (ex_pickt (evN rfl rfl) (evN rfl rfl)) ?_
  exact s_end (by kernel_rfl) (hK _  (((((((((((((((Same.refl.put 123 _).put 124 _).put 125 _).put 126 _).put 127 _).put 128 _).put 129 _).put 130 _).put 131 _).put 132 _).put 133 _).put 134 _).put 135 _).put 136 _).put 137 _) rfl)
set_option maxRecDepth 100000 in
set_option maxHeartbeats 400000 in
theorem m25 (Wb wl wc i : Nat) (xs : List Value) (wa : World) (hm : wl ≤ 900) (hown : wa.ownsRow 0 3 1 (.slice (some ⟨Wb, 0, none⟩) wl wc) wl xs) (f : Nat → Value) (h21 : f 21 = .slice (some ⟨Wb, 0, none⟩) wl wc) (h22 : f 22 = .int .i64 ((i : Nat) : Int)) (K : Act → World → Prop)
    (hK : ∀ (f' : Nat → Value) (G2 cap2 : Nat) (w2 : World), Same f f' [21, 141, 140, 139, 138] → f' 21 = .slice (some ⟨G2, 0, none⟩) (wl + 1) cap2 → w2.ownsRow 0 3 1 (.slice (some ⟨G2, 0, none⟩) (wl + 1) cap2) (wl + 1) (xs ++ [.int .i64 ((i : Nat) : Int)]) → (wa.alloc (.cells #[.int .i64 ((i : Nat) : Int)] 3)).grownBy w2 (some Wb) → (G2 = Wb ∨ G2 = (wa.alloc (.cells #[.int .i64 ((i : Nat) : Int)] 3)).heap.size) → G2 < w2.heap.size → K (Fm 309 f') (w2)) :
    Code.wp Ybaf.prog (thnC (tailC b3b)) (only K) (Fm 309 f) wa := by
  refine regN (by kernel_rfl) ?_
  refine s_ex 0 138 (.move (.tmp 21)) (v := .slice (some ⟨Wb, 0, none⟩) wl wc) (by kernel_rfl) (ex_mv (evN rfl h21)) ?_
  refine s_ex 1 139 (.move (.tmp 22)) (v := .int .i64 ((i : Nat) : Int)) (by kernel_rfl) (ex_mv (evN rfl h22)) ?_
  refine s_ex 2 140 (.buildSlice 26 1 #[(0, (.tmp 139))]) (v := .slice (some ⟨wa.heap.size, 0, none⟩) 1 1) (by kernel_rfl) (ex_bs (u := .int .i64 ((i : Nat) : Int)) (evN rfl rfl) (bs26)) ?_
  refine s_app 3 141 138 140 (by kernel_rfl) rfl rfl 0 (.slice (some ⟨Wb, 0, none⟩) wl wc) wl xs (by rfl) (own_al hown) ⟨wa.heap.size, 0, none⟩ 1 1 [.int .i64 ((i : Nat) : Int)] (by rfl) rfl (news1 _ _) (by intro u hu; simp at hu; subst hu; rfl) (by omega) (by omega) (Nat.zero_le _) ?_
  intro G2 cap2 w2 q1 q2 q3 q4
  refine s_ex 4 21 (.assign (.tmp 141)) (v := .slice (some ⟨G2, 0, none⟩) (wl + 1) cap2) (by kernel_rfl) (ex_as (evN rfl rfl)) ?_
  exact s_end (by kernel_rfl) (hK _ G2 cap2 w2 (((((Same.refl.put 138 _).put 139 _).put 140 _).put 141 _).put 21 _) rfl q1 q2 (q3.imp (fun h => (Option.some.inj h).symm) id) q4)
set_option maxRecDepth 100000 in
set_option maxHeartbeats 400000 in
theorem m26 (wa : World) (f : Nat → Value)  (K : Act → World → Prop)
    (hK : ∀ (f' : Nat → Value), Same f f' [23] → f' 23 = .int .i64 ((1 : Nat) : Int) → K (Fm 309 f') (wa)) :
    Code.wp Ybaf.prog (headC (headC (dropC 14 l3))) (only K) (Fm 309 f) wa := by
  refine regN (by kernel_rfl) ?_
  refine s_ex 0 23 (.assign (.const (.int .i64 1))) (v := .int .i64 1) (by kernel_rfl) (ex_as rfl) ?_
  exact s_end (by kernel_rfl) (hK _  (Same.refl.put 23 _) rfl)
set_option maxRecDepth 100000 in
set_option maxHeartbeats 400000 in
theorem m27 (j Wb wl wc : Nat) (wa : World) (f : Nat → Value) (h21 : f 21 = .slice (some ⟨Wb, 0, none⟩) wl wc) (h23 : f 23 = .int .i64 ((j : Nat) : Int)) (K : Act → World → Prop)
    (hK : ∀ (f' : Nat → Value), Same f f' [145, 144, 143, 142] → f' 145 = .bool (decide (((j : Nat) : Int) < ((wl : Nat) : Int))) → K (Fm 309 f') (wa)) :
    Code.wp Ybaf.prog (headC (headC l3c)) (only K) (Fm 309 f) wa := by
  refine regN (by kernel_rfl) ?_
  refine s_ex 0 142 (.move (.tmp 23)) (v := .int .i64 ((j : Nat) : Int)) (by kernel_rfl) (ex_mv (evN rfl h23)) ?_
  refine s_ex 1 143 (.move (.tmp 21)) (v := .slice (some ⟨Wb, 0, none⟩) wl wc) (by kernel_rfl) (ex_mv (evN rfl h21)) ?_
  refine s_ex 2 144 (.call { callee := .builtin .len, args := #[(.tmp 143)], argTypes := #[26] }) (v := .int .i64 ((wl : Nat) : Int)) (by kernel_rfl) (ex_len (ad := (some ⟨Wb, 0, none⟩)) (n := wl) (c := wc) Ybaf.underlying26 (evN rfl rfl)) ?_
  refine s_ex 3 145 (.binOp .lss 3 (.tmp 142) (.tmp 144) 3) (v := .bool (decide (((j : Nat) : Int) < ((wl : Nat) : Int)))) (by kernel_rfl) (ex_bn (u := .int .i64 ((j : Nat) : Int)) (u' := .int .i64 ((wl : Nat) : Int)) (evN rfl rfl) (evN rfl rfl) (lssI rfl)) ?_
  exact s_end (by kernel_rfl) (hK _  ((((Same.refl.put 142 _).put 143 _).put 144 _).put 145 _) rfl)
set_option maxRecDepth 100000 in
set_option maxHeartbeats 400000 in
theorem m28 (j : Nat) (wa : World) (hj : j < 100000) (f : Nat → Value) (h23 : f 23 = .int .i64 ((j : Nat) : Int)) (K : Act → World → Prop)
    (hK : ∀ (f' : Nat → Value), Same f f' [23, 147, 146] → f' 23 = .int .i64 (((j : Nat) : Int) + 1) → K (Fm 309 f') (wa)) :
    Code.wp Ybaf.prog (dropC 2 l3c) (only K) (Fm 309 f) wa := by
  refine regN (by kernel_rfl) ?_
  refine s_ex 0 146 (.move (.tmp 23)) (v := .int .i64 ((j : Nat) : Int)) (by kernel_rfl) (ex_mv (evN rfl h23)) ?_
  refine s_ex 1 147 (.binOp .add 3 (.tmp 146) (.const (.int .i64 1)) 3) (v := .int .i64 (((j : Nat) : Int) + 1)) (by kernel_rfl) (ex_bn (u := .int .i64 ((j : Nat) : Int)) (u' := .int .i64 1) (evN rfl rfl) rfl (addI rfl (by omega) (by omega))) ?_
  refine s_ex 2 23 (.assign (.tmp 147)) (v := .int .i64 (((j : Nat) : Int) + 1)) (by kernel_rfl) (ex_as (evN rfl rfl)) ?_
  exact s_end (by kernel_rfl) (hK _  (((Same.refl.put 146 _).put 147 _).put 23 _) rfl)
set_option maxRecDepth 100000 in
set_option maxHeartbeats 400000 in
theorem m29 (j : Nat) (wa : World) (f : Nat → Value) (h23 : f 23 = .int .i64 ((j : Nat) : Int)) (K : Act → World → Prop)
    (hK : ∀ (f' : Nat → Value), Same f f' [24, 148] → f' 24 = .int .i64 ((j : Nat) : Int) → K (Fm 309 f') (wa)) :
    Code.wp Ybaf.prog (headC b3c) (only K) (Fm 309 f) wa := by
  refine regN (by kernel_rfl) ?_
  refine s_ex 0 148 (.move (.tmp 23)) (v := .int .i64 ((j : Nat) : Int)) (by kernel_rfl) (ex_mv (evN rfl h23)) ?_
  refine s_ex 1 24 (.assign (.tmp 148)) (v := .int .i64 ((j : Nat) : Int)) (by kernel_rfl) (ex_as (evN rfl rfl)) ?_
  exact s_end (by kernel_rfl) (hK _  ((Same.refl.put 148 _).put 24 _) rfl)
set_option maxRecDepth 100000 in
set_option maxHeartbeats 400000 in
theorem m30 (k : Nat) (wa : World) (f : Nat → Value) (h24 : f 24 = .int .i64 ((k : Nat) : Int)) (K : Act → World → Prop)
    (hK : ∀ (f' : Nat → Value), Same f f' [150, 149] → f' 150 = .bool (decide (0 < ((k : Nat) : Int))) → K (Fm 309 f') (wa)) :
    Code.wp Ybaf.prog (headC (headC l3d)) (only K) (Fm 309 f) wa := by
  refine regN (by kernel_rfl) ?_
  refine s_ex 0 149 (.move (.tmp 24)) (v := .int .i64 ((k : Nat) : Int)) (by kernel_rfl) (ex_mv (evN rfl h24)) ?_
  refine s_ex 1 150 (.binOp .gtr 3 (.tmp 149) (.const (.int .i64 0)) 3) (v := .bool (decide (0 < ((k : Nat) : Int)))) (by kernel_rfl) (ex_bn (u := .int .i64 ((k : Nat) : Int)) (u' := .int .i64 0) (evN rfl rfl) rfl (gtrI rfl)) ?_
  exact s_end (by kernel_rfl) (hK _  ((Same.refl.put 149 _).put 150 _) rfl)
set_option maxRecDepth 100000 in
set_option maxHeartbeats 400000 in
theorem m31 (Wb wl wc k : Nat) (a : Value) (wa : World) (hk : k < wl) (ha : wa.cell? ⟨Wb, k, none⟩ = some a) (f : Nat → Value) (h21 : f 21 = .slice (some ⟨Wb, 0, none⟩) wl wc) (h24 : f 24 = .int .i64 ((k : Nat) : Int)) (K : Act → World → Prop)
    (hK : ∀ (f' : Nat → Value), Same f f' [25, 154, 153, 152, 151] → f' 25 = a → K (Fm 309 f') (wa)) :
    Code.wp Ybaf.prog (headC b3d) (only K) (Fm 309 f) wa := by
  refine regN (by kernel_rfl) ?_
  refine s_ex 0 151 (.move (.tmp 21)) (v := .slice (some ⟨Wb, 0, none⟩) wl wc) (by kernel_rfl) (ex_mv (evN rfl h21)) ?_
  refine s_ex 1 152 (.move (.tmp 24)) (v := .int .i64 ((k : Nat) : Int)) (by kernel_rfl) (ex_mv (evN rfl h24)) ?_
  refine s_ex 2 153 (.indexAddr 26 (.tmp 151) (.tmp 152)) (v := .pointer (some ⟨Wb, k, none⟩)) (by kernel_rfl) (ex_ix (u := .slice (some ⟨Wb, 0, none⟩) wl wc) (i := .int .i64 ((k : Nat) : Int)) (evN rfl rfl) (evN rfl rfl) (ix26z hk)) ?_
  refine s_ex 3 154 (.load 3 (.tmp 153)) (v := a) (by kernel_rfl) (ex_ld (u := .pointer (some ⟨Wb, k, none⟩)) (evN rfl rfl) (ld3 ha)) ?_
  refine s_ex 4 25 (.assign (.tmp 154)) (v := a) (by kernel_rfl) (ex_as (evN rfl rfl)) ?_
  exact s_end (by kernel_rfl) (hK _  (((((Same.refl.put 151 _).put 152 _).put 153 _).put 154 _).put 25 _) rfl)
set_option maxRecDepth 100000 in
set_option maxHeartbeats 400000 in
theorem m32 (Wb wl wc k : Nat) (a : Value) (wa : World) (hk : k + 1 < wl) (hl : wl ≤ 1000) (ha : wa.cell? ⟨Wb, k, none⟩ = some a) (f : Nat → Value) (h21 : f 21 = .slice (some ⟨Wb, 0, none⟩) wl wc) (h24 : f 24 = .int .i64 ((k + 1 : Nat) : Int)) (K : Act → World → Prop)
    (hK : ∀ (f' : Nat → Value), Same f f' [26, 159, 158, 157, 156, 155] → f' 26 = a → K (Fm 309 f') (wa)) :
    Code.wp Ybaf.prog (headC (dropC 1 b3d)) (only K) (Fm 309 f) wa := by
  refine regN (by kernel_rfl) ?_
  refine s_ex 0 155 (.move (.tmp 21)) (v := .slice (some ⟨Wb, 0, none⟩) wl wc) (by kernel_rfl) (ex_mv (evN rfl h21)) ?_
  refine s_ex 1 156 (.move (.tmp 24)) (v := .int .i64 ((k + 1 : Nat) : Int)) (by kernel_rfl) (ex_mv (evN rfl h24)) ?_
  refine s_ex 2 157 (.binOp .sub 3 (.tmp 156) (.const (.int .i64 1)) 3) (v := .int .i64 ((k : Nat) : Int)) (by kernel_rfl) (ex_bn (u := .int .i64 ((k + 1 : Nat) : Int)) (u' := .int .i64 1) (evN rfl rfl) rfl (subI (by omega) (by omega) (by omega))) ?_
  refine s_ex 3 158 (.indexAddr 26 (.tmp 155) (.tmp 157)) (v := .pointer (some ⟨Wb, k, none⟩)) (by kernel_rfl) (ex_ix (u := .slice (some ⟨Wb, 0, none⟩) wl wc) (i := .int .i64 ((k : Nat) : Int)) (evN rfl rfl) (evN rfl rfl) (ix26z (by omega))) ?_
  refine s_ex 4 159 (.load 3 (.tmp 158)) (v := a) (by kernel_rfl) (ex_ld (u := .pointer (some ⟨Wb, k, none⟩)) (evN rfl rfl) (ld3 ha)) ?_
  refine s_ex 5 26 (.assign (.tmp 159)) (v := a) (by kernel_rfl) (ex_as (evN rfl rfl)) ?_
  exact s_end (by kernel_rfl) (hK _  ((((((Same.refl.put 155 _).put 156 _).put 157 _).put 158 _).put 159 _).put 26 _) rfl)
set_option maxRecDepth 100000 in
set_option maxHeartbeats 400000 in
theorem m33l (ab ao n c0 a b da db : Nat) (wa : World) (ha : a < n) (hb : b < n) (ca : wa.cell? ⟨ab, ao + a, none⟩ = some (.int .u32 ((da : Nat) : Int))) (cb : wa.cell? ⟨ab, ao + b, none⟩ = some (.int .u32 ((db : Nat) : Int))) (h : da < db) (f : Nat → Value) (h0 : f 0 = .slice (some ⟨ab, ao, none⟩) n c0) (h25 : f 25 = .int .i64 ((a : Nat) : Int)) (h26 : f 26 = .int .i64 ((b : Nat) : Int)) (K : Act → World → Prop)
    (hK : ∀ (f' : Nat → Value) (nq : Nat), Same f f' [184, 183, 182, 181, 180, 179, 178, 177, 176, 175, 174, 173, 172, 171, 170, 169, 168, 167, 166, 165, 164, 163, 162, 161, 160] → f' 184 = .bool true → K (Fm 309 f') (wa.drewN nq)) :
    Code.wp Ybaf.prog (headC (dropC 2 b3d)) (only K) (Fm 309 f) wa := by
  refine regQ (by kernel_rfl) (by kernel_rfl) ?_
  refine q_ex 0 160 (.move (.tmp 0)) (v := .slice (some ⟨ab, ao, none⟩) n c0) (by kernel_rfl) (fun nq => (ex_mv (evN rfl h0))) ?_
  refine q_ex 1 161 (.move (.tmp 25)) (v := .int .i64 ((a : Nat) : Int)) (by kernel_rfl) (fun nq => (ex_mv (evN rfl h25))) ?_
  refine q_ex 2 162 (.indexAddr 22 (.tmp 160) (.tmp 161)) (v := .pointer (some ⟨ab, ao + a, none⟩)) (by kernel_rfl) (fun nq => (ex_ix (u := .slice (some ⟨ab, ao, none⟩) n c0) (i := .int .i64 ((a : Nat) : Int)) (evN rfl rfl) (evN rfl rfl) (ix22 ha))) ?_
  refine q_ex 3 163 (.load 25 (.tmp 162)) (v := .int .u32 ((da : Nat) : Int)) (by kernel_rfl) (fun nq => (ex_ld (u := .pointer (some ⟨ab, ao + a, none⟩)) (evN rfl rfl) (ld25 (w := (wa.drewN nq)) ca))) ?_
  refine q_ex 4 164 (.move (.tmp 0)) (v := .slice (some ⟨ab, ao, none⟩) n c0) (by kernel_rfl) (fun nq => (ex_mv (evN rfl h0))) ?_
  refine q_ex 5 165 (.move (.tmp 26)) (v := .int .i64 ((b : Nat) : Int)) (by kernel_rfl) (fun nq => (ex_mv (evN rfl h26))) ?_
  refine q_ex 6 166 (.indexAddr 22 (.tmp 164) (.tmp 165)) (v := .pointer (some ⟨ab, ao + b, none⟩)) (by kernel_rfl) (fun nq => (ex_ix (u := .slice (some ⟨ab, ao, none⟩) n c0) (i := .int .i64 ((b : Nat) : Int)) (evN rfl rfl) (evN rfl rfl) (ix22 hb))) ?_
  refine q_ex 7 167 (.load 25 (.tmp 166)) (v := .int .u32 ((db : Nat) : Int)) (by kernel_rfl) (fun nq => (ex_ld (u := .pointer (some ⟨ab, ao + b, none⟩)) (evN rfl rfl) (ld25 (w := (wa.drewN nq)) cb))) ?_
  refine q_ex 8 168 (.binOp .lss 25 (.tmp 163) (.tmp 167) 25) (v := .bool true) (by kernel_rfl) (fun nq => (ex_bn (u := .int .u32 ((da : Nat) : Int)) (u' := .int .u32 ((db : Nat) : Int)) (evN rfl rfl) (evN rfl rfl) (lss25 (decide_eq_true (by omega))))) ?_
  refine q_ex 9 169 (.move (.tmp 168)) (v := .bool true) (by kernel_rfl) (fun nq => (ex_mv (evN rfl rfl))) ?_
  refine q_no 10 170 9 169 false (.move (.tmp 0)) (by kernel_rfl) (by kernel_rfl) (by rfl) (by rfl) ?_
  refine q_no 11 171 9 169 false (.move (.tmp 25)) (by kernel_rfl) (by kernel_rfl) (by rfl) (by rfl) ?_
  refine q_no 12 172 9 169 false (.indexAddr 22 (.tmp 170) (.tmp 171)) (by kernel_rfl) (by kernel_rfl) (by rfl) (by rfl) ?_
  refine q_no 13 173 9 169 false (.load 25 (.tmp 172)) (by kernel_rfl) (by kernel_rfl) (by rfl) (by rfl) ?_
  refine q_no 14 174 9 169 false (.move (.tmp 0)) (by kernel_rfl) (by kernel_rfl) (by rfl) (by rfl) ?_
  refine q_no 15 175 9 169 false (.move (.tmp 26)) (by kernel_rfl) (by kernel_rfl) (by rfl) (by rfl) ?_
  refine q_no 16 176 9 169 false (.indexAddr 22 (.tmp 174) (.tmp 175)) (by kernel_rfl) (by kernel_rfl) (by rfl) (by rfl) ?_
  refine q_no 17 177 9 169 false (.load 25 (.tmp 176)) (by kernel_rfl) (by kernel_rfl) (by rfl) (by rfl) ?_
  refine q_no 18 178 9 169 false (.binOp .eql 25 (.tmp 173) (.tmp 177) 25) (by kernel_rfl) (by kernel_rfl) (by rfl) (by rfl) ?_
  refine q_no 19 179 9 169 false (.move (.tmp 178)) (by kernel_rfl) (by kernel_rfl) (by rfl) (by rfl) ?_
  refine q_nu 20 180 19 179 true (.move (.tmp 25)) (by kernel_rfl) (by kernel_rfl) (by rfl) (by rfl) ?_
  refine q_nu 21 181 19 179 true (.move (.tmp 26)) (by kernel_rfl) (by kernel_rfl) (by rfl) (by rfl) ?_
  refine q_nu 22 182 19 179 true (.binOp .lss 3 (.tmp 180) (.tmp 181) 3) (by kernel_rfl) (by kernel_rfl) (by rfl) (by rfl) ?_
  refine q_no 23 183 9 169 false (.pick (.tmp 179) (.tmp 182) (.const (.bool false))) (by kernel_rfl) (by kernel_rfl) (by rfl) (by rfl) ?_
  refine q_ex 24 184 (.pick (.tmp 169) (.const (.bool true)) (.tmp 183)) (v := .bool true) (by kernel_rfl) (fun nq => (ex_pickt (evN rfl rfl) rfl)) ?_
  exact q_end (by kernel_rfl) (fun nq => hK _ nq (((((((((((((((((((((((((Same.refl.put 160 _).put 161 _).put 162 _).put 163 _).put 164 _).put 165 _).put 166 _).put 167 _).put 168 _).put 169 _).put 170 _).put 171 _).put 172 _).put 173 _).put 174 _).put 175 _).put 176 _).put 177 _).put 178 _).put 179 _).put 180 _).put 181 _).put 182 _).put 183 _).put 184 _) rfl)
set_option maxRecDepth 100000 in
set_option maxHeartbeats 400000 in
theorem m33e (ab ao n c0 a b da db : Nat) (wa : World) (ha : a < n) (hb : b < n) (ca : wa.cell? ⟨ab, ao + a, none⟩ = some (.int .u32 ((da : Nat) : Int))) (cb : wa.cell? ⟨ab, ao + b, none⟩ = some (.int .u32 ((db : Nat) : Int))) (h : da = db) (f : Nat → Value) (h0 : f 0 = .slice (some ⟨ab, ao, none⟩) n c0) (h25 : f 25 = .int .i64 ((a : Nat) : Int)) (h26 : f 26 = .int .i64 ((b : Nat) : Int)) (K : Act → World → Prop)
    (hK : ∀ (f' : Nat → Value) (nq : Nat), Same f f' [184, 183, 182, 181, 180, 179, 178, 177, 176, 175, 174, 173, 172, 171, 170, 169, 168, 167, 166, 165, 164, 163, 162, 161, 160] → f' 184 = .bool (decide (((a : Nat) : Int) < ((b : Nat) : Int))) → K (Fm 309 f') (wa.drewN nq)) :
    Code.wp Ybaf.prog (headC (dropC 2 b3d)) (only K) (Fm 309 f) wa := by
  refine regQ (by kernel_rfl) (by kernel_rfl) ?_
  refine q_ex 0 160 (.move (.tmp 0)) (v := .slice (some ⟨ab, ao, none⟩) n c0) (by kernel_rfl) (fun nq => (ex_mv (evN rfl h0))) ?_
  refine q_ex 1 161 (.move (.tmp 25)) (v := .int .i64 ((a : Nat) : Int)) (by kernel_rfl) (fun nq => (ex_mv (evN rfl h25))) ?_
  refine q_ex 2 162 (.indexAddr 22 (.tmp 160) (.tmp 161)) (v := .pointer (some ⟨ab, ao + a, none⟩)) (by kernel_rfl) (fun nq => (ex_ix (u := .slice (some ⟨ab, ao, none⟩) n c0) (i := .int .i64 ((a : Nat) : Int)) (evN rfl rfl) (evN rfl rfl) (ix22 ha))) ?_
  refine q_ex 3 163 (.load 25 (.tmp 162)) (v := .int .u32 ((da : Nat) : Int)) (by kernel_rfl) (fun nq => (ex_ld (u := .pointer (some ⟨ab, ao + a, none⟩)) (evN rfl rfl) (ld25 (w := (wa.drewN nq)) ca))) ?_
  refine q_ex 4 164 (.move (.tmp 0)) (v := .slice (some ⟨ab, ao, none⟩) n c0) (by kernel_rfl) (fun nq => (ex_mv (evN rfl h0))) ?_
  refine q_ex 5 165 (.move (.tmp 26)) (v := .int .i64 ((b : Nat) : Int)) (by kernel_rfl) (fun nq => (ex_mv (evN rfl h26))) ?_
  refine q_ex 6 166 (.indexAddr 22 (.tmp 164) (.tmp 165)) (v := .pointer (some ⟨ab, ao + b, none⟩)) (by kernel_rfl) (fun nq => (ex_ix (u := .slice (some ⟨ab, ao, none⟩) n c0) (i := .int .i64 ((b : Nat) : Int)) (evN rfl rfl) (evN rfl rfl) (ix22 hb))) ?_
  refine q_ex 7 167 (.load 25 (.tmp 166)) (v := .int .u32 ((db : Nat) : Int)) (by kernel_rfl) (fun nq => (ex_ld (u := .pointer (some ⟨ab, ao + b, none⟩)) (evN rfl rfl) (ld25 (w := (wa.drewN nq)) cb))) ?_
  refine q_ex 8 168 (.binOp .lss 25 (.tmp 163) (.tmp 167) 25) (v := .bool false) (by kernel_rfl) (fun nq => (ex_bn (u := .int .u32 ((da : Nat) : Int)) (u' := .int .u32 ((db : Nat) : Int)) (evN rfl rfl) (evN rfl rfl) (lss25 (decide_eq_false (by omega))))) ?_
  refine q_ex 9 169 (.move (.tmp 168)) (v := .bool false) (by kernel_rfl) (fun nq => (ex_mv (evN rfl rfl))) ?_
  refine q_g 10 170 9 169 false (.move (.tmp 0)) (v := .slice (some ⟨ab, ao, none⟩) n c0) (by kernel_rfl) (by kernel_rfl) (by rfl) (by rfl) (fun nq => (ex_mv (evN rfl h0))) ?_
  refine q_g 11 171 9 169 false (.move (.tmp 25)) (v := .int .i64 ((a : Nat) : Int)) (by kernel_rfl) (by kernel_rfl) (by rfl) (by rfl) (fun nq => (ex_mv (evN rfl h25))) ?_
  refine q_g 12 172 9 169 false (.indexAddr 22 (.tmp 170) (.tmp 171)) (v := .pointer (some ⟨ab, ao + a, none⟩)) (by kernel_rfl) (by kernel_rfl) (by rfl) (by rfl) (fun nq => (ex_ix (u := .slice (some ⟨ab, ao, none⟩) n c0) (i := .int .i64 ((a : Nat) : Int)) (evN rfl rfl) (evN rfl rfl) (ix22 ha))) ?_
  refine q_g 13 173 9 169 false (.load 25 (.tmp 172)) (v := .int .u32 ((da : Nat) : Int)) (by kernel_rfl) (by kernel_rfl) (by rfl) (by rfl) (fun nq => (ex_ld (u := .pointer (some ⟨ab, ao + a, none⟩)) (evN rfl rfl) (ld25 (w := (wa.drewN nq)) ca))) ?_
  refine q_g 14 174 9 169 false (.move (.tmp 0)) (v := .slice (some ⟨ab, ao, none⟩) n c0) (by kernel_rfl) (by kernel_rfl) (by rfl) (by rfl) (fun nq => (ex_mv (evN rfl h0))) ?_
  refine q_g 15 175 9 169 false (.move (.tmp 26)) (v := .int .i64 ((b : Nat) : Int)) (by kernel_rfl) (by kernel_rfl) (by rfl) (by rfl) (fun nq => (ex_mv (evN rfl h26))) ?_
  refine q_g 16 176 9 169 false (.indexAddr 22 (.tmp 174) (.tmp 175)) (v := .pointer (some ⟨ab, ao + b, none⟩)) (by kernel_rfl) (by kernel_rfl) (by rfl) (by rfl) (fun nq => (ex_ix (u := .slice (some ⟨ab, ao, none⟩) n c0) (i := .int .i64 ((b : Nat) : Int)) (evN rfl rfl) (evN rfl rfl) (ix22 hb))) ?_
  refine q_g 17 177 9 169 false (.load 25 (.tmp 176)) (v := .int .u32 ((db : Nat) : Int)) (by kernel_rfl) (by kernel_rfl) (by rfl) (by rfl) (fun nq => (ex_ld (u := .pointer (some ⟨ab, ao + b, none⟩)) (evN rfl rfl) (ld25 (w := (wa.drewN nq)) cb))) ?_
  refine q_g 18 178 9 169 false (.binOp .eql 25 (.tmp 173) (.tmp 177) 25) (v := .bool true) (by kernel_rfl) (by kernel_rfl) (by rfl) (by rfl) (fun nq => (ex_bn (u := .int .u32 ((da : Nat) : Int)) (u' := .int .u32 ((db : Nat) : Int)) (evN rfl rfl) (evN rfl rfl) (eql25 (by rw [h]; simp)))) ?_
  refine q_g 19 179 9 169 false (.move (.tmp 178)) (v := .bool true) (by kernel_rfl) (by kernel_rfl) (by rfl) (by rfl) (fun nq => (ex_mv (evN rfl rfl))) ?_
  refine q_g 20 180 19 179 true (.move (.tmp 25)) (v := .int .i64 ((a : Nat) : Int)) (by kernel_rfl) (by kernel_rfl) (by rfl) (by rfl) (fun nq => (ex_mv (evN rfl h25))) ?_
  refine q_g 21 181 19 179 true (.move (.tmp 26)) (v := .int .i64 ((b : Nat) : Int)) (by kernel_rfl) (by kernel_rfl) (by rfl) (by rfl) (fun nq => (ex_mv (evN rfl h26))) ?_
  refine q_g 22 182 19 179 true (.binOp .lss 3 (.tmp 180) (.tmp 181) 3) (v := .bool (decide (((a : Nat) : Int) < ((b : Nat) : Int)))) (by kernel_rfl) (by kernel_rfl) (by rfl) (by rfl) (fun nq => (ex_bn (u := .int .i64 ((a : Nat) : Int)) (u' := .int .i64 ((b : Nat) : Int)) (evN rfl rfl) (evN rfl rfl) (lssI rfl))) ?_
  refine q_g 23 183 9 169 false (.pick (.tmp 179) (.tmp 182) (.const (.bool false))) (v := .bool (decide (((a : Nat) : Int) < ((b : Nat) : Int)))) (by kernel_rfl) (by kernel_rfl) (by rfl) (by rfl) (fun nq => (ex_pickt (evN rfl rfl) (evN rfl rfl))) ?_
  refine q_ex 24 184 (.pick (.tmp 169) (.const (.bool true)) (.tmp 183)) (v := .bool (decide (((a : Nat) : Int) < ((b : Nat) : Int)))) (by kernel_rfl) (fun nq => (ex_pickf (evN rfl rfl) (evN rfl rfl))) ?_
  exact q_end (by kernel_rfl) (fun nq => hK _ nq (((((((((((((((((((((((((Same.refl.put 160 _).put 161 _).put 162 _).put 163 _).put 164 _).put 165 _).put 166 _).put 167 _).put 168 _).put 169 _).put 170 _).put 171 _).put 172 _).put 173 _).put 174 _).put 175 _).put 176 _).put 177 _).put 178 _).put 179 _).put 180 _).put 181 _).put 182 _).put 183 _).put 184 _) rfl)
set_option maxRecDepth 100000 in
set_option maxHeartbeats 400000 in
theorem m33g (ab ao n c0 a b da db : Nat) (wa : World) (ha : a < n) (hb : b < n) (ca : wa.cell? ⟨ab, ao + a, none⟩ = some (.int .u32 ((da : Nat) : Int))) (cb : wa.cell? ⟨ab, ao + b, none⟩ = some (.int .u32 ((db : Nat) : Int))) (h : db < da) (f : Nat → Value) (h0 : f 0 = .slice (some ⟨ab, ao, none⟩) n c0) (h25 : f 25 = .int .i64 ((a : Nat) : Int)) (h26 : f 26 = .int .i64 ((b : Nat) : Int)) (K : Act → World → Prop)
    (hK : ∀ (f' : Nat → Value) (nq : Nat), Same f f' [184, 183, 182, 181, 180, 179, 178, 177, 176, 175, 174, 173, 172, 171, 170, 169, 168, 167, 166, 165, 164, 163, 162, 161, 160] → f' 184 = .bool false → K (Fm 309 f') (wa.drewN nq)) :
    Code.wp Ybaf.prog (headC (dropC 2 b3d)) (only K) (Fm 309 f) wa := by
  refine regQ (by kernel_rfl) (by kernel_rfl) ?_
  refine q_ex 0 160 (.move (.tmp 0)) (v := .slice (some ⟨ab, ao, none⟩) n c0) (by kernel_rfl) (fun nq => (ex_mv (evN rfl h0))) ?_
  refine q_ex 1 161 (.move (.tmp 25)) (v := .int .i64 ((a : Nat) : Int)) (by kernel_rfl) (fun nq => (ex_mv (evN rfl h25))) ?_
  refine q_ex 2 162 (.indexAddr 22 (.tmp 160) (.tmp 161)) (v := .pointer (some ⟨ab, ao + a, none⟩)) (by kernel_rfl) (fun nq => (ex_ix (u := .slice (some ⟨ab, ao, none⟩) n c0) (i := .int .i64 ((a : Nat) : Int)) (evN rfl rfl) (evN rfl rfl) (ix22 ha))) ?_
  refine q_ex 3 163 (.load 25 (.tmp 162)) (v := .int .u32 ((da : Nat) : Int)) (by kernel_rfl) (fun nq => (ex_ld (u := .pointer (some ⟨ab, ao + a, none⟩)) (evN rfl rfl) (ld25 (w := (wa.drewN nq)) ca))) ?_
  refine q_ex 4 164 (.move (.tmp 0)) (v := .slice (some ⟨ab, ao, none⟩) n c0) (by kernel_rfl) (fun nq => (ex_mv (evN rfl h0))) ?_
  refine q_ex 5 165 (.move (.tmp 26)) (v := .int .i64 ((b : Nat) : Int)) (by kernel_rfl) (fun nq => (ex_mv (evN rfl h26))) ?_
  refine q_ex 6 166 (.indexAddr 22 (.tmp 164) (.tmp 165)) (v := .pointer (some ⟨ab, ao + b, none⟩)) (by kernel_rfl) (fun nq => (ex_ix (u := .slice (some ⟨ab, ao, none⟩) n c0) (i := .int .i64 ((b : Nat) : Int)) (evN rfl rfl) (evN rfl rfl) (ix22 hb))) ?_
  refine q_ex 7 167 (.load 25 (.tmp 166)) (v := .int .u32 ((db : Nat) : Int)) (by kernel_rfl) (fun nq => (ex_ld (u := .pointer (some ⟨ab, ao + b, none⟩)) (evN rfl rfl) (ld25 (w := (wa.drewN nq)) cb))) ?_
  refine q_ex 8 168 (.binOp .lss 25 (.tmp 163) (.tmp 167) 25) (v := .bool false) (by kernel_rfl) (fun nq => (ex_bn (u := .int .u32 ((da : Nat) : Int)) (u' := .int .u32 ((db : Nat) : Int)) (evN rfl rfl) (evN rfl rfl) (lss25 (decide_eq_false (by omega))))) ?_
  refine q_ex 9 169 (.move (.tmp 168)) (v := .bool false) (by kernel_rfl) (fun nq => (ex_mv (evN rfl rfl))) ?_
  refine q_g 10 170 9 169 false (.move (.tmp 0)) (v := .slice (some ⟨ab, ao, none⟩) n c0) (by kernel_rfl) (by kernel_rfl) (by rfl) (by rfl) (fun nq => (ex_mv (evN rfl h0))) ?_
  refine q_g 11 171 9 169 false (.move (.tmp 25)) (v := .int .i64 ((a : Nat) : Int)) (by kernel_rfl) (by kernel_rfl) (by rfl) (by rfl) (fun nq => (ex_mv (evN rfl h25))) ?_
  refine q_g 12 172 9 169 false (.indexAddr 22 (.tmp 170) (.tmp 171)) (v := .pointer (some ⟨ab, ao + a, none⟩)) (by kernel_rfl) (by kernel_rfl) (by rfl) (by rfl) (fun nq => (ex_ix (u := .slice (some ⟨ab, ao, none⟩) n c0) (i := .int .i64 ((a : Nat) : Int)) (evN rfl rfl) (evN rfl rfl) (ix22 ha))) ?_
  refine q_g 13 173 9 169 false (.load 25 (.tmp 172)) (v := .int .u32 ((da : Nat) : Int)) (by kernel_rfl) (by kernel_rfl) (by rfl) (by rfl) (fun nq => (ex_ld (u := .pointer (some ⟨ab, ao + a, none⟩)) (evN rfl rfl) (ld25 (w := (wa.drewN nq)) ca))) ?_
  refine q_g 14 174 9 169 false (.move (.tmp 0)) (v := .slice (some ⟨ab, ao, none⟩) n c0) (by kernel_rfl) (by kernel_rfl) (by rfl) (by rfl) (fun nq => (ex_mv (evN rfl h0))) ?_
  refine q_g 15 175 9 169 false (.move (.tmp 26)) (v := .int .i64 ((b : Nat) : Int)) (by kernel_rfl) (by kernel_rfl) (by rfl) (by rfl) (fun nq => (ex_mv (evN rfl h26))) ?_
  refine q_g 16 176 9 169 false (.indexAddr 22 (.tmp 174) (.tmp 175)) (v := .pointer (some ⟨ab, ao + b, none⟩)) (by kernel_rfl) (by kernel_rfl) (by rfl) (by rfl) (fun nq => (ex_ix (u := .slice (some ⟨ab, ao, none⟩) n c0) (i := .int .i64 ((b : Nat) : Int)) (evN rfl rfl) (evN rfl rfl) (ix22 hb))) ?_
  refine q_g 17 177 9 169 false (.load 25 (.tmp 176)) (v := .int .u32 ((db : Nat) : Int)) (by kernel_rfl) (by kernel_rfl) (by rfl) (by rfl) (fun nq => (ex_ld (u := .pointer (some ⟨ab, ao + b, none⟩)) (evN rfl rfl) (ld25 (w := (wa.drewN nq)) cb))) ?_
  refine q_g 18 178 9 169 false (.binOp .eql 25 (.tmp 173) (.tmp 177) 25) (v := .bool false) (by kernel_rfl) (by kernel_rfl) (by rfl) (by rfl) (fun nq => (ex_bn (u := .int .u32 ((da : Nat) : Int)) (u' := .int .u32 ((db : Nat) : Int)) (evN rfl rfl) (evN rfl rfl) (eql25 (by simp; omega)))) ?_
  refine q_g 19 179 9 169 false (.move (.tmp 178)) (v := .bool false) (by kernel_rfl) (by kernel_rfl) (by rfl) (by rfl) (fun nq => (ex_mv (evN rfl rfl))) ?_
  refine q_no 20 180 19 179 true (.move (.tmp 25)) (by kernel_rfl) (by kernel_rfl) (by rfl) (by rfl) ?_
  refine q_no 21 181 19 179 true (.move (.tmp 26)) (by kernel_rfl) (by kernel_rfl) (by rfl) (by rfl) ?_
  refine q_no 22 182 19 179 true (.binOp .lss 3 (.tmp 180) (.tmp 181) 3) (by kernel_rfl) (by kernel_rfl) (by rfl) (by rfl) ?_
  refine q_g 23 183 9 169 false (.pick (.tmp 179) (.tmp 182) (.const (.bool false))) (v := .bool false) (by kernel_rfl) (by kernel_rfl) (by rfl) (by rfl) (fun nq => (ex_pickf (evN rfl rfl) rfl)) ?_
  refine q_ex 24 184 (.pick (.tmp 169) (.const (.bool true)) (.tmp 183)) (v := .bool false) (by kernel_rfl) (fun nq => (ex_pickf (evN rfl rfl) (evN rfl rfl))) ?_
  exact q_end (by kernel_rfl) (fun nq => hK _ nq (((((((((((((((((((((((((Same.refl.put 160 _).put 161 _).put 162 _).put 163 _).put 164 _).put 165 _).put 166 _).put 167 _).put 168 _).put 169 _).put 170 _).put 171 _).put 172 _).put 173 _).put 174 _).put 175 _).put 176 _).put 177 _).put 178 _).put 179 _).put 180 _).put 181 _).put 182 _).put 183 _).put 184 _) rfl)
set_option maxRecDepth 100000 in
set_option maxHeartbeats 400000 in
theorem m34 (Wb wl wc k : Nat) (b : Int) (u : Value) (wa : World) (hk : k < wl) (hc : wa.cell? ⟨Wb, k, none⟩ = some u) (hf : wa.frozen? ⟨Wb, k, none⟩ = false) (f : Nat → Value) (h21 : f 21 = .slice (some ⟨Wb, 0, none⟩) wl wc) (h24 : f 24 = .int .i64 ((k : Nat) : Int)) (h26 : f 26 = .int .i64 b) (K : Act → World → Prop)
    (hK : ∀ (f' : Nat → Value), Same f f' [188, 187, 186, 185] → K (Fm 309 f') (wa.setCell ⟨Wb, k, none⟩ (.int .i64 b))) :
    Code.wp Ybaf.prog (headC (thnC (tailC (dropC 2 b3d)))) (only K) (Fm 309 f) wa := by
  refine regN (by kernel_rfl) ?_
  refine s_ex 0 185 (.move (.tmp 21)) (v := .slice (some ⟨Wb, 0, none⟩) wl wc) (by kernel_rfl) (ex_mv (evN rfl h21)) ?_
  refine s_ex 1 186 (.move (.tmp 24)) (v := .int .i64 ((k : Nat) : Int)) (by kernel_rfl) (ex_mv (evN rfl h24)) ?_
  refine s_ex 2 187 (.move (.tmp 26)) (v := .int .i64 b) (by kernel_rfl) (ex_mv (evN rfl h26)) ?_
  refine s_ex 3 188 (.indexAddr 26 (.tmp 185) (.tmp 186)) (v := .pointer (some ⟨Wb, k, none⟩)) (by kernel_rfl) (ex_ix (u := .slice (some ⟨Wb, 0, none⟩) wl wc) (i := .int .i64 ((k : Nat) : Int)) (evN rfl rfl) (evN rfl rfl) (ix26z hk)) ?_
  refine s_st 4 3 (.tmp 188) (.tmp 187) (p := .pointer (some ⟨Wb, k, none⟩)) (q := .int .i64 b) (by kernel_rfl) (evN rfl rfl) (evN rfl rfl) (st3 hc hf) ?_
  exact s_end (by kernel_rfl) (hK _  ((((Same.refl.put 185 _).put 186 _).put 187 _).put 188 _))
set_option maxRecDepth 100000 in
set_option maxHeartbeats 400000 in
theorem m35 (Wb wl wc k : Nat) (a : Int) (u : Value) (wa : World) (hk : k + 1 < wl) (hl : wl ≤ 1000) (hc : wa.cell? ⟨Wb, k, none⟩ = some u) (hf : wa.frozen? ⟨Wb, k, none⟩ = false) (f : Nat → Value) (h21 : f 21 = .slice (some ⟨Wb, 0, none⟩) wl wc) (h24 : f 24 = .int .i64 ((k + 1 : Nat) : Int)) (h25 : f 25 = .int .i64 a) (K : Act → World → Prop)
    (hK : ∀ (f' : Nat → Value), Same f f' [193, 192, 191, 190, 189] → K (Fm 309 f') (wa.setCell ⟨Wb, k, none⟩ (.int .i64 a))) :
    Code.wp Ybaf.prog (headC (tailC (thnC (tailC (dropC 2 b3d))))) (only K) (Fm 309 f) wa := by
  refine regN (by kernel_rfl) ?_
  refine s_ex 0 189 (.move (.tmp 21)) (v := .slice (some ⟨Wb, 0, none⟩) wl wc) (by kernel_rfl) (ex_mv (evN rfl h21)) ?_
  refine s_ex 1 190 (.move (.tmp 24)) (v := .int .i64 ((k + 1 : Nat) : Int)) (by kernel_rfl) (ex_mv (evN rfl h24)) ?_
  refine s_ex 2 191 (.binOp .sub 3 (.tmp 190) (.const (.int .i64 1)) 3) (v := .int .i64 ((k : Nat) : Int)) (by kernel_rfl) (ex_bn (u := .int .i64 ((k + 1 : Nat) : Int)) (u' := .int .i64 1) (evN rfl rfl) rfl (subI (by omega) (by omega) (by omega))) ?_
  refine s_ex 3 192 (.move (.tmp 25)) (v := .int .i64 a) (by kernel_rfl) (ex_mv (evN rfl h25)) ?_
  refine s_ex 4 193 (.indexAddr 26 (.tmp 189) (.tmp 191)) (v := .pointer (some ⟨Wb, k, none⟩)) (by kernel_rfl) (ex_ix (u := .slice (some ⟨Wb, 0, none⟩) wl wc) (i := .int .i64 ((k : Nat) : Int)) (evN rfl rfl) (evN rfl rfl) (ix26z (by omega))) ?_
  refine s_st 5 3 (.tmp 193) (.tmp 192) (p := .pointer (some ⟨Wb, k, none⟩)) (q := .int .i64 a) (by kernel_rfl) (evN rfl rfl) (evN rfl rfl) (st3 hc hf) ?_
  exact s_end (by kernel_rfl) (hK _  (((((Same.refl.put 189 _).put 190 _).put 191 _).put 192 _).put 193 _))
set_option maxRecDepth 100000 in
set_option maxHeartbeats 400000 in
theorem m36 (k : Nat) (wa : World) (hk : k < 100000) (f : Nat → Value) (h24 : f 24 = .int .i64 ((k + 1 : Nat) : Int)) (K : Act → World → Prop)
    (hK : ∀ (f' : Nat → Value), Same f f' [24, 195, 194] → f' 24 = .int .i64 ((k : Nat) : Int) → K (Fm 309 f') (wa)) :
    Code.wp Ybaf.prog (tailC (tailC (thnC (tailC (dropC 2 b3d))))) (only K) (Fm 309 f) wa := by
  refine regN (by kernel_rfl) ?_
  refine s_ex 0 194 (.move (.tmp 24)) (v := .int .i64 ((k + 1 : Nat) : Int)) (by kernel_rfl) (ex_mv (evN rfl h24)) ?_
  refine s_ex 1 195 (.binOp .sub 3 (.tmp 194) (.const (.int .i64 1)) 3) (v := .int .i64 ((k : Nat) : Int)) (by kernel_rfl) (ex_bn (u := .int .i64 ((k + 1 : Nat) : Int)) (u' := .int .i64 1) (evN rfl rfl) rfl (subI (by omega) (by omega) (by omega))) ?_
  refine s_ex 2 24 (.assign (.tmp 195)) (v := .int .i64 ((k : Nat) : Int)) (by kernel_rfl) (ex_as (evN rfl rfl)) ?_
  exact s_end (by kernel_rfl) (hK _  (((Same.refl.put 194 _).put 195 _).put 24 _) rfl)
set_option maxRecDepth 100000 in
set_option maxHeartbeats 400000 in
theorem m37 (G m cp : Nat) (a5 : Option Addr) (p c5 Wb wl wc : Nat) (wa : World) (h1 : m = p + wl) (h2 : m ≤ 100000) (f : Nat → Value) (h5 : f 5 = .slice a5 p c5) (h20 : f 20 = .slice (some ⟨G, 0, none⟩) m cp) (h21 : f 21 = .slice (some ⟨Wb, 0, none⟩) wl wc) (K : Act → World → Prop)
    (hK : ∀ (f' : Nat → Value), Same f f' [203, 202, 201, 200, 199, 198, 197, 196] → f' 203 = .bool false → K (Fm 309 f') (wa)) :
    Code.wp Ybaf.prog (headC (headC (dropC 15 l3))) (only K) (Fm 309 f) wa := by
  refine regN (by kernel_rfl) ?_
  refine s_ex 0 196 (.move (.tmp 20)) (v := .slice (some ⟨G, 0, none⟩) m cp) (by kernel_rfl) (ex_mv (evN rfl h20)) ?_
  refine s_ex 1 197 (.call { callee := .builtin .len, args := #[(.tmp 196)], argTypes := #[26] }) (v := .int .i64 ((m : Nat) : Int)) (by kernel_rfl) (ex_len (ad := (some ⟨G, 0, none⟩)) (n := m) (c := cp) Ybaf.underlying26 (evN rfl rfl)) ?_
  refine s_ex 2 198 (.move (.tmp 5)) (v := .slice a5 p c5) (by kernel_rfl) (ex_mv (evN rfl h5)) ?_
  refine s_ex 3 199 (.call { callee := .builtin .len, args := #[(.tmp 198)], argTypes := #[26] }) (v := .int .i64 ((p : Nat) : Int)) (by kernel_rfl) (ex_len (ad := a5) (n := p) (c := c5) Ybaf.underlying26 (evN rfl rfl)) ?_
  refine s_ex 4 200 (.move (.tmp 21)) (v := .slice (some ⟨Wb, 0, none⟩) wl wc) (by kernel_rfl) (ex_mv (evN rfl h21)) ?_
  refine s_ex 5 201 (.call { callee := .builtin .len, args := #[(.tmp 200)], argTypes := #[26] }) (v := .int .i64 ((wl : Nat) : Int)) (by kernel_rfl) (ex_len (ad := (some ⟨Wb, 0, none⟩)) (n := wl) (c := wc) Ybaf.underlying26 (evN rfl rfl)) ?_
  refine s_ex 6 202 (.binOp .add 3 (.tmp 199) (.tmp 201) 3) (v := .int .i64 ((p + wl : Nat) : Int)) (by kernel_rfl) (ex_bn (u := .int .i64 ((p : Nat) : Int)) (u' := .int .i64 ((wl : Nat) : Int)) (evN rfl rfl) (evN rfl rfl) (addI (by omega) (by omega) (by omega))) ?_
  refine s_ex 7 203 (.binOp .neq 3 (.tmp 197) (.tmp 202) 3) (v := .bool false) (by kernel_rfl) (ex_bn (u := .int .i64 ((m : Nat) : Int)) (u' := .int .i64 ((p + wl : Nat) : Int)) (evN rfl rfl) (evN rfl rfl) (neqI (by rw [h1]; simp))) ?_
  exact s_end (by kernel_rfl) (hK _  ((((((((Same.refl.put 196 _).put 197 _).put 198 _).put 199 _).put 200 _).put 201 _).put 202 _).put 203 _) rfl)
set_option maxRecDepth 100000 in
set_option maxHeartbeats 400000 in
theorem m39 (wa : World) (f : Nat → Value)  (K : Act → World → Prop)
    (hK : ∀ (f' : Nat → Value), Same f f' [27] → f' 27 = .int .i64 ((0 : Nat) : Int) → K (Fm 309 f') (wa)) :
    Code.wp Ybaf.prog (headC (headC (dropC 16 l3))) (only K) (Fm 309 f) wa := by
  refine regN (by kernel_rfl) ?_
  refine s_ex 0 27 (.assign (.const (.int .i64 0))) (v := .int .i64 0) (by kernel_rfl) (ex_as rfl) ?_
  exact s_end (by kernel_rfl) (hK _  (Same.refl.put 27 _) rfl)
set_option maxRecDepth 100000 in
set_option maxHeartbeats 400000 in
theorem m40 (i : Nat) (a5 : Option Addr) (p c5 : Nat) (wa : World) (f : Nat → Value) (h5 : f 5 = .slice a5 p c5) (h27 : f 27 = .int .i64 ((i : Nat) : Int)) (K : Act → World → Prop)
    (hK : ∀ (f' : Nat → Value), Same f f' [207, 206, 205, 204] → f' 207 = .bool (decide (((i : Nat) : Int) < ((p : Nat) : Int))) → K (Fm 309 f') (wa)) :
    Code.wp Ybaf.prog (headC (headC l3e)) (only K) (Fm 309 f) wa := by
  refine regN (by kernel_rfl) ?_
  refine s_ex 0 204 (.move (.tmp 27)) (v := .int .i64 ((i : Nat) : Int)) (by kernel_rfl) (ex_mv (evN rfl h27)) ?_
  refine s_ex 1 205 (.move (.tmp 5)) (v := .slice a5 p c5) (by kernel_rfl) (ex_mv (evN rfl h5)) ?_
  refine s_ex 2 206 (.call { callee := .builtin .len, args := #[(.tmp 205)], argTypes := #[26] }) (v := .int .i64 ((p : Nat) : Int)) (by kernel_rfl) (ex_len (ad := a5) (n := p) (c := c5) Ybaf.underlying26 (evN rfl rfl)) ?_
  refine s_ex 3 207 (.binOp .lss 3 (.tmp 204) (.tmp 206) 3) (v := .bool (decide (((i : Nat) : Int) < ((p : Nat) : Int)))) (by kernel_rfl) (ex_bn (u := .int .i64 ((i : Nat) : Int)) (u' := .int .i64 ((p : Nat) : Int)) (evN rfl rfl) (evN rfl rfl) (lssI rfl)) ?_
  exact s_end (by kernel_rfl) (hK _  ((((Same.refl.put 204 _).put 205 _).put 206 _).put 207 _) rfl)
set_option maxRecDepth 100000 in
set_option maxHeartbeats 400000 in
theorem m41 (i : Nat) (wa : World) (hi : i < 100000) (f : Nat → Value) (h27 : f 27 = .int .i64 ((i : Nat) : Int)) (K : Act → World → Prop)
    (hK : ∀ (f' : Nat → Value), Same f f' [27, 209, 208] → f' 27 = .int .i64 (((i : Nat) : Int) + 1) → K (Fm 309 f') (wa)) :
    Code.wp Ybaf.prog (dropC 2 l3e) (only K) (Fm 309 f) wa := by
  refine regN (by kernel_rfl) ?_
  refine s_ex 0 208 (.move (.tmp 27)) (v := .int .i64 ((i : Nat) : Int)) (by kernel_rfl) (ex_mv (evN rfl h27)) ?_
  refine s_ex 1 209 (.binOp .add 3 (.tmp 208) (.const (.int .i64 1)) 3) (v := .int .i64 (((i : Nat) : Int) + 1)) (by kernel_rfl) (ex_bn (u := .int .i64 ((i : Nat) : Int)) (u' := .int .i64 1) (evN rfl rfl) rfl (addI rfl (by omega) (by omega))) ?_
  refine s_ex 2 27 (.assign (.tmp 209)) (v := .int .i64 (((i : Nat) : Int) + 1)) (by kernel_rfl) (ex_as (evN rfl rfl)) ?_
  exact s_end (by kernel_rfl) (hK _  (((Same.refl.put 208 _).put 209 _).put 27 _) rfl)
set_option maxRecDepth 100000 in
set_option maxHeartbeats 400000 in
theorem m42 (G m cp xb xo p c5 i : Nat) (v : Int) (wa : World) (hi : i < p) (hm : i < m) (h1 : wa.cell? ⟨G, i, none⟩ = some (.int .i64 v)) (h2 : wa.cell? ⟨xb, xo + i, none⟩ = some (.int .i64 v)) (f : Nat → Value) (h5 : f 5 = .slice (some ⟨xb, xo, none⟩) p c5) (h20 : f 20 = .slice (some ⟨G, 0, none⟩) m cp) (h27 : f 27 = .int .i64 ((i : Nat) : Int)) (K : Act → World → Prop)
    (hK : ∀ (f' : Nat → Value) (nq : Nat), Same f f' [218, 217, 216, 215, 214, 213, 212, 211, 210] → f' 218 = .bool false → K (Fm 309 f') (wa.drewN nq)) :
    Code.wp Ybaf.prog (headC b3e) (only K) (Fm 309 f) wa := by
  refine regQ (by kernel_rfl) (by kernel_rfl) ?_
  refine q_ex 0 210 (.move (.tmp 20)) (v := .slice (some ⟨G, 0, none⟩) m cp) (by kernel_rfl) (fun nq => (ex_mv (evN rfl h20))) ?_
  refine q_ex 1 211 (.move (.tmp 27)) (v := .int .i64 ((i : Nat) : Int)) (by kernel_rfl) (fun nq => (ex_mv (evN rfl h27))) ?_
  refine q_ex 2 212 (.indexAddr 26 (.tmp 210) (.tmp 211)) (v := .pointer (some ⟨G, i, none⟩)) (by kernel_rfl) (fun nq => (ex_ix (u := .slice (some ⟨G, 0, none⟩) m cp) (i := .int .i64 ((i : Nat) : Int)) (evN rfl rfl) (evN rfl rfl) (ix26z hm))) ?_
  refine q_ex 3 213 (.load 3 (.tmp 212)) (v := .int .i64 v) (by kernel_rfl) (fun nq => (ex_ld (u := .pointer (some ⟨G, i, none⟩)) (evN rfl rfl) (ld3 (w := (wa.drewN nq)) h1))) ?_
  refine q_ex 4 214 (.move (.tmp 5)) (v := .slice (some ⟨xb, xo, none⟩) p c5) (by kernel_rfl) (fun nq => (ex_mv (evN rfl h5))) ?_
  refine q_ex 5 215 (.move (.tmp 27)) (v := .int .i64 ((i : Nat) : Int)) (by kernel_rfl) (fun nq => (ex_mv (evN rfl h27))) ?_
  refine q_ex 6 216 (.indexAddr 26 (.tmp 214) (.tmp 215)) (v := .pointer (some ⟨xb, xo + i, none⟩)) (by kernel_rfl) (fun nq => (ex_ix (u := .slice (some ⟨xb, xo, none⟩) p c5) (i := .int .i64 ((i : Nat) : Int)) (evN rfl rfl) (evN rfl rfl) (ix26 hi))) ?_
  refine q_ex 7 217 (.load 3 (.tmp 216)) (v := .int .i64 v) (by kernel_rfl) (fun nq => (ex_ld (u := .pointer (some ⟨xb, xo + i, none⟩)) (evN rfl rfl) (ld3 (w := (wa.drewN nq)) h2))) ?_
  refine q_ex 8 218 (.binOp .neq 3 (.tmp 213) (.tmp 217) 3) (v := .bool false) (by kernel_rfl) (fun nq => (ex_bn (u := .int .i64 v) (u' := .int .i64 v) (evN rfl rfl) (evN rfl rfl) (neqI (by simp)))) ?_
  exact q_end (by kernel_rfl) (fun nq => hK _ nq (((((((((Same.refl.put 210 _).put 211 _).put 212 _).put 213 _).put 214 _).put 215 _).put 216 _).put 217 _).put 218 _) rfl)
set_option maxRecDepth 100000 in
set_option maxHeartbeats 400000 in
theorem m44 (wa : World) (f : Nat → Value)  (K : Act → World → Prop)
    (hK : ∀ (f' : Nat → Value), Same f f' [28] → f' 28 = .int .i64 ((0 : Nat) : Int) → K (Fm 309 f') (wa)) :
    Code.wp Ybaf.prog (headC (headC (dropC 17 l3))) (only K) (Fm 309 f) wa := by
  refine regN (by kernel_rfl) ?_
  refine s_ex 0 28 (.assign (.const (.int .i64 0))) (v := .int .i64 0) (by kernel_rfl) (ex_as rfl) ?_
  exact s_end (by kernel_rfl) (hK _  (Same.refl.put 28 _) rfl)
set_option maxRecDepth 100000 in
set_option maxHeartbeats 400000 in
theorem m45 (i Wb wl wc : Nat) (wa : World) (f : Nat → Value) (h21 : f 21 = .slice (some ⟨Wb, 0, none⟩) wl wc) (h28 : f 28 = .int .i64 ((i : Nat) : Int)) (K : Act → World → Prop)
    (hK : ∀ (f' : Nat → Value), Same f f' [222, 221, 220, 219] → f' 222 = .bool (decide (((i : Nat) : Int) < ((wl : Nat) : Int))) → K (Fm 309 f') (wa)) :
    Code.wp Ybaf.prog (headC (headC l3f)) (only K) (Fm 309 f) wa := by
  refine regN (by kernel_rfl) ?_
  refine s_ex 0 219 (.move (.tmp 28)) (v := .int .i64 ((i : Nat) : Int)) (by kernel_rfl) (ex_mv (evN rfl h28)) ?_
  refine s_ex 1 220 (.move (.tmp 21)) (v := .slice (some ⟨Wb, 0, none⟩) wl wc) (by kernel_rfl) (ex_mv (evN rfl h21)) ?_
  refine s_ex 2 221 (.call { callee := .builtin .len, args := #[(.tmp 220)], argTypes := #[26] }) (v := .int .i64 ((wl : Nat) : Int)) (by kernel_rfl) (ex_len (ad := (some ⟨Wb, 0, none⟩)) (n := wl) (c := wc) Ybaf.underlying26 (evN rfl rfl)) ?_
  refine s_ex 3 222 (.binOp .lss 3 (.tmp 219) (.tmp 221) 3) (v := .bool (decide (((i : Nat) : Int) < ((wl : Nat) : Int)))) (by kernel_rfl) (ex_bn (u := .int .i64 ((i : Nat) : Int)) (u' := .int .i64 ((wl : Nat) : Int)) (evN rfl rfl) (evN rfl rfl) (lssI rfl)) ?_
  exact s_end (by kernel_rfl) (hK _  ((((Same.refl.put 219 _).put 220 _).put 221 _).put 222 _) rfl)
set_option maxRecDepth 100000 in
set_option maxHeartbeats 400000 in
theorem m46 (i : Nat) (wa : World) (hi : i < 100000) (f : Nat → Value) (h28 : f 28 = .int .i64 ((i : Nat) : Int)) (K : Act → World → Prop)
    (hK : ∀ (f' : Nat → Value), Same f f' [28, 224, 223] → f' 28 = .int .i64 (((i : Nat) : Int) + 1) → K (Fm 309 f') (wa)) :
    Code.wp Ybaf.prog (dropC 2 l3f) (only K) (Fm 309 f) wa := by
  refine regN (by kernel_rfl) ?_
  refine s_ex 0 223 (.move (.tmp 28)) (v := .int .i64 ((i : Nat) : Int)) (by kernel_rfl) (ex_mv (evN rfl h28)) ?_
  refine s_ex 1 224 (.binOp .add 3 (.tmp 223) (.const (.int .i64 1)) 3) (v := .int .i64 (((i : Nat) : Int) + 1)) (by kernel_rfl) (ex_bn (u := .int .i64 ((i : Nat) : Int)) (u' := .int .i64 1) (evN rfl rfl) rfl (addI rfl (by omega) (by omega))) ?_
  refine s_ex 2 28 (.assign (.tmp 224)) (v := .int .i64 (((i : Nat) : Int) + 1)) (by kernel_rfl) (ex_as (evN rfl rfl)) ?_
  exact s_end (by kernel_rfl) (hK _  (((Same.refl.put 223 _).put 224 _).put 28 _) rfl)
set_option maxRecDepth 100000 in
set_option maxHeartbeats 400000 in
theorem m47 (G m cp : Nat) (a5 : Option Addr) (p c5 Wb wl wc i : Nat) (v : Int) (wa : World) (hi : i < wl) (hm : p + i < m) (hm2 : m ≤ 100000) (h1 : wa.cell? ⟨G, p + i, none⟩ = some (.int .i64 v)) (h2 : wa.cell? ⟨Wb, i, none⟩ = some (.int .i64 v)) (f : Nat → Value) (h5 : f 5 = .slice a5 p c5) (h20 : f 20 = .slice (some ⟨G, 0, none⟩) m cp) (h21 : f 21 = .slice (some ⟨Wb, 0, none⟩) wl wc) (h28 : f 28 = .int .i64 ((i : Nat) : Int)) (K : Act → World → Prop)
    (hK : ∀ (f' : Nat → Value) (nq : Nat), Same f f' [236, 235, 234, 233, 232, 231, 230, 229, 228, 227, 226, 225] → f' 236 = .bool false → K (Fm 309 f') (wa.drewN nq)) :
    Code.wp Ybaf.prog (headC b3f) (only K) (Fm 309 f) wa := by
  refine regQ (by kernel_rfl) (by kernel_rfl) ?_
  refine q_ex 0 225 (.move (.tmp 20)) (v := .slice (some ⟨G, 0, none⟩) m cp) (by kernel_rfl) (fun nq => (ex_mv (evN rfl h20))) ?_
  refine q_ex 1 226 (.move (.tmp 5)) (v := .slice a5 p c5) (by kernel_rfl) (fun nq => (ex_mv (evN rfl h5))) ?_
  refine q_ex 2 227 (.call { callee := .builtin .len, args := #[(.tmp 226)], argTypes := #[26] }) (v := .int .i64 ((p : Nat) : Int)) (by kernel_rfl) (fun nq => (ex_len (ad := a5) (n := p) (c := c5) Ybaf.underlying26 (evN rfl rfl))) ?_
  refine q_ex 3 228 (.move (.tmp 28)) (v := .int .i64 ((i : Nat) : Int)) (by kernel_rfl) (fun nq => (ex_mv (evN rfl h28))) ?_
  refine q_ex 4 229 (.binOp .add 3 (.tmp 227) (.tmp 228) 3) (v := .int .i64 ((p + i : Nat) : Int)) (by kernel_rfl) (fun nq => (ex_bn (u := .int .i64 ((p : Nat) : Int)) (u' := .int .i64 ((i : Nat) : Int)) (evN rfl rfl) (evN rfl rfl) (addI (by omega) (by omega) (by omega)))) ?_
  refine q_ex 5 230 (.indexAddr 26 (.tmp 225) (.tmp 229)) (v := .pointer (some ⟨G, p + i, none⟩)) (by kernel_rfl) (fun nq => (ex_ix (u := .slice (some ⟨G, 0, none⟩) m cp) (i := .int .i64 ((p + i : Nat) : Int)) (evN rfl rfl) (evN rfl rfl) (ix26z hm))) ?_
  refine q_ex 6 231 (.load 3 (.tmp 230)) (v := .int .i64 v) (by kernel_rfl) (fun nq => (ex_ld (u := .pointer (some ⟨G, p + i, none⟩)) (evN rfl rfl) (ld3 (w := (wa.drewN nq)) h1))) ?_
  refine q_ex 7 232 (.move (.tmp 21)) (v := .slice (some ⟨Wb, 0, none⟩) wl wc) (by kernel_rfl) (fun nq => (ex_mv (evN rfl h21))) ?_
  refine q_ex 8 233 (.move (.tmp 28)) (v := .int .i64 ((i : Nat) : Int)) (by kernel_rfl) (fun nq => (ex_mv (evN rfl h28))) ?_
  refine q_ex 9 234 (.indexAddr 26 (.tmp 232) (.tmp 233)) (v := .pointer (some ⟨Wb, i, none⟩)) (by kernel_rfl) (fun nq => (ex_ix (u := .slice (some ⟨Wb, 0, none⟩) wl wc) (i := .int .i64 ((i : Nat) : Int)) (evN rfl rfl) (evN rfl rfl) (ix26z hi))) ?_
  refine q_ex 10 235 (.load 3 (.tmp 234)) (v := .int .i64 v) (by kernel_rfl) (fun nq => (ex_ld (u := .pointer (some ⟨Wb, i, none⟩)) (evN rfl rfl) (ld3 (w := (wa.drewN nq)) h2))) ?_
  refine q_ex 11 236 (.binOp .neq 3 (.tmp 231) (.tmp 235) 3) (v := .bool false) (by kernel_rfl) (fun nq => (ex_bn (u := .int .i64 v) (u' := .int .i64 v) (evN rfl rfl) (evN rfl rfl) (neqI (by simp)))) ?_
  exact q_end (by kernel_rfl) (fun nq => hK _ nq ((((((((((((Same.refl.put 225 _).put 226 _).put 227 _).put 228 _).put 229 _).put 230 _).put 231 _).put 232 _).put 233 _).put 234 _).put 235 _).put 236 _) rfl)
set_option maxRecDepth 100000 in
set_option maxHeartbeats 400000 in
theorem m49 (wa : World) (f : Nat → Value)  (K : Act → World → Prop)
    (hK : ∀ (f' : Nat → Value), Same f f' [29] → f' 29 = .int .i64 ((0 : Nat) : Int) → K (Fm 309 f') (wa)) :
    Code.wp Ybaf.prog (headC (headC (dropC 18 l3))) (only K) (Fm 309 f) wa := by
  refine regN (by kernel_rfl) ?_
  refine s_ex 0 29 (.assign (.const (.int .i64 0))) (v := .int .i64 0) (by kernel_rfl) (ex_as rfl) ?_
  exact s_end (by kernel_rfl) (hK _  (Same.refl.put 29 _) rfl)
set_option maxRecDepth 100000 in
set_option maxHeartbeats 400000 in
theorem m50 (i n : Nat) (wa : World) (f : Nat → Value) (h14 : f 14 = .int .i64 ((n : Nat) : Int)) (h29 : f 29 = .int .i64 ((i : Nat) : Int)) (K : Act → World → Prop)
    (hK : ∀ (f' : Nat → Value), Same f f' [239, 238, 237] → f' 239 = .bool (decide (((i : Nat) : Int) < ((n : Nat) : Int))) → K (Fm 309 f') (wa)) :
    Code.wp Ybaf.prog (headC (headC l3g)) (only K) (Fm 309 f) wa := by
  refine regN (by kernel_rfl) ?_
  refine s_ex 0 237 (.move (.tmp 29)) (v := .int .i64 ((i : Nat) : Int)) (by kernel_rfl) (ex_mv (evN rfl h29)) ?_
  refine s_ex 1 238 (.move (.tmp 14)) (v := .int .i64 ((n : Nat) : Int)) (by kernel_rfl) (ex_mv (evN rfl h14)) ?_
  refine s_ex 2 239 (.binOp .lss 3 (.tmp 237) (.tmp 238) 3) (v := .bool (decide (((i : Nat) : Int) < ((n : Nat) : Int)))) (by kernel_rfl) (ex_bn (u := .int .i64 ((i : Nat) : Int)) (u' := .int .i64 ((n : Nat) : Int)) (evN rfl rfl) (evN rfl rfl) (lssI rfl)) ?_
  exact s_end (by kernel_rfl) (hK _  (((Same.refl.put 237 _).put 238 _).put 239 _) rfl)
set_option maxRecDepth 100000 in
set_option maxHeartbeats 400000 in
theorem m51 (i : Nat) (wa : World) (hi : i < 100000) (f : Nat → Value) (h29 : f 29 = .int .i64 ((i : Nat) : Int)) (K : Act → World → Prop)
    (hK : ∀ (f' : Nat → Value), Same f f' [29, 241, 240] → f' 29 = .int .i64 (((i : Nat) : Int) + 1) → K (Fm 309 f') (wa)) :
    Code.wp Ybaf.prog (dropC 2 l3g) (only K) (Fm 309 f) wa := by
  refine regN (by kernel_rfl) ?_
  refine s_ex 0 240 (.move (.tmp 29)) (v := .int .i64 ((i : Nat) : Int)) (by kernel_rfl) (ex_mv (evN rfl h29)) ?_
  refine s_ex 1 241 (.binOp .add 3 (.tmp 240) (.const (.int .i64 1)) 3) (v := .int .i64 (((i : Nat) : Int) + 1)) (by kernel_rfl) (ex_bn (u := .int .i64 ((i : Nat) : Int)) (u' := .int .i64 1) (evN rfl rfl) rfl (addI rfl (by omega) (by omega))) ?_
  refine s_ex 2 29 (.assign (.tmp 241)) (v := .int .i64 (((i : Nat) : Int) + 1)) (by kernel_rfl) (ex_as (evN rfl rfl)) ?_
  exact s_end (by kernel_rfl) (hK _  (((Same.refl.put 240 _).put 241 _).put 29 _) rfl)
set_option maxRecDepth 100000 in
set_option maxHeartbeats 400000 in
theorem m52 (D i : Nat) (wa : World) (R : Value → Value → World → Prop) (hc : CallR 10 #[.pointer (some ⟨D, 0, none⟩), .int .i64 ((i : Nat) : Int)] wa fun v w' => ∃ x y : Value, v = .tuple #[x, y] ∧ R x y w') (f : Nat → Value) (h15 : f 15 = .pointer (some ⟨D, 0, none⟩)) (h29 : f 29 = .int .i64 ((i : Nat) : Int)) (K : Act → World → Prop)
    (hK : ∀ (f' : Nat → Value) (x y : Value) (wx : World), Same f f' [31, 30, 247, 246, 242, 245, 244, 243] → f' 30 = x → f' 31 = y → R x y wx → K (Fm 309 f') (wx)) :
    Code.wp Ybaf.prog (headC b3g) (only K) (Fm 309 f) wa := by
  refine regN (by kernel_rfl) ?_
  refine s_ex 0 243 (.move (.tmp 15)) (v := .pointer (some ⟨D, 0, none⟩)) (by kernel_rfl) (ex_mv (evN rfl h15)) ?_
  refine s_ex 1 244 (.move (.tmp 29)) (v := .int .i64 ((i : Nat) : Int)) (by kernel_rfl) (ex_mv (evN rfl h29)) ?_
  refine s_call 2 245 (.call { callee := .value (.func 10), args := #[(.tmp 243), (.tmp 244)], argTypes := #[28, 3] }) (fn := 10) (args := #[.pointer (some ⟨D, 0, none⟩), .int .i64 ((i : Nat) : Int)]) (by kernel_rfl) (ex_fn2 (cf10 _) (evN rfl rfl) (evN rfl rfl)) (hc) ?_
  rintro _ wx ⟨x, y, rfl, hR⟩
  refine s_ex 3 242 (.move (.tmp 245)) (v := .tuple #[x, y]) (by kernel_rfl) (ex_mv (evN rfl rfl)) ?_
  refine s_ex 4 246 (.extract (.tmp 242) 0) (v := x) (by kernel_rfl) (ex_xt (u := .tuple #[x, y]) (evN rfl rfl) (by kernel_rfl)) ?_
  refine s_ex 5 247 (.extract (.tmp 242) 1) (v := y) (by kernel_rfl) (ex_xt (u := .tuple #[x, y]) (evN rfl rfl) (by kernel_rfl)) ?_
  refine s_ex 6 30 (.assign (.tmp 246)) (v := x) (by kernel_rfl) (ex_as (evN rfl rfl)) ?_
  refine s_ex 7 31 (.assign (.tmp 247)) (v := y) (by kernel_rfl) (ex_as (evN rfl rfl)) ?_
  exact s_end (by kernel_rfl) (hK _ x y wx ((((((((Same.refl.put 243 _).put 244 _).put 245 _).put 242 _).put 246 _).put 247 _).put 30 _).put 31 _) rfl rfl hR)
set_option maxRecDepth 100000 in
set_option maxHeartbeats 400000 in
theorem m53 (Lb n i : Nat) (b : Bool) (wa : World) (hi : i < n) (hb : wa.cell? ⟨Lb, i, none⟩ = some (.bool b)) (f : Nat → Value) (h17 : f 17 = .slice (some ⟨Lb, 0, none⟩) n n) (h29 : f 29 = .int .i64 ((i : Nat) : Int)) (K : Act → World → Prop)
    (hK : ∀ (f' : Nat → Value), Same f f' [252, 251, 250, 249, 248] → f' 252 = .bool (!b) → K (Fm 309 f') (wa)) :
    Code.wp Ybaf.prog (headC (headC (dropC 1 b3g))) (only K) (Fm 309 f) wa := by
  refine regN (by kernel_rfl) ?_
  refine s_ex 0 248 (.move (.tmp 17)) (v := .slice (some ⟨Lb, 0, none⟩) n n) (by kernel_rfl) (ex_mv (evN rfl h17)) ?_
  refine s_ex 1 249 (.move (.tmp 29)) (v := .int .i64 ((i : Nat) : Int)) (by kernel_rfl) (ex_mv (evN rfl h29)) ?_
  refine s_ex 2 250 (.indexAddr 23 (.tmp 248) (.tmp 249)) (v := .pointer (some ⟨Lb, i, none⟩)) (by kernel_rfl) (ex_ix (u := .slice (some ⟨Lb, 0, none⟩) n n) (i := .int .i64 ((i : Nat) : Int)) (evN rfl rfl) (evN rfl rfl) (ix23z hi)) ?_
  refine s_ex 3 251 (.load 4 (.tmp 250)) (v := .bool b) (by kernel_rfl) (ex_ld (u := .pointer (some ⟨Lb, i, none⟩)) (evN rfl rfl) (ld4 hb)) ?_
  refine s_ex 4 252 (.unOp .not 4 (.tmp 251)) (v := .bool (!b)) (by kernel_rfl) (ex_not (b := b) (evN rfl rfl)) ?_
  exact s_end (by kernel_rfl) (hK _  (((((Same.refl.put 248 _).put 249 _).put 250 _).put 251 _).put 252 _) rfl)
set_option maxRecDepth 100000 in
set_option maxHeartbeats 400000 in
theorem m54 (b : Bool) (wa : World) (f : Nat → Value) (h31 : f 31 = .bool b) (K : Act → World → Prop)
    (hK : ∀ (f' : Nat → Value), Same f f' [253] → f' 253 = .bool b → K (Fm 309 f') (wa)) :
    Code.wp Ybaf.prog (headC (headC (thnC (tailC (headC (dropC 1 b3g)))))) (only K) (Fm 309 f) wa := by
  refine regN (by kernel_rfl) ?_
  refine s_ex 0 253 (.move (.tmp 31)) (v := .bool b) (by kernel_rfl) (ex_mv (evN rfl h31)) ?_
  exact s_end (by kernel_rfl) (hK _  (Same.refl.put 253 _) rfl)
set_option maxRecDepth 100000 in
set_option maxHeartbeats 400000 in
theorem m56 (ab ao n c0 i dl g : Nat) (wa : World) (hi : i < n) (hg : 1 ≤ g) (hg2 : g ≤ 1000) (hdl : dl < 4294967296) (ha : wa.cell? ⟨ab, ao + i, none⟩ = some (.int .u32 ((dl : Nat) : Int))) (f : Nat → Value) (h0 : f 0 = .slice (some ⟨ab, ao, none⟩) n c0) (h13 : f 13 = .int .i64 ((g : Nat) : Int)) (h29 : f 29 = .int .i64 ((i : Nat) : Int)) (K : Act → World → Prop)
    (hK : ∀ (f' : Nat → Value), Same f f' [32, 259, 258, 257, 256, 255, 254] → f' 32 = .int .u64 ((tck dl g : Nat) : Int) → K (Fm 309 f') (wa)) :
    Code.wp Ybaf.prog (headC (dropC 2 b3g)) (only K) (Fm 309 f) wa := by
  refine regN (by kernel_rfl) ?_
  refine s_ex 0 254 (.move (.tmp 0)) (v := .slice (some ⟨ab, ao, none⟩) n c0) (by kernel_rfl) (ex_mv (evN rfl h0)) ?_
  refine s_ex 1 255 (.move (.tmp 29)) (v := .int .i64 ((i : Nat) : Int)) (by kernel_rfl) (ex_mv (evN rfl h29)) ?_
  refine s_ex 2 256 (.indexAddr 22 (.tmp 254) (.tmp 255)) (v := .pointer (some ⟨ab, ao + i, none⟩)) (by kernel_rfl) (ex_ix (u := .slice (some ⟨ab, ao, none⟩) n c0) (i := .int .i64 ((i : Nat) : Int)) (evN rfl rfl) (evN rfl rfl) (ix22 hi)) ?_
  refine s_ex 3 257 (.load 25 (.tmp 256)) (v := .int .u32 ((dl : Nat) : Int)) (by kernel_rfl) (ex_ld (u := .pointer (some ⟨ab, ao + i, none⟩)) (evN rfl rfl) (ld25 ha)) ?_
  refine s_ex 4 258 (.move (.tmp 13)) (v := .int .i64 ((g : Nat) : Int)) (by kernel_rfl) (ex_mv (evN rfl h13)) ?_
  refine s_call 5 259 (.call { callee := .value (.func 9), args := #[(.tmp 257), (.tmp 258)], argTypes := #[25, 27] }) (fn := 9) (args := #[.int .u32 ((dl : Nat) : Int), .int .i64 ((g : Nat) : Int)]) (by kernel_rfl) (ex_fn2 (cf9 _) (evN rfl rfl) (evN rfl rfl)) (btickR hg hg2 hdl) ?_
  rintro _ _ ⟨rfl, rfl⟩
  refine s_ex 6 32 (.assign (.tmp 259)) (v := .int .u64 ((tck dl g : Nat) : Int)) (by kernel_rfl) (ex_as (evN rfl rfl)) ?_
  exact s_end (by kernel_rfl) (hK _  (((((((Same.refl.put 254 _).put 255 _).put 256 _).put 257 _).put 258 _).put 259 _).put 32 _) rfl)
set_option maxRecDepth 100000 in
set_option maxHeartbeats 400000 in
theorem m57 (T bd : Nat) (wa : World) (hbd : bd < 4294967296) (f : Nat → Value) (h4 : f 4 = .int .u32 ((bd : Nat) : Int)) (h32 : f 32 = .int .u64 ((T : Nat) : Int)) (K : Act → World → Prop)
    (hK : ∀ (f' : Nat → Value), Same f f' [263, 262, 261, 260] → f' 263 = .bool (decide (((T : Nat) : Int) < ((bd : Nat) : Int))) → K (Fm 309 f') (wa)) :
    Code.wp Ybaf.prog (headC (headC (dropC 3 b3g))) (only K) (Fm 309 f) wa := by
  refine regN (by kernel_rfl) ?_
  refine s_ex 0 260 (.move (.tmp 32)) (v := .int .u64 ((T : Nat) : Int)) (by kernel_rfl) (ex_mv (evN rfl h32)) ?_
  refine s_ex 1 261 (.move (.tmp 4)) (v := .int .u32 ((bd : Nat) : Int)) (by kernel_rfl) (ex_mv (evN rfl h4)) ?_
  refine s_ex 2 262 (.convert 25 35 (.tmp 261)) (v := .int .u64 ((bd : Nat) : Int)) (by kernel_rfl) (ex_cv (u := .int .u32 ((bd : Nat) : Int)) (evN rfl rfl) (cv2535 hbd)) ?_
  refine s_ex 3 263 (.binOp .lss 35 (.tmp 260) (.tmp 262) 35) (v := .bool (decide (((T : Nat) : Int) < ((bd : Nat) : Int)))) (by kernel_rfl) (ex_bn (u := .int .u64 ((T : Nat) : Int)) (u' := .int .u64 ((bd : Nat) : Int)) (evN rfl rfl) (evN rfl rfl) (lssV rfl)) ?_
  exact s_end (by kernel_rfl) (hK _  ((((Same.refl.put 260 _).put 261 _).put 262 _).put 263 _) rfl)
set_option maxRecDepth 100000 in
set_option maxHeartbeats 400000 in
theorem m58 (b : Bool) (wa : World) (f : Nat → Value) (h31 : f 31 = .bool b) (K : Act → World → Prop)
    (hK : ∀ (f' : Nat → Value), Same f f' [264] → f' 264 = .bool b → K (Fm 309 f') (wa)) :
    Code.wp Ybaf.prog (headC (headC (thnC (tailC (headC (dropC 3 b3g)))))) (only K) (Fm 309 f) wa := by
  refine regN (by kernel_rfl) ?_
  refine s_ex 0 264 (.move (.tmp 31)) (v := .bool b) (by kernel_rfl) (ex_mv (evN rfl h31)) ?_
  exact s_end (by kernel_rfl) (hK _  (Same.refl.put 264 _) rfl)
set_option maxRecDepth 100000 in
set_option maxHeartbeats 400000 in
theorem m60 (ab ao n c0 i dl : Nat) (wa : World) (hi : i < n) (hdl : dl < 4294967296) (ha : wa.cell? ⟨ab, ao + i, none⟩ = some (.int .u32 ((dl : Nat) : Int))) (f : Nat → Value) (h0 : f 0 = .slice (some ⟨ab, ao, none⟩) n c0) (h29 : f 29 = .int .i64 ((i : Nat) : Int)) (h30 : f 30 = .int .i64 ((dl : Nat) : Int)) (h31 : f 31 = .bool true) (K : Act → World → Prop)
    (hK : ∀ (f' : Nat → Value), Same f f' [275, 274, 273, 272, 271, 270, 269, 268, 267, 266, 265] → f' 275 = .bool false → K (Fm 309 f') (wa)) :
    Code.wp Ybaf.prog (headC (headC (dropC 4 b3g))) (only K) (Fm 309 f) wa := by
  refine regN (by kernel_rfl) ?_
  refine s_ex 0 265 (.move (.tmp 31)) (v := .bool true) (by kernel_rfl) (ex_mv (evN rfl h31)) ?_
  refine s_ex 1 266 (.unOp .not 4 (.tmp 265)) (v := .bool false) (by kernel_rfl) (ex_not (b := true) (evN rfl rfl)) ?_
  refine s_ex 2 267 (.move (.tmp 266)) (v := .bool false) (by kernel_rfl) (ex_mv (evN rfl rfl)) ?_
  refine s_g 3 268 2 267 false (.move (.tmp 30)) (v := .int .i64 ((dl : Nat) : Int)) (by kernel_rfl) (by kernel_rfl) (by rfl) (by rfl) (ex_mv (evN rfl h30)) ?_
  refine s_g 4 269 2 267 false (.move (.tmp 0)) (v := .slice (some ⟨ab, ao, none⟩) n c0) (by kernel_rfl) (by kernel_rfl) (by rfl) (by rfl) (ex_mv (evN rfl h0)) ?_
  refine s_g 5 270 2 267 false (.move (.tmp 29)) (v := .int .i64 ((i : Nat) : Int)) (by kernel_rfl) (by kernel_rfl) (by rfl) (by rfl) (ex_mv (evN rfl h29)) ?_
  refine s_g 6 271 2 267 false (.indexAddr 22 (.tmp 269) (.tmp 270)) (v := .pointer (some ⟨ab, ao + i, none⟩)) (by kernel_rfl) (by kernel_rfl) (by rfl) (by rfl) (ex_ix (u := .slice (some ⟨ab, ao, none⟩) n c0) (i := .int .i64 ((i : Nat) : Int)) (evN rfl rfl) (evN rfl rfl) (ix22 hi)) ?_
  refine s_g 7 272 2 267 false (.load 25 (.tmp 271)) (v := .int .u32 ((dl : Nat) : Int)) (by kernel_rfl) (by kernel_rfl) (by rfl) (by rfl) (ex_ld (u := .pointer (some ⟨ab, ao + i, none⟩)) (evN rfl rfl) (ld25 ha)) ?_
  refine s_g 8 273 2 267 false (.convert 25 27 (.tmp 272)) (v := .int .i64 ((dl : Nat) : Int)) (by kernel_rfl) (by kernel_rfl) (by rfl) (by rfl) (ex_cv (u := .int .u32 ((dl : Nat) : Int)) (evN rfl rfl) (cv2527 hdl)) ?_
  refine s_g 9 274 2 267 false (.binOp .neq 27 (.tmp 268) (.tmp 273) 27) (v := .bool false) (by kernel_rfl) (by kernel_rfl) (by rfl) (by rfl) (ex_bn (u := .int .i64 ((dl : Nat) : Int)) (u' := .int .i64 ((dl : Nat) : Int)) (evN rfl rfl) (evN rfl rfl) (neqD (by simp))) ?_
  refine s_ex 10 275 (.pick (.tmp 267) (.const (.bool true)) (.tmp 274)) (v := .bool false) (by kernel_rfl) (ex_pickf (evN rfl rfl) (evN rfl rfl)) ?_
  exact s_end (by kernel_rfl) (hK _  (((((((((((Same.refl.put 265 _).put 266 _).put 267 _).put 268 _).put 269 _).put 270 _).put 271 _).put 272 _).put 273 _).put 274 _).put 275 _) rfl)
set_option maxRecDepth 100000 in
set_option maxHeartbeats 400000 in
theorem m62 (T tk : Nat) (wa : World) (hT : T < 18446744073709551616) (ht : tk < 4294967296) (f : Nat → Value) (h3 : f 3 = .int .u32 ((tk : Nat) : Int)) (h32 : f 32 = .int .u64 ((T : Nat) : Int)) (K : Act → World → Prop)
    (hK : ∀ (f' : Nat → Value), Same f f' [33, 279, 278, 277, 276] → f' 33 = .int .i32 ((lst T tk : Nat) : Int) → K (Fm 309 f') (wa)) :
    Code.wp Ybaf.prog (headC (dropC 5 b3g)) (only K) (Fm 309 f) wa := by
  refine regN (by kernel_rfl) ?_
  refine s_ex 0 276 (.move (.tmp 32)) (v := .int .u64 ((T : Nat) : Int)) (by kernel_rfl) (ex_mv (evN rfl h32)) ?_
  refine s_ex 1 277 (.move (.tmp 3)) (v := .int .u32 ((tk : Nat) : Int)) (by kernel_rfl) (ex_mv (evN rfl h3)) ?_
  refine s_ex 2 278 (.convert 25 35 (.tmp 277)) (v := .int .u64 ((tk : Nat) : Int)) (by kernel_rfl) (ex_cv (u := .int .u32 ((tk : Nat) : Int)) (evN rfl rfl) (cv2535 ht)) ?_
  refine s_call 3 279 (.call { callee := .value (.func 11), args := #[(.tmp 276), (.tmp 278)], argTypes := #[35, 35] }) (fn := 11) (args := #[.int .u64 ((T : Nat) : Int), .int .u64 ((tk : Nat) : Int)]) (by kernel_rfl) (ex_fn2 (cf11 _) (evN rfl rfl) (evN rfl rfl)) (blistR hT (by omega)) ?_
  rintro _ _ ⟨rfl, rfl⟩
  refine s_ex 4 33 (.assign (.tmp 279)) (v := .int .i32 ((lst T tk : Nat) : Int)) (by kernel_rfl) (ex_as (evN rfl rfl)) ?_
  exact s_end (by kernel_rfl) (hK _  (((((Same.refl.put 276 _).put 277 _).put 278 _).put 279 _).put 33 _) rfl)
set_option maxRecDepth 100000 in
set_option maxHeartbeats 400000 in
theorem m63 (D l : Nat) (z : Int) (wa : World) (hl : l ≤ 704) (hz : wa.cell? ⟨D, 4 + l, none⟩ = some (.int .i32 z)) (f : Nat → Value) (h15 : f 15 = .pointer (some ⟨D, 0, none⟩)) (h33 : f 33 = .int .i32 ((l : Nat) : Int)) (K : Act → World → Prop)
    (hK : ∀ (f' : Nat → Value), Same f f' [34, 285, 284, 283, 282, 281, 280] → f' 34 = .int .i32 z → K (Fm 309 f') (wa)) :
    Code.wp Ybaf.prog (headC (dropC 6 b3g)) (only K) (Fm 309 f) wa := by
  refine regN (by kernel_rfl) ?_
  refine s_ex 0 280 (.move (.tmp 15)) (v := .pointer (some ⟨D, 0, none⟩)) (by kernel_rfl) (ex_mv (evN rfl h15)) ?_
  refine s_ex 1 281 (.move (.tmp 33)) (v := .int .i32 ((l : Nat) : Int)) (by kernel_rfl) (ex_mv (evN rfl h33)) ?_
  refine s_ex 2 282 (.nilCheck (.tmp 280)) (v := .pointer (some ⟨D, 0, none⟩)) (by kernel_rfl) (ex_nc (evN rfl rfl)) ?_
  refine s_ex 3 283 (.fieldAddr 42 (.tmp 282) 4) (v := .pointer (some ⟨D, 4, none⟩)) (by kernel_rfl) (ex_fa (u := .pointer (some ⟨D, 0, none⟩)) (evN rfl rfl) (fa42_4)) ?_
  refine s_ex 4 284 (.indexAddr 37 (.tmp 283) (.tmp 281)) (v := .pointer (some ⟨D, 4 + l, none⟩)) (by kernel_rfl) (ex_ix (u := .pointer (some ⟨D, 4, none⟩)) (i := .int .i32 ((l : Nat) : Int)) (evN rfl rfl) (evN rfl rfl) (ix37_i32 (by omega))) ?_
  refine s_ex 5 285 (.load 21 (.tmp 284)) (v := .int .i32 z) (by kernel_rfl) (ex_ld (u := .pointer (some ⟨D, 4 + l, none⟩)) (evN rfl rfl) (ld21 hz)) ?_
  refine s_ex 6 34 (.assign (.tmp 285)) (v := .int .i32 z) (by kernel_rfl) (ex_as (evN rfl rfl)) ?_
  exact s_end (by kernel_rfl) (hK _  (((((((Same.refl.put 280 _).put 281 _).put 282 _).put 283 _).put 284 _).put 285 _).put 34 _) rfl)
set_option maxRecDepth 100000 in
set_option maxHeartbeats 400000 in
theorem m64 (wa : World) (f : Nat → Value)  (K : Act → World → Prop)
    (hK : ∀ (f' : Nat → Value), Same f f' [35] → f' 35 = .bool false → K (Fm 309 f') (wa)) :
    Code.wp Ybaf.prog (headC (dropC 7 b3g)) (only K) (Fm 309 f) wa := by
  refine regN (by kernel_rfl) ?_
  refine s_ex 0 35 (.assign (.const (.bool false))) (v := .bool false) (by kernel_rfl) (ex_as rfl) ?_
  exact s_end (by kernel_rfl) (hK _  (Same.refl.put 35 _) rfl)
set_option maxRecDepth 100000 in
set_option maxHeartbeats 400000 in
theorem m65 (wa : World) (f : Nat → Value)  (K : Act → World → Prop)
    (hK : ∀ (f' : Nat → Value), Same f f' [36] → f' 36 = .int .i64 ((0 : Nat) : Int) → K (Fm 309 f') (wa)) :
    Code.wp Ybaf.prog (headC (headC (dropC 8 b3g))) (only K) (Fm 309 f) wa := by
  refine regN (by kernel_rfl) ?_
  refine s_ex 0 36 (.assign (.const (.int .i64 0))) (v := .int .i64 0) (by kernel_rfl) (ex_as rfl) ?_
  exact s_end (by kernel_rfl) (hK _  (Same.refl.put 36 _) rfl)
set_option maxRecDepth 100000 in
set_option maxHeartbeats 400000 in
theorem m66 (c s n : Nat) (wa : World) (h : s ≤ n) (f : Nat → Value) (h14 : f 14 = .int .i64 ((n : Nat) : Int)) (h34 : f 34 = .int .i32 ((c : Nat) : Int)) (h36 : f 36 = .int .i64 ((s : Nat) : Int)) (K : Act → World → Prop)
    (hK : ∀ (f' : Nat → Value), Same f f' [292, 291, 290, 289, 288, 287, 286] → f' 292 = .bool true → K (Fm 309 f') (wa)) :
    Code.wp Ybaf.prog (headC (headC l3h)) (only K) (Fm 309 f) wa := by
  refine regN (by kernel_rfl) ?_
  refine s_ex 0 286 (.move (.tmp 34)) (v := .int .i32 ((c : Nat) : Int)) (by kernel_rfl) (ex_mv (evN rfl h34)) ?_
  refine s_ex 1 287 (.binOp .neq 21 (.tmp 286) (.const (.int .i32 (-1))) 21) (v := .bool true) (by kernel_rfl) (ex_bn (u := .int .i32 ((c : Nat) : Int)) (u' := .int .i32 (-1)) (evN rfl rfl) rfl (neqW (by simp))) ?_
  refine s_ex 2 288 (.move (.tmp 287)) (v := .bool true) (by kernel_rfl) (ex_mv (evN rfl rfl)) ?_
  refine s_g 3 289 2 288 true (.move (.tmp 36)) (v := .int .i64 ((s : Nat) : Int)) (by kernel_rfl) (by kernel_rfl) (by rfl) (by rfl) (ex_mv (evN rfl h36)) ?_
  refine s_g 4 290 2 288 true (.move (.tmp 14)) (v := .int .i64 ((n : Nat) : Int)) (by kernel_rfl) (by kernel_rfl) (by rfl) (by rfl) (ex_mv (evN rfl h14)) ?_
  refine s_g 5 291 2 288 true (.binOp .leq 3 (.tmp 289) (.tmp 290) 3) (v := .bool true) (by kernel_rfl) (by kernel_rfl) (by rfl) (by rfl) (ex_bn (u := .int .i64 ((s : Nat) : Int)) (u' := .int .i64 ((n : Nat) : Int)) (evN rfl rfl) (evN rfl rfl) (leqI (decide_eq_true (by omega)))) ?_
  refine s_ex 6 292 (.pick (.tmp 288) (.tmp 291) (.const (.bool false))) (v := .bool true) (by kernel_rfl) (ex_pickt (evN rfl rfl) (evN rfl rfl)) ?_
  exact s_end (by kernel_rfl) (hK _  (((((((Same.refl.put 286 _).put 287 _).put 288 _).put 289 _).put 290 _).put 291 _).put 292 _) rfl)
set_option maxRecDepth 100000 in
set_option maxHeartbeats 400000 in
theorem m67 (s : Nat) (wa : World) (hs : s < 100000) (f : Nat → Value) (h36 : f 36 = .int .i64 ((s : Nat) : Int)) (K : Act → World → Prop)
    (hK : ∀ (f' : Nat → Value), Same f f' [36, 294, 293] → f' 36 = .int .i64 (((s : Nat) : Int) + 1) → K (Fm 309 f') (wa)) :
    Code.wp Ybaf.prog (dropC 2 l3h) (only K) (Fm 309 f) wa := by
  refine regN (by kernel_rfl) ?_
  refine s_ex 0 293 (.move (.tmp 36)) (v := .int .i64 ((s : Nat) : Int)) (by kernel_rfl) (ex_mv (evN rfl h36)) ?_
  refine s_ex 1 294 (.binOp .add 3 (.tmp 293) (.const (.int .i64 1)) 3) (v := .int .i64 (((s : Nat) : Int) + 1)) (by kernel_rfl) (ex_bn (u := .int .i64 ((s : Nat) : Int)) (u' := .int .i64 1) (evN rfl rfl) rfl (addI rfl (by omega) (by omega))) ?_
  refine s_ex 2 36 (.assign (.tmp 294)) (v := .int .i64 (((s : Nat) : Int) + 1)) (by kernel_rfl) (ex_as (evN rfl rfl)) ?_
  exact s_end (by kernel_rfl) (hK _  (((Same.refl.put 293 _).put 294 _).put 36 _) rfl)
set_option maxRecDepth 100000 in
set_option maxHeartbeats 400000 in
theorem m68 (c i : Nat) (wa : World) (hi : i < 100000) (f : Nat → Value) (h29 : f 29 = .int .i64 ((i : Nat) : Int)) (h34 : f 34 = .int .i32 ((c : Nat) : Int)) (K : Act → World → Prop)
    (hK : ∀ (f' : Nat → Value), Same f f' [298, 297, 296, 295] → f' 298 = .bool (((c : Nat) : Int) == ((i : Nat) : Int)) → K (Fm 309 f') (wa)) :
    Code.wp Ybaf.prog (headC (headC b3h)) (only K) (Fm 309 f) wa := by
  refine regN (by kernel_rfl) ?_
  refine s_ex 0 295 (.move (.tmp 34)) (v := .int .i32 ((c : Nat) : Int)) (by kernel_rfl) (ex_mv (evN rfl h34)) ?_
  refine s_ex 1 296 (.move (.tmp 29)) (v := .int .i64 ((i : Nat) : Int)) (by kernel_rfl) (ex_mv (evN rfl h29)) ?_
  refine s_ex 2 297 (.convert 3 21 (.tmp 296)) (v := .int .i32 ((i : Nat) : Int)) (by kernel_rfl) (ex_cv (u := .int .i64 ((i : Nat) : Int)) (evN rfl rfl) (cv321 (by omega))) ?_
  refine s_ex 3 298 (.binOp .eql 21 (.tmp 295) (.tmp 297) 21) (v := .bool (((c : Nat) : Int) == ((i : Nat) : Int))) (by kernel_rfl) (ex_bn (u := .int .i32 ((c : Nat) : Int)) (u' := .int .i32 ((i : Nat) : Int)) (evN rfl rfl) (evN rfl rfl) (eqlW rfl)) ?_
  exact s_end (by kernel_rfl) (hK _  ((((Same.refl.put 295 _).put 296 _).put 297 _).put 298 _) rfl)
set_option maxRecDepth 100000 in
set_option maxHeartbeats 400000 in
theorem m69 (wa : World) (f : Nat → Value)  (K : Act → World → Prop)
    (hK : ∀ (f' : Nat → Value), Same f f' [35] → f' 35 = .bool true → K (Fm 309 f') (wa)) :
    Code.wp Ybaf.prog (headC (thnC (tailC (headC b3h)))) (only K) (Fm 309 f) wa := by
  refine regN (by kernel_rfl) ?_
  refine s_ex 0 35 (.assign (.const (.bool true))) (v := .bool true) (by kernel_rfl) (ex_as rfl) ?_
  exact s_end (by kernel_rfl) (hK _  (Same.refl.put 35 _) rfl)
set_option maxRecDepth 100000 in
set_option maxHeartbeats 400000 in
theorem m70 (D C n c : Nat) (z : Int) (wa : World) (hc : c < n) (hs : wa.cell? ⟨D, 3, none⟩ = some (.slice (some ⟨C, 0, none⟩) n n)) (hz : wa.cell? ⟨C, c * 3 + 1, none⟩ = some (.int .i32 z)) (f : Nat → Value) (h15 : f 15 = .pointer (some ⟨D, 0, none⟩)) (h34 : f 34 = .int .i32 ((c : Nat) : Int)) (K : Act → World → Prop)
    (hK : ∀ (f' : Nat → Value), Same f f' [34, 306, 305, 304, 303, 302, 301, 300, 299] → f' 34 = .int .i32 z → K (Fm 309 f') (wa)) :
    Code.wp Ybaf.prog (tailC b3h) (only K) (Fm 309 f) wa := by
  refine regN (by kernel_rfl) ?_
  refine s_ex 0 299 (.move (.tmp 15)) (v := .pointer (some ⟨D, 0, none⟩)) (by kernel_rfl) (ex_mv (evN rfl h15)) ?_
  refine s_ex 1 300 (.nilCheck (.tmp 299)) (v := .pointer (some ⟨D, 0, none⟩)) (by kernel_rfl) (ex_nc (evN rfl rfl)) ?_
  refine s_ex 2 301 (.fieldAddr 42 (.tmp 300) 3) (v := .pointer (some ⟨D, 3, none⟩)) (by kernel_rfl) (ex_fa (u := .pointer (some ⟨D, 0, none⟩)) (evN rfl rfl) (fa42_3)) ?_
  refine s_ex 3 302 (.load 36 (.tmp 301)) (v := .slice (some ⟨C, 0, none⟩) n n) (by kernel_rfl) (ex_ld (u := .pointer (some ⟨D, 3, none⟩)) (evN rfl rfl) (ld36 hs)) ?_
  refine s_ex 4 303 (.move (.tmp 34)) (v := .int .i32 ((c : Nat) : Int)) (by kernel_rfl) (ex_mv (evN rfl h34)) ?_
  refine s_ex 5 304 (.indexAddr 36 (.tmp 302) (.tmp 303)) (v := .pointer (some ⟨C, c * 3, none⟩)) (by kernel_rfl) (ex_ix (u := .slice (some ⟨C, 0, none⟩) n n) (i := .int .i32 ((c : Nat) : Int)) (evN rfl rfl) (evN rfl rfl) (ix36_i32 hc)) ?_
  refine s_ex 6 305 (.fieldAddr 44 (.tmp 304) 1) (v := .pointer (some ⟨C, c * 3 + 1, none⟩)) (by kernel_rfl) (ex_fa (u := .pointer (some ⟨C, c * 3, none⟩)) (evN rfl rfl) (fa44_1)) ?_
  refine s_ex 7 306 (.load 21 (.tmp 305)) (v := .int .i32 z) (by kernel_rfl) (ex_ld (u := .pointer (some ⟨C, c * 3 + 1, none⟩)) (evN rfl rfl) (ld21 hz)) ?_
  refine s_ex 8 34 (.assign (.tmp 306)) (v := .int .i32 z) (by kernel_rfl) (ex_as (evN rfl rfl)) ?_
  exact s_end (by kernel_rfl) (hK _  (((((((((Same.refl.put 299 _).put 300 _).put 301 _).put 302 _).put 303 _).put 304 _).put 305 _).put 306 _).put 34 _) rfl)
set_option maxRecDepth 100000 in
set_option maxHeartbeats 400000 in
theorem m71 (b : Bool) (wa : World) (f : Nat → Value) (h35 : f 35 = .bool b) (K : Act → World → Prop)
    (hK : ∀ (f' : Nat → Value), Same f f' [308, 307] → f' 308 = .bool (!b) → K (Fm 309 f') (wa)) :
    Code.wp Ybaf.prog (headC (dropC 9 b3g)) (only K) (Fm 309 f) wa := by
  refine regN (by kernel_rfl) ?_
  refine s_ex 0 307 (.move (.tmp 35)) (v := .bool b) (by kernel_rfl) (ex_mv (evN rfl h35)) ?_
  refine s_ex 1 308 (.unOp .not 4 (.tmp 307)) (v := .bool (!b)) (by kernel_rfl) (ex_not (b := b) (evN rfl rfl)) ?_
  exact s_end (by kernel_rfl) (hK _  ((Same.refl.put 307 _).put 308 _) rfl)
set_option maxRecDepth 100000 in
set_option maxHeartbeats 400000 in
theorem m73 (wa : World) (f : Nat → Value)  (K : Act → World → Prop)
    (hK : ∀ (f' : Nat → Value), Same f f' [12] → f' 12 = .bool true → K (Fm 309 f') (wa)) :
    Code.wp Ybaf.prog (headC (dropC 19 l3)) (only K) (Fm 309 f) wa := by
  refine regN (by kernel_rfl) ?_
  refine s_ex 0 12 (.assign (.const (.bool true))) (v := .bool true) (by kernel_rfl) (ex_as rfl) ?_
  exact s_end (by kernel_rfl) (hK _  (Same.refl.put 12 _) rfl)
end Go.Proofs.YbulkblsgFmt

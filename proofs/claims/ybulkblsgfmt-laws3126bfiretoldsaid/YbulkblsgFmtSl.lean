import Derived.Test.YbulkblsgFmtSk
import Derived.Test.YbulkblsgFmtOn
namespace Go.Proofs.YbulkblsgFmt
open Go.RowKit Go.Sort
set_option linter.unusedVariables false
set_option linter.unusedSimpArgs false
noncomputable def l39 : Code := Ybaf.f39.body.getD .skip
noncomputable def p39 : Code := blkC (lupC (blkC (dropC 2 l39)))
theorem cf39 (w : World) (args : Array Value) : (callFunc 39 args).run Ybaf.prog w = .ok (.enter 39 args) w := by kernel_rfl
theorem cf45 (w : World) (args : Array Value) : (callFunc 45 args).run Ybaf.prog w = .ok (.enter 45 args) w := by kernel_rfl
theorem cf46 (w : World) (args : Array Value) : (callFunc 46 args).run Ybaf.prog w = .ok (.enter 46 args) w := by kernel_rfl
theorem cf47 (w : World) (args : Array Value) : (callFunc 47 args).run Ybaf.prog w = .ok (.enter 47 args) w := by kernel_rfl
theorem cf48 (w : World) (args : Array Value) : (callFunc 48 args).run Ybaf.prog w = .ok (.enter 48 args) w := by kernel_rfl
theorem cf49 (w : World) (args : Array Value) : (callFunc 49 args).run Ybaf.prog w = .ok (.enter 49 args) w := by kernel_rfl
theorem cf50 (w : World) (args : Array Value) : (callFunc 50 args).run Ybaf.prog w = .ok (.enter 50 args) w := by kernel_rfl
theorem cf51 (w : World) (args : Array Value) : (callFunc 51 args).run Ybaf.prog w = .ok (.enter 51 args) w := by kernel_rfl
theorem cf52 (w : World) (args : Array Value) : (callFunc 52 args).run Ybaf.prog w = .ok (.enter 52 args) w := by kernel_rfl
theorem cf102 (w : World) (args : Array Value) : (callFunc 102 args).run Ybaf.prog w = .ok (.enter 102 args) w := by kernel_rfl
theorem cf103 (w : World) (args : Array Value) : (callFunc 103 args).run Ybaf.prog w = .ok (.enter 103 args) w := by kernel_rfl
theorem cf104 (w : World) (args : Array Value) : (callFunc 104 args).run Ybaf.prog w = .ok (.enter 104 args) w := by kernel_rfl
set_option maxRecDepth 100000 in
set_option maxHeartbeats 400000 in
theorem q0 (wa : World) (f : Nat → Value)  (K : Act → World → Prop)
    (hK : ∀ (f' : Nat → Value), Same f f' [8] → f' 8 = .bool true → K (Fm 129 f') (wa)) :
    Code.wp Ybaf.prog (headC l39) (only K) (Fm 129 f) wa := by
  refine regN (by kernel_rfl) ?_
  refine s_ex 0 8 (.assign (.const (.bool true))) (v := .bool true) (by kernel_rfl) (ex_as rfl) ?_
  exact s_end (by kernel_rfl) (hK _  (Same.refl.put 8 _) rfl)
set_option maxRecDepth 100000 in
set_option maxHeartbeats 400000 in
theorem q1 (wa : World) (f : Nat → Value)  (K : Act → World → Prop)
    (hK : ∀ (f' : Nat → Value), Same f f' [9] → f' 9 = .bool true → K (Fm 129 f') (wa)) :
    Code.wp Ybaf.prog (headC (dropC 1 l39)) (only K) (Fm 129 f) wa := by
  refine regN (by kernel_rfl) ?_
  refine s_ex 0 9 (.assign (.const (.bool true))) (v := .bool true) (by kernel_rfl) (ex_as rfl) ?_
  exact s_end (by kernel_rfl) (hK _  (Same.refl.put 9 _) rfl)
set_option maxRecDepth 100000 in
set_option maxHeartbeats 400000 in
theorem q2 (a b : Nat) (wa : World) (hb : b ≤ 4611686018427387904) (ha : a ≤ 4611686018427387904) (f : Nat → Value) (h1 : f 1 = .int .i64 ((a : Nat) : Int)) (h2 : f 2 = .int .i64 ((b : Nat) : Int)) (K : Act → World → Prop)
    (hK : ∀ (f' : Nat → Value), Same f f' [10, 21, 20, 19] → f' 10 = .int .i64 (((b : Nat) : Int) - ((a : Nat) : Int)) → K (Fm 129 f') (wa)) :
    Code.wp Ybaf.prog (headC p39) (only K) (Fm 129 f) wa := by
  refine regN (by kernel_rfl) ?_
  refine s_ex 0 19 (.move (.tmp 2)) (v := .int .i64 ((b : Nat) : Int)) (by kernel_rfl) (ex_mv (evN rfl h2)) ?_
  refine s_ex 1 20 (.move (.tmp 1)) (v := .int .i64 ((a : Nat) : Int)) (by kernel_rfl) (ex_mv (evN rfl h1)) ?_
  refine s_ex 2 21 (.binOp .sub 3 (.tmp 19) (.tmp 20) 3) (v := .int .i64 (((b : Nat) : Int) - ((a : Nat) : Int))) (by kernel_rfl) (ex_bn (u := .int .i64 ((b : Nat) : Int)) (u' := .int .i64 ((a : Nat) : Int)) (evN rfl rfl) (evN rfl rfl) (subI rfl (by omega) (by omega))) ?_
  refine s_ex 3 10 (.assign (.tmp 21)) (v := .int .i64 (((b : Nat) : Int) - ((a : Nat) : Int))) (by kernel_rfl) (ex_as (evN rfl rfl)) ?_
  exact s_end (by kernel_rfl) (hK _  ((((Same.refl.put 19 _).put 20 _).put 21 _).put 10 _) rfl)
set_option maxRecDepth 100000 in
set_option maxHeartbeats 400000 in
theorem q3 (n : Int) (wa : World) (f : Nat → Value) (h10 : f 10 = .int .i64 n) (K : Act → World → Prop)
    (hK : ∀ (f' : Nat → Value), Same f f' [23, 22] → f' 23 = .bool (decide (n ≤ 12)) → K (Fm 129 f') (wa)) :
    Code.wp Ybaf.prog (headC (headC (dropC 1 p39))) (only K) (Fm 129 f) wa := by
  refine regN (by kernel_rfl) ?_
  refine s_ex 0 22 (.move (.tmp 10)) (v := .int .i64 n) (by kernel_rfl) (ex_mv (evN rfl h10)) ?_
  refine s_ex 1 23 (.binOp .leq 3 (.tmp 22) (.const (.int .i64 12)) 3) (v := .bool (decide (n ≤ 12))) (by kernel_rfl) (ex_bn (u := .int .i64 n) (u' := .int .i64 12) (evN rfl rfl) rfl (leqI rfl)) ?_
  exact s_end (by kernel_rfl) (hK _  ((Same.refl.put 22 _).put 23 _) rfl)
set_option maxRecDepth 100000 in
set_option maxHeartbeats 400000 in
theorem q4 (rv : Value) (a b : Nat) (wa : World) (R : Value → World → Prop) (hc : CallR 45 #[.iface 83 rv, .int .i64 ((a : Nat) : Int), .int .i64 ((b : Nat) : Int)] wa R) (f : Nat → Value) (h0 : f 0 = .iface 83 rv) (h1 : f 1 = .int .i64 ((a : Nat) : Int)) (h2 : f 2 = .int .i64 ((b : Nat) : Int)) (K : Act → World → Prop)
    (hK : ∀ (f' : Nat → Value) (v : Value) (wx : World), Same f f' [27, 26, 25, 24] → R v wx → K (Fm 129 f') (wx)) :
    Code.wp Ybaf.prog (headC (thnC (tailC (headC (dropC 1 p39))))) (only K) (Fm 129 f) wa := by
  refine regN (by kernel_rfl) ?_
  refine s_ex 0 24 (.move (.tmp 0)) (v := .iface 83 rv) (by kernel_rfl) (ex_mv (evN rfl h0)) ?_
  refine s_ex 1 25 (.move (.tmp 1)) (v := .int .i64 ((a : Nat) : Int)) (by kernel_rfl) (ex_mv (evN rfl h1)) ?_
  refine s_ex 2 26 (.move (.tmp 2)) (v := .int .i64 ((b : Nat) : Int)) (by kernel_rfl) (ex_mv (evN rfl h2)) ?_
  refine s_call 3 27 (.call { callee := .value (.func 45), args := #[(.tmp 24), (.tmp 25), (.tmp 26)], argTypes := #[104, 3, 3] }) (fn := 45) (args := #[.iface 83 rv, .int .i64 ((a : Nat) : Int), .int .i64 ((b : Nat) : Int)]) (by kernel_rfl) (ex_fn3 (cf45 _) (evN rfl rfl) (evN rfl rfl) (evN rfl rfl)) (hc) ?_
  intro v wx hR
  exact s_end (by kernel_rfl) (hK _ v wx ((((Same.refl.put 24 _).put 25 _).put 26 _).put 27 _) hR)
set_option maxRecDepth 100000 in
set_option maxHeartbeats 400000 in
theorem q5 (l : Nat) (wa : World) (f : Nat → Value) (h3 : f 3 = .int .i64 ((l : Nat) : Int)) (K : Act → World → Prop)
    (hK : ∀ (f' : Nat → Value), Same f f' [29, 28] → f' 29 = .bool (((l : Nat) : Int) == 0) → K (Fm 129 f') (wa)) :
    Code.wp Ybaf.prog (headC (headC (dropC 2 p39))) (only K) (Fm 129 f) wa := by
  refine regN (by kernel_rfl) ?_
  refine s_ex 0 28 (.move (.tmp 3)) (v := .int .i64 ((l : Nat) : Int)) (by kernel_rfl) (ex_mv (evN rfl h3)) ?_
  refine s_ex 1 29 (.binOp .eql 3 (.tmp 28) (.const (.int .i64 0)) 3) (v := .bool (((l : Nat) : Int) == 0)) (by kernel_rfl) (ex_bn (u := .int .i64 ((l : Nat) : Int)) (u' := .int .i64 0) (evN rfl rfl) rfl (eqlI rfl)) ?_
  exact s_end (by kernel_rfl) (hK _  ((Same.refl.put 28 _).put 29 _) rfl)
set_option maxRecDepth 100000 in
set_option maxHeartbeats 400000 in
theorem q6 (rv : Value) (a b : Nat) (wa : World) (R : Value → World → Prop) (hc : CallR 46 #[.iface 83 rv, .int .i64 ((a : Nat) : Int), .int .i64 ((b : Nat) : Int)] wa R) (f : Nat → Value) (h0 : f 0 = .iface 83 rv) (h1 : f 1 = .int .i64 ((a : Nat) : Int)) (h2 : f 2 = .int .i64 ((b : Nat) : Int)) (K : Act → World → Prop)
    (hK : ∀ (f' : Nat → Value) (v : Value) (wx : World), Same f f' [33, 32, 31, 30] → R v wx → K (Fm 129 f') (wx)) :
    Code.wp Ybaf.prog (headC (thnC (tailC (headC (dropC 2 p39))))) (only K) (Fm 129 f) wa := by
  refine regN (by kernel_rfl) ?_
  refine s_ex 0 30 (.move (.tmp 0)) (v := .iface 83 rv) (by kernel_rfl) (ex_mv (evN rfl h0)) ?_
  refine s_ex 1 31 (.move (.tmp 1)) (v := .int .i64 ((a : Nat) : Int)) (by kernel_rfl) (ex_mv (evN rfl h1)) ?_
  refine s_ex 2 32 (.move (.tmp 2)) (v := .int .i64 ((b : Nat) : Int)) (by kernel_rfl) (ex_mv (evN rfl h2)) ?_
  refine s_call 3 33 (.call { callee := .value (.func 46), args := #[(.tmp 30), (.tmp 31), (.tmp 32)], argTypes := #[104, 3, 3] }) (fn := 46) (args := #[.iface 83 rv, .int .i64 ((a : Nat) : Int), .int .i64 ((b : Nat) : Int)]) (by kernel_rfl) (ex_fn3 (cf46 _) (evN rfl rfl) (evN rfl rfl) (evN rfl rfl)) (hc) ?_
  intro v wx hR
  exact s_end (by kernel_rfl) (hK _ v wx ((((Same.refl.put 30 _).put 31 _).put 32 _).put 33 _) hR)
set_option maxRecDepth 100000 in
set_option maxHeartbeats 400000 in
theorem q7 (wb : Bool) (wa : World) (f : Nat → Value) (h8 : f 8 = .bool wb) (K : Act → World → Prop)
    (hK : ∀ (f' : Nat → Value), Same f f' [35, 34] → f' 35 = .bool (!wb) → K (Fm 129 f') (wa)) :
    Code.wp Ybaf.prog (headC (headC (dropC 3 p39))) (only K) (Fm 129 f) wa := by
  refine regN (by kernel_rfl) ?_
  refine s_ex 0 34 (.move (.tmp 8)) (v := .bool wb) (by kernel_rfl) (ex_mv (evN rfl h8)) ?_
  refine s_ex 1 35 (.unOp .not 4 (.tmp 34)) (v := .bool (!wb)) (by kernel_rfl) (ex_not (b := wb) (evN rfl rfl)) ?_
  exact s_end (by kernel_rfl) (hK _  ((Same.refl.put 34 _).put 35 _) rfl)
set_option maxRecDepth 100000 in
set_option maxHeartbeats 400000 in
theorem q8 (rv : Value) (a b : Nat) (wa : World) (R : Value → World → Prop) (hc : CallR 47 #[.iface 83 rv, .int .i64 ((a : Nat) : Int), .int .i64 ((b : Nat) : Int)] wa R) (f : Nat → Value) (h0 : f 0 = .iface 83 rv) (h1 : f 1 = .int .i64 ((a : Nat) : Int)) (h2 : f 2 = .int .i64 ((b : Nat) : Int)) (K : Act → World → Prop)
    (hK : ∀ (f' : Nat → Value) (v : Value) (wx : World), Same f f' [39, 38, 37, 36] → R v wx → K (Fm 129 f') (wx)) :
    Code.wp Ybaf.prog (headC (thnC (tailC (headC (dropC 3 p39))))) (only K) (Fm 129 f) wa := by
  refine regN (by kernel_rfl) ?_
  refine s_ex 0 36 (.move (.tmp 0)) (v := .iface 83 rv) (by kernel_rfl) (ex_mv (evN rfl h0)) ?_
  refine s_ex 1 37 (.move (.tmp 1)) (v := .int .i64 ((a : Nat) : Int)) (by kernel_rfl) (ex_mv (evN rfl h1)) ?_
  refine s_ex 2 38 (.move (.tmp 2)) (v := .int .i64 ((b : Nat) : Int)) (by kernel_rfl) (ex_mv (evN rfl h2)) ?_
  refine s_call 3 39 (.call { callee := .value (.func 47), args := #[(.tmp 36), (.tmp 37), (.tmp 38)], argTypes := #[104, 3, 3] }) (fn := 47) (args := #[.iface 83 rv, .int .i64 ((a : Nat) : Int), .int .i64 ((b : Nat) : Int)]) (by kernel_rfl) (ex_fn3 (cf47 _) (evN rfl rfl) (evN rfl rfl) (evN rfl rfl)) (hc) ?_
  intro v wx hR
  exact s_end (by kernel_rfl) (hK _ v wx ((((Same.refl.put 36 _).put 37 _).put 38 _).put 39 _) hR)
set_option maxRecDepth 100000 in
set_option maxHeartbeats 400000 in
theorem q9 (l : Nat) (wa : World) (hl : l < 1000) (f : Nat → Value) (h3 : f 3 = .int .i64 ((l : Nat) : Int)) (K : Act → World → Prop)
    (hK : ∀ (f' : Nat → Value), Same f f' [3, 41, 40] → f' 3 = .int .i64 (((l : Nat) : Int) - 1) → K (Fm 129 f') (wa)) :
    Code.wp Ybaf.prog (tailC (thnC (tailC (headC (dropC 3 p39))))) (only K) (Fm 129 f) wa := by
  refine regN (by kernel_rfl) ?_
  refine s_ex 0 40 (.move (.tmp 3)) (v := .int .i64 ((l : Nat) : Int)) (by kernel_rfl) (ex_mv (evN rfl h3)) ?_
  refine s_ex 1 41 (.binOp .sub 3 (.tmp 40) (.const (.int .i64 1)) 3) (v := .int .i64 (((l : Nat) : Int) - 1)) (by kernel_rfl) (ex_bn (u := .int .i64 ((l : Nat) : Int)) (u' := .int .i64 1) (evN rfl rfl) rfl (subI rfl (by omega) (by omega))) ?_
  refine s_ex 2 3 (.assign (.tmp 41)) (v := .int .i64 (((l : Nat) : Int) - 1)) (by kernel_rfl) (ex_as (evN rfl rfl)) ?_
  exact s_end (by kernel_rfl) (hK _  (((Same.refl.put 40 _).put 41 _).put 3 _) rfl)
set_option maxRecDepth 100000 in
set_option maxHeartbeats 400000 in
theorem q10 (rv : Value) (a b : Nat) (wa : World) (R : Value → Value → World → Prop) (hc : CallR 48 #[.iface 83 rv, .int .i64 ((a : Nat) : Int), .int .i64 ((b : Nat) : Int)] wa fun v w' => ∃ x y : Value, v = .tuple #[x, y] ∧ R x y w') (f : Nat → Value) (h0 : f 0 = .iface 83 rv) (h1 : f 1 = .int .i64 ((a : Nat) : Int)) (h2 : f 2 = .int .i64 ((b : Nat) : Int)) (K : Act → World → Prop)
    (hK : ∀ (f' : Nat → Value) (x y : Value) (wx : World), Same f f' [12, 11, 48, 47, 42, 46, 45, 44, 43] → f' 11 = x → f' 12 = y → R x y wx → K (Fm 129 f') (wx)) :
    Code.wp Ybaf.prog (headC (dropC 4 p39)) (only K) (Fm 129 f) wa := by
  refine regN (by kernel_rfl) ?_
  refine s_ex 0 43 (.move (.tmp 0)) (v := .iface 83 rv) (by kernel_rfl) (ex_mv (evN rfl h0)) ?_
  refine s_ex 1 44 (.move (.tmp 1)) (v := .int .i64 ((a : Nat) : Int)) (by kernel_rfl) (ex_mv (evN rfl h1)) ?_
  refine s_ex 2 45 (.move (.tmp 2)) (v := .int .i64 ((b : Nat) : Int)) (by kernel_rfl) (ex_mv (evN rfl h2)) ?_
  refine s_call 3 46 (.call { callee := .value (.func 48), args := #[(.tmp 43), (.tmp 44), (.tmp 45)], argTypes := #[104, 3, 3] }) (fn := 48) (args := #[.iface 83 rv, .int .i64 ((a : Nat) : Int), .int .i64 ((b : Nat) : Int)]) (by kernel_rfl) (ex_fn3 (cf48 _) (evN rfl rfl) (evN rfl rfl) (evN rfl rfl)) (hc) ?_
  rintro _ wx ⟨x, y, rfl, hR⟩
  refine s_ex 4 42 (.move (.tmp 46)) (v := .tuple #[x, y]) (by kernel_rfl) (ex_mv (evN rfl rfl)) ?_
  refine s_ex 5 47 (.extract (.tmp 42) 0) (v := x) (by kernel_rfl) (ex_xt (u := .tuple #[x, y]) (evN rfl rfl) (by kernel_rfl)) ?_
  refine s_ex 6 48 (.extract (.tmp 42) 1) (v := y) (by kernel_rfl) (ex_xt (u := .tuple #[x, y]) (evN rfl rfl) (by kernel_rfl)) ?_
  refine s_ex 7 11 (.assign (.tmp 47)) (v := x) (by kernel_rfl) (ex_as (evN rfl rfl)) ?_
  refine s_ex 8 12 (.assign (.tmp 48)) (v := y) (by kernel_rfl) (ex_as (evN rfl rfl)) ?_
  exact s_end (by kernel_rfl) (hK _ x y wx (((((((((Same.refl.put 43 _).put 44 _).put 45 _).put 46 _).put 42 _).put 47 _).put 48 _).put 11 _).put 12 _) rfl rfl hR)
set_option maxRecDepth 100000 in
set_option maxHeartbeats 400000 in
theorem q11 (h : Int) (wa : World) (f : Nat → Value) (h12 : f 12 = .int .i64 h) (K : Act → World → Prop)
    (hK : ∀ (f' : Nat → Value), Same f f' [50, 49] → f' 50 = .bool (h == 2) → K (Fm 129 f') (wa)) :
    Code.wp Ybaf.prog (headC (headC (dropC 5 p39))) (only K) (Fm 129 f) wa := by
  refine regN (by kernel_rfl) ?_
  refine s_ex 0 49 (.move (.tmp 12)) (v := .int .i64 h) (by kernel_rfl) (ex_mv (evN rfl h12)) ?_
  refine s_ex 1 50 (.binOp .eql 127 (.tmp 49) (.const (.int .i64 2)) 127) (v := .bool (h == 2)) (by kernel_rfl) (ex_bn (u := .int .i64 h) (u' := .int .i64 2) (evN rfl rfl) rfl (eqlH rfl)) ?_
  exact s_end (by kernel_rfl) (hK _  ((Same.refl.put 49 _).put 50 _) rfl)
set_option maxRecDepth 100000 in
set_option maxHeartbeats 400000 in
theorem q12 (rv : Value) (a b : Nat) (wa : World) (R : Value → World → Prop) (hc : CallR 49 #[.iface 83 rv, .int .i64 ((a : Nat) : Int), .int .i64 ((b : Nat) : Int)] wa R) (f : Nat → Value) (h0 : f 0 = .iface 83 rv) (h1 : f 1 = .int .i64 ((a : Nat) : Int)) (h2 : f 2 = .int .i64 ((b : Nat) : Int)) (K : Act → World → Prop)
    (hK : ∀ (f' : Nat → Value) (v : Value) (wx : World), Same f f' [54, 53, 52, 51] → R v wx → K (Fm 129 f') (wx)) :
    Code.wp Ybaf.prog (headC (thnC (tailC (headC (dropC 5 p39))))) (only K) (Fm 129 f) wa := by
  refine regN (by kernel_rfl) ?_
  refine s_ex 0 51 (.move (.tmp 0)) (v := .iface 83 rv) (by kernel_rfl) (ex_mv (evN rfl h0)) ?_
  refine s_ex 1 52 (.move (.tmp 1)) (v := .int .i64 ((a : Nat) : Int)) (by kernel_rfl) (ex_mv (evN rfl h1)) ?_
  refine s_ex 2 53 (.move (.tmp 2)) (v := .int .i64 ((b : Nat) : Int)) (by kernel_rfl) (ex_mv (evN rfl h2)) ?_
  refine s_call 3 54 (.call { callee := .value (.func 49), args := #[(.tmp 51), (.tmp 52), (.tmp 53)], argTypes := #[104, 3, 3] }) (fn := 49) (args := #[.iface 83 rv, .int .i64 ((a : Nat) : Int), .int .i64 ((b : Nat) : Int)]) (by kernel_rfl) (ex_fn3 (cf49 _) (evN rfl rfl) (evN rfl rfl) (evN rfl rfl)) (hc) ?_
  intro v wx hR
  exact s_end (by kernel_rfl) (hK _ v wx ((((Same.refl.put 51 _).put 52 _).put 53 _).put 54 _) hR)
set_option maxRecDepth 100000 in
set_option maxHeartbeats 400000 in
theorem q13 (a b m : Nat) (wa : World) (h1 : a ≤ m) (h2 : m < b) (hb : b ≤ 4611686018427387904) (ha : a ≤ 4611686018427387904) (f : Nat → Value) (h1 : f 1 = .int .i64 ((a : Nat) : Int)) (h2 : f 2 = .int .i64 ((b : Nat) : Int)) (h11 : f 11 = .int .i64 ((m : Nat) : Int)) (K : Act → World → Prop)
    (hK : ∀ (f' : Nat → Value), Same f f' [11, 60, 59, 58, 57, 56, 55] → f' 11 = .int .i64 ((((b : Nat) : Int) - 1) - (((m : Nat) : Int) - ((a : Nat) : Int))) → K (Fm 129 f') (wa)) :
    Code.wp Ybaf.prog (headC (tailC (thnC (tailC (headC (dropC 5 p39)))))) (only K) (Fm 129 f) wa := by
  refine regN (by kernel_rfl) ?_
  refine s_ex 0 55 (.move (.tmp 2)) (v := .int .i64 ((b : Nat) : Int)) (by kernel_rfl) (ex_mv (evN rfl h2)) ?_
  refine s_ex 1 56 (.binOp .sub 3 (.tmp 55) (.const (.int .i64 1)) 3) (v := .int .i64 (((b : Nat) : Int) - 1)) (by kernel_rfl) (ex_bn (u := .int .i64 ((b : Nat) : Int)) (u' := .int .i64 1) (evN rfl rfl) rfl (subI rfl (by omega) (by omega))) ?_
  refine s_ex 2 57 (.move (.tmp 11)) (v := .int .i64 ((m : Nat) : Int)) (by kernel_rfl) (ex_mv (evN rfl h11)) ?_
  refine s_ex 3 58 (.move (.tmp 1)) (v := .int .i64 ((a : Nat) : Int)) (by kernel_rfl) (ex_mv (evN rfl h1)) ?_
  refine s_ex 4 59 (.binOp .sub 3 (.tmp 57) (.tmp 58) 3) (v := .int .i64 (((m : Nat) : Int) - ((a : Nat) : Int))) (by kernel_rfl) (ex_bn (u := .int .i64 ((m : Nat) : Int)) (u' := .int .i64 ((a : Nat) : Int)) (evN rfl rfl) (evN rfl rfl) (subI rfl (by omega) (by omega))) ?_
  refine s_ex 5 60 (.binOp .sub 3 (.tmp 56) (.tmp 59) 3) (v := .int .i64 ((((b : Nat) : Int) - 1) - (((m : Nat) : Int) - ((a : Nat) : Int)))) (by kernel_rfl) (ex_bn (u := .int .i64 (((b : Nat) : Int) - 1)) (u' := .int .i64 (((m : Nat) : Int) - ((a : Nat) : Int))) (evN rfl rfl) (evN rfl rfl) (subI rfl (by omega) (by omega))) ?_
  refine s_ex 6 11 (.assign (.tmp 60)) (v := .int .i64 ((((b : Nat) : Int) - 1) - (((m : Nat) : Int) - ((a : Nat) : Int)))) (by kernel_rfl) (ex_as (evN rfl rfl)) ?_
  exact s_end (by kernel_rfl) (hK _  (((((((Same.refl.put 55 _).put 56 _).put 57 _).put 58 _).put 59 _).put 60 _).put 11 _) rfl)
set_option maxRecDepth 100000 in
set_option maxHeartbeats 400000 in
theorem q14 (wa : World) (f : Nat → Value)  (K : Act → World → Prop)
    (hK : ∀ (f' : Nat → Value), Same f f' [12] → f' 12 = .int .i64 1 → K (Fm 129 f') (wa)) :
    Code.wp Ybaf.prog (tailC (tailC (thnC (tailC (headC (dropC 5 p39)))))) (only K) (Fm 129 f) wa := by
  refine regN (by kernel_rfl) ?_
  refine s_ex 0 12 (.assign (.const (.int .i64 1))) (v := .int .i64 1) (by kernel_rfl) (ex_as rfl) ?_
  exact s_end (by kernel_rfl) (hK _  (Same.refl.put 12 _) rfl)
set_option maxRecDepth 100000 in
set_option maxHeartbeats 400000 in
theorem q15f (wa : World) (f : Nat → Value) (h8 : f 8 = .bool false) (K : Act → World → Prop)
    (hK : ∀ (f' : Nat → Value), Same f f' [68, 67, 66, 65, 64, 63, 62, 61] → f' 68 = .bool false → K (Fm 129 f') (wa)) :
    Code.wp Ybaf.prog (headC (headC (dropC 6 p39))) (only K) (Fm 129 f) wa := by
  refine regN (by kernel_rfl) ?_
  refine s_ex 0 61 (.move (.tmp 8)) (v := .bool false) (by kernel_rfl) (ex_mv (evN rfl h8)) ?_
  refine s_ex 1 62 (.move (.tmp 61)) (v := .bool false) (by kernel_rfl) (ex_mv (evN rfl rfl)) ?_
  refine s_no 2 63 1 62 true (.move (.tmp 9)) (by kernel_rfl) (by kernel_rfl) (by rfl) (by rfl) ?_
  refine s_ex 3 64 (.pick (.tmp 62) (.tmp 63) (.const (.bool false))) (v := .bool false) (by kernel_rfl) (ex_pickf (evN rfl rfl) rfl) ?_
  refine s_ex 4 65 (.move (.tmp 64)) (v := .bool false) (by kernel_rfl) (ex_mv (evN rfl rfl)) ?_
  refine s_no 5 66 4 65 true (.move (.tmp 12)) (by kernel_rfl) (by kernel_rfl) (by rfl) (by rfl) ?_
  refine s_no 6 67 4 65 true (.binOp .eql 127 (.tmp 66) (.const (.int .i64 1)) 127) (by kernel_rfl) (by kernel_rfl) (by rfl) (by rfl) ?_
  refine s_ex 7 68 (.pick (.tmp 65) (.tmp 67) (.const (.bool false))) (v := .bool false) (by kernel_rfl) (ex_pickf (evN rfl rfl) rfl) ?_
  exact s_end (by kernel_rfl) (hK _  ((((((((Same.refl.put 61 _).put 62 _).put 63 _).put 64 _).put 65 _).put 66 _).put 67 _).put 68 _) rfl)
set_option maxRecDepth 100000 in
set_option maxHeartbeats 400000 in
theorem q15tf (wa : World) (f : Nat → Value) (h8 : f 8 = .bool true) (h9 : f 9 = .bool false) (K : Act → World → Prop)
    (hK : ∀ (f' : Nat → Value), Same f f' [68, 67, 66, 65, 64, 63, 62, 61] → f' 68 = .bool false → K (Fm 129 f') (wa)) :
    Code.wp Ybaf.prog (headC (headC (dropC 6 p39))) (only K) (Fm 129 f) wa := by
  refine regN (by kernel_rfl) ?_
  refine s_ex 0 61 (.move (.tmp 8)) (v := .bool true) (by kernel_rfl) (ex_mv (evN rfl h8)) ?_
  refine s_ex 1 62 (.move (.tmp 61)) (v := .bool true) (by kernel_rfl) (ex_mv (evN rfl rfl)) ?_
  refine s_g 2 63 1 62 true (.move (.tmp 9)) (v := .bool false) (by kernel_rfl) (by kernel_rfl) (by rfl) (by rfl) (ex_mv (evN rfl h9)) ?_
  refine s_ex 3 64 (.pick (.tmp 62) (.tmp 63) (.const (.bool false))) (v := .bool false) (by kernel_rfl) (ex_pickt (evN rfl rfl) (evN rfl rfl)) ?_
  refine s_ex 4 65 (.move (.tmp 64)) (v := .bool false) (by kernel_rfl) (ex_mv (evN rfl rfl)) ?_
  refine s_no 5 66 4 65 true (.move (.tmp 12)) (by kernel_rfl) (by kernel_rfl) (by rfl) (by rfl) ?_
  refine s_no 6 67 4 65 true (.binOp .eql 127 (.tmp 66) (.const (.int .i64 1)) 127) (by kernel_rfl) (by kernel_rfl) (by rfl) (by rfl) ?_
  refine s_ex 7 68 (.pick (.tmp 65) (.tmp 67) (.const (.bool false))) (v := .bool false) (by kernel_rfl) (ex_pickf (evN rfl rfl) rfl) ?_
  exact s_end (by kernel_rfl) (hK _  ((((((((Same.refl.put 61 _).put 62 _).put 63 _).put 64 _).put 65 _).put 66 _).put 67 _).put 68 _) rfl)
set_option maxRecDepth 100000 in
set_option maxHeartbeats 400000 in
theorem q15t (h : Int) (wa : World) (f : Nat → Value) (h8 : f 8 = .bool true) (h9 : f 9 = .bool true) (h12 : f 12 = .int .i64 h) (K : Act → World → Prop)
    (hK : ∀ (f' : Nat → Value), Same f f' [68, 67, 66, 65, 64, 63, 62, 61] → f' 68 = .bool (h == 1) → K (Fm 129 f') (wa)) :
    Code.wp Ybaf.prog (headC (headC (dropC 6 p39))) (only K) (Fm 129 f) wa := by
  refine regN (by kernel_rfl) ?_
  refine s_ex 0 61 (.move (.tmp 8)) (v := .bool true) (by kernel_rfl) (ex_mv (evN rfl h8)) ?_
  refine s_ex 1 62 (.move (.tmp 61)) (v := .bool true) (by kernel_rfl) (ex_mv (evN rfl rfl)) ?_
  refine s_g 2 63 1 62 true (.move (.tmp 9)) (v := .bool true) (by kernel_rfl) (by kernel_rfl) (by rfl) (by rfl) (ex_mv (evN rfl h9)) ?_
  refine s_ex 3 64 (.pick (.tmp 62) (.tmp 63) (.const (.bool false))) (v := .bool true) (by kernel_rfl) (ex_pickt (evN rfl rfl) (evN rfl rfl)) ?_
  refine s_ex 4 65 (.move (.tmp 64)) (v := .bool true) (by kernel_rfl) (ex_mv (evN rfl rfl)) ?_
  refine s_g 5 66 4 65 true (.move (.tmp 12)) (v := .int .i64 h) (by kernel_rfl) (by kernel_rfl) (by rfl) (by rfl) (ex_mv (evN rfl h12)) ?_
  refine s_g 6 67 4 65 true (.binOp .eql 127 (.tmp 66) (.const (.int .i64 1)) 127) (v := .bool (h == 1)) (by kernel_rfl) (by kernel_rfl) (by rfl) (by rfl) (ex_bn (u := .int .i64 h) (u' := .int .i64 1) (evN rfl rfl) rfl (eqlH rfl)) ?_
  refine s_ex 7 68 (.pick (.tmp 65) (.tmp 67) (.const (.bool false))) (v := .bool (h == 1)) (by kernel_rfl) (ex_pickt (evN rfl rfl) (evN rfl rfl)) ?_
  exact s_end (by kernel_rfl) (hK _  ((((((((Same.refl.put 61 _).put 62 _).put 63 _).put 64 _).put 65 _).put 66 _).put 67 _).put 68 _) rfl)
set_option maxRecDepth 100000 in
set_option maxHeartbeats 400000 in
theorem q16 (rv : Value) (a b : Nat) (wa : World) (R : Value → World → Prop) (hc : CallR 50 #[.iface 83 rv, .int .i64 ((a : Nat) : Int), .int .i64 ((b : Nat) : Int)] wa R) (f : Nat → Value) (h0 : f 0 = .iface 83 rv) (h1 : f 1 = .int .i64 ((a : Nat) : Int)) (h2 : f 2 = .int .i64 ((b : Nat) : Int)) (K : Act → World → Prop)
    (hK : ∀ (f' : Nat → Value) (v : Value) (wx : World), Same f f' [72, 71, 70, 69] → f' 72 = v → R v wx → K (Fm 129 f') (wx)) :
    Code.wp Ybaf.prog (headC (thnC (tailC (headC (dropC 6 p39))))) (only K) (Fm 129 f) wa := by
  refine regN (by kernel_rfl) ?_
  refine s_ex 0 69 (.move (.tmp 0)) (v := .iface 83 rv) (by kernel_rfl) (ex_mv (evN rfl h0)) ?_
  refine s_ex 1 70 (.move (.tmp 1)) (v := .int .i64 ((a : Nat) : Int)) (by kernel_rfl) (ex_mv (evN rfl h1)) ?_
  refine s_ex 2 71 (.move (.tmp 2)) (v := .int .i64 ((b : Nat) : Int)) (by kernel_rfl) (ex_mv (evN rfl h2)) ?_
  refine s_call 3 72 (.call { callee := .value (.func 50), args := #[(.tmp 69), (.tmp 70), (.tmp 71)], argTypes := #[104, 3, 3] }) (fn := 50) (args := #[.iface 83 rv, .int .i64 ((a : Nat) : Int), .int .i64 ((b : Nat) : Int)]) (by kernel_rfl) (ex_fn3 (cf50 _) (evN rfl rfl) (evN rfl rfl) (evN rfl rfl)) (hc) ?_
  intro v wx hR
  exact s_end (by kernel_rfl) (hK _ v wx ((((Same.refl.put 69 _).put 70 _).put 71 _).put 72 _) rfl hR)
set_option maxRecDepth 100000 in
set_option maxHeartbeats 400000 in
theorem q17z (wa : World) (f : Nat → Value) (h1 : f 1 = .int .i64 ((0 : Nat) : Int)) (K : Act → World → Prop)
    (hK : ∀ (f' : Nat → Value), Same f f' [82, 81, 80, 79, 78, 77, 76, 75, 74, 73] → f' 82 = .bool false → K (Fm 129 f') (wa)) :
    Code.wp Ybaf.prog (headC (headC (dropC 7 p39))) (only K) (Fm 129 f) wa := by
  refine regN (by kernel_rfl) ?_
  refine s_ex 0 73 (.move (.tmp 1)) (v := .int .i64 ((0 : Nat) : Int)) (by kernel_rfl) (ex_mv (evN rfl h1)) ?_
  refine s_ex 1 74 (.binOp .gtr 3 (.tmp 73) (.const (.int .i64 0)) 3) (v := .bool false) (by kernel_rfl) (ex_bn (u := .int .i64 ((0 : Nat) : Int)) (u' := .int .i64 0) (evN rfl rfl) rfl (gtrI (by decide))) ?_
  refine s_ex 2 75 (.move (.tmp 74)) (v := .bool false) (by kernel_rfl) (ex_mv (evN rfl rfl)) ?_
  refine s_no 3 76 2 75 true (.move (.tmp 0)) (by kernel_rfl) (by kernel_rfl) (by rfl) (by rfl) ?_
  refine s_no 4 77 2 75 true (.move (.tmp 1)) (by kernel_rfl) (by kernel_rfl) (by rfl) (by rfl) ?_
  refine s_no 5 78 2 75 true (.binOp .sub 3 (.tmp 77) (.const (.int .i64 1)) 3) (by kernel_rfl) (by kernel_rfl) (by rfl) (by rfl) ?_
  refine s_no 6 79 2 75 true (.move (.tmp 11)) (by kernel_rfl) (by kernel_rfl) (by rfl) (by rfl) ?_
  refine s_no 7 80 2 75 true (.call { callee := .invoke (.tmp 76) "Less", args := #[(.tmp 78), (.tmp 79)], argTypes := #[3, 3] }) (by kernel_rfl) (by kernel_rfl) (by rfl) (by rfl) ?_
  refine s_no 8 81 2 75 true (.unOp .not 4 (.tmp 80)) (by kernel_rfl) (by kernel_rfl) (by rfl) (by rfl) ?_
  refine s_ex 9 82 (.pick (.tmp 75) (.tmp 81) (.const (.bool false))) (v := .bool false) (by kernel_rfl) (ex_pickf (evN rfl rfl) rfl) ?_
  exact s_end (by kernel_rfl) (hK _  ((((((((((Same.refl.put 73 _).put 74 _).put 75 _).put 76 _).put 77 _).put 78 _).put 79 _).put 80 _).put 81 _).put 82 _) rfl)
set_option maxRecDepth 100000 in
set_option maxHeartbeats 400000 in
theorem q17 (rv : Value) (a : Nat) (p : Int) (wa : World) (mL : ∀ w, Sem.run Ybaf.prog (method (Ybaf.prog.types.size + 100) 83 rv "Less") w = .ok (103, rv) w) (h1 : 1 ≤ a) (h2 : a ≤ 4611686018427387904) (R : Bool → World → Prop) (hc : CallR 103 #[rv, .int .i64 ((a : Int) - 1), .int .i64 p] wa fun v w' => ∃ q : Bool, v = .bool q ∧ R q w') (f : Nat → Value) (h0 : f 0 = .iface 83 rv) (h1 : f 1 = .int .i64 ((a : Nat) : Int)) (h11 : f 11 = .int .i64 p) (K : Act → World → Prop)
    (hK : ∀ (f' : Nat → Value) (q : Bool) (wx : World), Same f f' [82, 81, 80, 79, 78, 77, 76, 75, 74, 73] → f' 82 = .bool (!q) → R q wx → K (Fm 129 f') (wx)) :
    Code.wp Ybaf.prog (headC (headC (dropC 7 p39))) (only K) (Fm 129 f) wa := by
  refine regN (by kernel_rfl) ?_
  refine s_ex 0 73 (.move (.tmp 1)) (v := .int .i64 ((a : Nat) : Int)) (by kernel_rfl) (ex_mv (evN rfl h1)) ?_
  refine s_ex 1 74 (.binOp .gtr 3 (.tmp 73) (.const (.int .i64 0)) 3) (v := .bool true) (by kernel_rfl) (ex_bn (u := .int .i64 ((a : Nat) : Int)) (u' := .int .i64 0) (evN rfl rfl) rfl (gtrI (decide_eq_true (by omega)))) ?_
  refine s_ex 2 75 (.move (.tmp 74)) (v := .bool true) (by kernel_rfl) (ex_mv (evN rfl rfl)) ?_
  refine s_g 3 76 2 75 true (.move (.tmp 0)) (v := .iface 83 rv) (by kernel_rfl) (by kernel_rfl) (by rfl) (by rfl) (ex_mv (evN rfl h0)) ?_
  refine s_g 4 77 2 75 true (.move (.tmp 1)) (v := .int .i64 ((a : Nat) : Int)) (by kernel_rfl) (by kernel_rfl) (by rfl) (by rfl) (ex_mv (evN rfl h1)) ?_
  refine s_g 5 78 2 75 true (.binOp .sub 3 (.tmp 77) (.const (.int .i64 1)) 3) (v := .int .i64 ((a : Int) - 1)) (by kernel_rfl) (by kernel_rfl) (by rfl) (by rfl) (ex_bn (u := .int .i64 ((a : Nat) : Int)) (u' := .int .i64 1) (evN rfl rfl) rfl (subI rfl (by omega) (by omega))) ?_
  refine s_g 6 79 2 75 true (.move (.tmp 11)) (v := .int .i64 p) (by kernel_rfl) (by kernel_rfl) (by rfl) (by rfl) (ex_mv (evN rfl h11)) ?_
  refine s_gc 7 80 2 75 true (.call { callee := .invoke (.tmp 76) "Less", args := #[(.tmp 78), (.tmp 79)], argTypes := #[3, 3] }) (fn := 103) (args := #[rv, .int .i64 ((a : Int) - 1), .int .i64 p]) (by kernel_rfl) (by kernel_rfl) (by rfl) (by rfl) (ex_iv2 mL cf103 (evN rfl rfl) (evN rfl rfl) (evN rfl rfl)) (hc) ?_
  rintro _ wx ⟨q, rfl, hR⟩
  refine s_g 8 81 2 75 true (.unOp .not 4 (.tmp 80)) (v := .bool (!q)) (by kernel_rfl) (by kernel_rfl) (by rfl) (by rfl) (ex_not (b := q) (evN rfl rfl)) ?_
  refine s_ex 9 82 (.pick (.tmp 75) (.tmp 81) (.const (.bool false))) (v := .bool (!q)) (by kernel_rfl) (ex_pickt (evN rfl rfl) (evN rfl rfl)) ?_
  exact s_end (by kernel_rfl) (hK _ q wx ((((((((((Same.refl.put 73 _).put 74 _).put 75 _).put 76 _).put 77 _).put 78 _).put 79 _).put 80 _).put 81 _).put 82 _) rfl hR)
set_option maxRecDepth 100000 in
set_option maxHeartbeats 400000 in
theorem q18 (rv : Value) (a b : Nat) (p : Int) (wa : World) (R : Value → World → Prop) (hc : CallR 51 #[.iface 83 rv, .int .i64 ((a : Nat) : Int), .int .i64 ((b : Nat) : Int), .int .i64 p] wa R) (f : Nat → Value) (h0 : f 0 = .iface 83 rv) (h1 : f 1 = .int .i64 ((a : Nat) : Int)) (h2 : f 2 = .int .i64 ((b : Nat) : Int)) (h11 : f 11 = .int .i64 p) (K : Act → World → Prop)
    (hK : ∀ (f' : Nat → Value) (v : Value) (wx : World), Same f f' [13, 87, 86, 85, 84, 83] → f' 13 = v → R v wx → K (Fm 129 f') (wx)) :
    Code.wp Ybaf.prog (headC (thnC (tailC (headC (dropC 7 p39))))) (only K) (Fm 129 f) wa := by
  refine regN (by kernel_rfl) ?_
  refine s_ex 0 83 (.move (.tmp 0)) (v := .iface 83 rv) (by kernel_rfl) (ex_mv (evN rfl h0)) ?_
  refine s_ex 1 84 (.move (.tmp 1)) (v := .int .i64 ((a : Nat) : Int)) (by kernel_rfl) (ex_mv (evN rfl h1)) ?_
  refine s_ex 2 85 (.move (.tmp 2)) (v := .int .i64 ((b : Nat) : Int)) (by kernel_rfl) (ex_mv (evN rfl h2)) ?_
  refine s_ex 3 86 (.move (.tmp 11)) (v := .int .i64 p) (by kernel_rfl) (ex_mv (evN rfl h11)) ?_
  refine s_call 4 87 (.call { callee := .value (.func 51), args := #[(.tmp 83), (.tmp 84), (.tmp 85), (.tmp 86)], argTypes := #[104, 3, 3, 3] }) (fn := 51) (args := #[.iface 83 rv, .int .i64 ((a : Nat) : Int), .int .i64 ((b : Nat) : Int), .int .i64 p]) (by kernel_rfl) (ex_fn4 (cf51 _) (evN rfl rfl) (evN rfl rfl) (evN rfl rfl) (evN rfl rfl)) (hc) ?_
  intro v wx hR
  refine s_ex 5 13 (.assign (.tmp 87)) (v := v) (by kernel_rfl) (ex_as (evN rfl rfl)) ?_
  exact s_end (by kernel_rfl) (hK _ v wx ((((((Same.refl.put 83 _).put 84 _).put 85 _).put 86 _).put 87 _).put 13 _) rfl hR)
set_option maxRecDepth 100000 in
set_option maxHeartbeats 400000 in
theorem q19 (v : Value) (wa : World) (f : Nat → Value) (h13 : f 13 = v) (K : Act → World → Prop)
    (hK : ∀ (f' : Nat → Value), Same f f' [1, 88] → f' 1 = v → K (Fm 129 f') (wa)) :
    Code.wp Ybaf.prog (headC (tailC (thnC (tailC (headC (dropC 7 p39)))))) (only K) (Fm 129 f) wa := by
  refine regN (by kernel_rfl) ?_
  refine s_ex 0 88 (.move (.tmp 13)) (v := v) (by kernel_rfl) (ex_mv (evN rfl h13)) ?_
  refine s_ex 1 1 (.assign (.tmp 88)) (v := v) (by kernel_rfl) (ex_as (evN rfl rfl)) ?_
  exact s_end (by kernel_rfl) (hK _  ((Same.refl.put 88 _).put 1 _) rfl)
set_option maxRecDepth 100000 in
set_option maxHeartbeats 400000 in
theorem q20 (rv : Value) (a b : Nat) (p : Int) (wa : World) (R : Value → Value → World → Prop) (hc : CallR 52 #[.iface 83 rv, .int .i64 ((a : Nat) : Int), .int .i64 ((b : Nat) : Int), .int .i64 p] wa fun v w' => ∃ x y : Value, v = .tuple #[x, y] ∧ R x y w') (f : Nat → Value) (h0 : f 0 = .iface 83 rv) (h1 : f 1 = .int .i64 ((a : Nat) : Int)) (h2 : f 2 = .int .i64 ((b : Nat) : Int)) (h11 : f 11 = .int .i64 p) (K : Act → World → Prop)
    (hK : ∀ (f' : Nat → Value) (x y : Value) (wx : World), Same f f' [15, 14, 96, 95, 89, 94, 93, 92, 91, 90] → f' 14 = x → f' 15 = y → R x y wx → K (Fm 129 f') (wx)) :
    Code.wp Ybaf.prog (headC (dropC 8 p39)) (only K) (Fm 129 f) wa := by
  refine regN (by kernel_rfl) ?_
  refine s_ex 0 90 (.move (.tmp 0)) (v := .iface 83 rv) (by kernel_rfl) (ex_mv (evN rfl h0)) ?_
  refine s_ex 1 91 (.move (.tmp 1)) (v := .int .i64 ((a : Nat) : Int)) (by kernel_rfl) (ex_mv (evN rfl h1)) ?_
  refine s_ex 2 92 (.move (.tmp 2)) (v := .int .i64 ((b : Nat) : Int)) (by kernel_rfl) (ex_mv (evN rfl h2)) ?_
  refine s_ex 3 93 (.move (.tmp 11)) (v := .int .i64 p) (by kernel_rfl) (ex_mv (evN rfl h11)) ?_
  refine s_call 4 94 (.call { callee := .value (.func 52), args := #[(.tmp 90), (.tmp 91), (.tmp 92), (.tmp 93)], argTypes := #[104, 3, 3, 3] }) (fn := 52) (args := #[.iface 83 rv, .int .i64 ((a : Nat) : Int), .int .i64 ((b : Nat) : Int), .int .i64 p]) (by kernel_rfl) (ex_fn4 (cf52 _) (evN rfl rfl) (evN rfl rfl) (evN rfl rfl) (evN rfl rfl)) (hc) ?_
  rintro _ wx ⟨x, y, rfl, hR⟩
  refine s_ex 5 89 (.move (.tmp 94)) (v := .tuple #[x, y]) (by kernel_rfl) (ex_mv (evN rfl rfl)) ?_
  refine s_ex 6 95 (.extract (.tmp 89) 0) (v := x) (by kernel_rfl) (ex_xt (u := .tuple #[x, y]) (evN rfl rfl) (by kernel_rfl)) ?_
  refine s_ex 7 96 (.extract (.tmp 89) 1) (v := y) (by kernel_rfl) (ex_xt (u := .tuple #[x, y]) (evN rfl rfl) (by kernel_rfl)) ?_
  refine s_ex 8 14 (.assign (.tmp 95)) (v := x) (by kernel_rfl) (ex_as (evN rfl rfl)) ?_
  refine s_ex 9 15 (.assign (.tmp 96)) (v := y) (by kernel_rfl) (ex_as (evN rfl rfl)) ?_
  exact s_end (by kernel_rfl) (hK _ x y wx ((((((((((Same.refl.put 90 _).put 91 _).put 92 _).put 93 _).put 94 _).put 89 _).put 95 _).put 96 _).put 14 _).put 15 _) rfl rfl hR)
set_option maxRecDepth 100000 in
set_option maxHeartbeats 400000 in
theorem q21 (v : Value) (wa : World) (f : Nat → Value) (h15 : f 15 = v) (K : Act → World → Prop)
    (hK : ∀ (f' : Nat → Value), Same f f' [9, 97] → f' 9 = v → K (Fm 129 f') (wa)) :
    Code.wp Ybaf.prog (headC (dropC 9 p39)) (only K) (Fm 129 f) wa := by
  refine regN (by kernel_rfl) ?_
  refine s_ex 0 97 (.move (.tmp 15)) (v := v) (by kernel_rfl) (ex_mv (evN rfl h15)) ?_
  refine s_ex 1 9 (.assign (.tmp 97)) (v := v) (by kernel_rfl) (ex_as (evN rfl rfl)) ?_
  exact s_end (by kernel_rfl) (hK _  ((Same.refl.put 97 _).put 9 _) rfl)
set_option maxRecDepth 100000 in
set_option maxHeartbeats 400000 in
theorem q22 (a b m : Nat) (wa : World) (h1 : a ≤ m) (h2 : m < b) (hb : b ≤ 4611686018427387904) (ha : a ≤ 4611686018427387904) (f : Nat → Value) (h1 : f 1 = .int .i64 ((a : Nat) : Int)) (h2 : f 2 = .int .i64 ((b : Nat) : Int)) (h14 : f 14 = .int .i64 ((m : Nat) : Int)) (K : Act → World → Prop)
    (hK : ∀ (f' : Nat → Value), Same f f' [17, 16, 103, 102, 101, 100, 99, 98] → f' 16 = .int .i64 (((m : Nat) : Int) - ((a : Nat) : Int)) → f' 17 = .int .i64 (((b : Nat) : Int) - ((m : Nat) : Int)) → K (Fm 129 f') (wa)) :
    Code.wp Ybaf.prog (headC (dropC 10 p39)) (only K) (Fm 129 f) wa := by
  refine regN (by kernel_rfl) ?_
  refine s_ex 0 98 (.move (.tmp 14)) (v := .int .i64 ((m : Nat) : Int)) (by kernel_rfl) (ex_mv (evN rfl h14)) ?_
  refine s_ex 1 99 (.move (.tmp 1)) (v := .int .i64 ((a : Nat) : Int)) (by kernel_rfl) (ex_mv (evN rfl h1)) ?_
  refine s_ex 2 100 (.binOp .sub 3 (.tmp 98) (.tmp 99) 3) (v := .int .i64 (((m : Nat) : Int) - ((a : Nat) : Int))) (by kernel_rfl) (ex_bn (u := .int .i64 ((m : Nat) : Int)) (u' := .int .i64 ((a : Nat) : Int)) (evN rfl rfl) (evN rfl rfl) (subI rfl (by omega) (by omega))) ?_
  refine s_ex 3 101 (.move (.tmp 2)) (v := .int .i64 ((b : Nat) : Int)) (by kernel_rfl) (ex_mv (evN rfl h2)) ?_
  refine s_ex 4 102 (.move (.tmp 14)) (v := .int .i64 ((m : Nat) : Int)) (by kernel_rfl) (ex_mv (evN rfl h14)) ?_
  refine s_ex 5 103 (.binOp .sub 3 (.tmp 101) (.tmp 102) 3) (v := .int .i64 (((b : Nat) : Int) - ((m : Nat) : Int))) (by kernel_rfl) (ex_bn (u := .int .i64 ((b : Nat) : Int)) (u' := .int .i64 ((m : Nat) : Int)) (evN rfl rfl) (evN rfl rfl) (subI rfl (by omega) (by omega))) ?_
  refine s_ex 6 16 (.assign (.tmp 100)) (v := .int .i64 (((m : Nat) : Int) - ((a : Nat) : Int))) (by kernel_rfl) (ex_as (evN rfl rfl)) ?_
  refine s_ex 7 17 (.assign (.tmp 103)) (v := .int .i64 (((b : Nat) : Int) - ((m : Nat) : Int))) (by kernel_rfl) (ex_as (evN rfl rfl)) ?_
  exact s_end (by kernel_rfl) (hK _  ((((((((Same.refl.put 98 _).put 99 _).put 100 _).put 101 _).put 102 _).put 103 _).put 16 _).put 17 _) rfl rfl)
set_option maxRecDepth 100000 in
set_option maxHeartbeats 400000 in
theorem q23 (n : Int) (wa : World) (h1 : 0 ≤ n) (h2 : n ≤ 4611686018427387904) (f : Nat → Value) (h10 : f 10 = .int .i64 n) (K : Act → World → Prop)
    (hK : ∀ (f' : Nat → Value), Same f f' [18, 105, 104] → f' 18 = .int .i64 (n / 8) → K (Fm 129 f') (wa)) :
    Code.wp Ybaf.prog (headC (dropC 11 p39)) (only K) (Fm 129 f) wa := by
  refine regN (by kernel_rfl) ?_
  refine s_ex 0 104 (.move (.tmp 10)) (v := .int .i64 n) (by kernel_rfl) (ex_mv (evN rfl h10)) ?_
  refine s_ex 1 105 (.binOp .quo 3 (.tmp 104) (.const (.int .i64 8)) 3) (v := .int .i64 (n / 8)) (by kernel_rfl) (ex_bn (u := .int .i64 n) (u' := .int .i64 8) (evN rfl rfl) rfl (quoI rfl (by omega) (by omega) (by omega))) ?_
  refine s_ex 2 18 (.assign (.tmp 105)) (v := .int .i64 (n / 8)) (by kernel_rfl) (ex_as (evN rfl rfl)) ?_
  exact s_end (by kernel_rfl) (hK _  (((Same.refl.put 104 _).put 105 _).put 18 _) rfl)
set_option maxRecDepth 100000 in
set_option maxHeartbeats 400000 in
theorem q24 (n m : Int) (wa : World) (f : Nat → Value) (h16 : f 16 = .int .i64 n) (h17 : f 17 = .int .i64 m) (K : Act → World → Prop)
    (hK : ∀ (f' : Nat → Value), Same f f' [108, 107, 106] → f' 108 = .bool (decide (n < m)) → K (Fm 129 f') (wa)) :
    Code.wp Ybaf.prog (headC (dropC 12 p39)) (only K) (Fm 129 f) wa := by
  refine regN (by kernel_rfl) ?_
  refine s_ex 0 106 (.move (.tmp 16)) (v := .int .i64 n) (by kernel_rfl) (ex_mv (evN rfl h16)) ?_
  refine s_ex 1 107 (.move (.tmp 17)) (v := .int .i64 m) (by kernel_rfl) (ex_mv (evN rfl h17)) ?_
  refine s_ex 2 108 (.binOp .lss 3 (.tmp 106) (.tmp 107) 3) (v := .bool (decide (n < m))) (by kernel_rfl) (ex_bn (u := .int .i64 n) (u' := .int .i64 m) (evN rfl rfl) (evN rfl rfl) (lssI rfl)) ?_
  exact s_end (by kernel_rfl) (hK _  (((Same.refl.put 106 _).put 107 _).put 108 _) rfl)
set_option maxRecDepth 100000 in
set_option maxHeartbeats 400000 in
theorem q25 (n m : Int) (wa : World) (f : Nat → Value) (h16 : f 16 = .int .i64 n) (h18 : f 18 = .int .i64 m) (K : Act → World → Prop)
    (hK : ∀ (f' : Nat → Value), Same f f' [8, 111, 110, 109] → f' 8 = .bool (decide (m ≤ n)) → K (Fm 129 f') (wa)) :
    Code.wp Ybaf.prog (headC (thnC (tailC (dropC 12 p39)))) (only K) (Fm 129 f) wa := by
  refine regN (by kernel_rfl) ?_
  refine s_ex 0 109 (.move (.tmp 16)) (v := .int .i64 n) (by kernel_rfl) (ex_mv (evN rfl h16)) ?_
  refine s_ex 1 110 (.move (.tmp 18)) (v := .int .i64 m) (by kernel_rfl) (ex_mv (evN rfl h18)) ?_
  refine s_ex 2 111 (.binOp .geq 3 (.tmp 109) (.tmp 110) 3) (v := .bool (decide (m ≤ n))) (by kernel_rfl) (ex_bn (u := .int .i64 n) (u' := .int .i64 m) (evN rfl rfl) (evN rfl rfl) (geqI rfl)) ?_
  refine s_ex 3 8 (.assign (.tmp 111)) (v := .bool (decide (m ≤ n))) (by kernel_rfl) (ex_as (evN rfl rfl)) ?_
  exact s_end (by kernel_rfl) (hK _  ((((Same.refl.put 109 _).put 110 _).put 111 _).put 8 _) rfl)
set_option maxRecDepth 100000 in
set_option maxHeartbeats 400000 in
theorem q26 (rv : Value) (a m : Nat) (l : Int) (wa : World) (R : Value → World → Prop) (hc : CallR 39 #[.iface 83 rv, .int .i64 ((a : Nat) : Int), .int .i64 ((m : Nat) : Int), .int .i64 l] wa R) (f : Nat → Value) (h0 : f 0 = .iface 83 rv) (h1 : f 1 = .int .i64 ((a : Nat) : Int)) (h3 : f 3 = .int .i64 l) (h14 : f 14 = .int .i64 ((m : Nat) : Int)) (K : Act → World → Prop)
    (hK : ∀ (f' : Nat → Value) (v : Value) (wx : World), Same f f' [116, 115, 114, 113, 112] → R v wx → K (Fm 129 f') (wx)) :
    Code.wp Ybaf.prog (headC (tailC (thnC (tailC (dropC 12 p39))))) (only K) (Fm 129 f) wa := by
  refine regN (by kernel_rfl) ?_
  refine s_ex 0 112 (.move (.tmp 0)) (v := .iface 83 rv) (by kernel_rfl) (ex_mv (evN rfl h0)) ?_
  refine s_ex 1 113 (.move (.tmp 1)) (v := .int .i64 ((a : Nat) : Int)) (by kernel_rfl) (ex_mv (evN rfl h1)) ?_
  refine s_ex 2 114 (.move (.tmp 14)) (v := .int .i64 ((m : Nat) : Int)) (by kernel_rfl) (ex_mv (evN rfl h14)) ?_
  refine s_ex 3 115 (.move (.tmp 3)) (v := .int .i64 l) (by kernel_rfl) (ex_mv (evN rfl h3)) ?_
  refine s_call 4 116 (.call { callee := .value (.func 39), args := #[(.tmp 112), (.tmp 113), (.tmp 114), (.tmp 115)], argTypes := #[104, 3, 3, 3] }) (fn := 39) (args := #[.iface 83 rv, .int .i64 ((a : Nat) : Int), .int .i64 ((m : Nat) : Int), .int .i64 l]) (by kernel_rfl) (ex_fn4 (cf39 _) (evN rfl rfl) (evN rfl rfl) (evN rfl rfl) (evN rfl rfl)) (hc) ?_
  intro v wx hR
  exact s_end (by kernel_rfl) (hK _ v wx (((((Same.refl.put 112 _).put 113 _).put 114 _).put 115 _).put 116 _) hR)
set_option maxRecDepth 100000 in
set_option maxHeartbeats 400000 in
theorem q27 (m : Nat) (wa : World) (hm : m < 4611686018427387904) (f : Nat → Value) (h14 : f 14 = .int .i64 ((m : Nat) : Int)) (K : Act → World → Prop)
    (hK : ∀ (f' : Nat → Value), Same f f' [1, 118, 117] → f' 1 = .int .i64 (((m : Nat) : Int) + 1) → K (Fm 129 f') (wa)) :
    Code.wp Ybaf.prog (tailC (tailC (thnC (tailC (dropC 12 p39))))) (only K) (Fm 129 f) wa := by
  refine regN (by kernel_rfl) ?_
  refine s_ex 0 117 (.move (.tmp 14)) (v := .int .i64 ((m : Nat) : Int)) (by kernel_rfl) (ex_mv (evN rfl h14)) ?_
  refine s_ex 1 118 (.binOp .add 3 (.tmp 117) (.const (.int .i64 1)) 3) (v := .int .i64 (((m : Nat) : Int) + 1)) (by kernel_rfl) (ex_bn (u := .int .i64 ((m : Nat) : Int)) (u' := .int .i64 1) (evN rfl rfl) rfl (addI rfl (by omega) (by omega))) ?_
  refine s_ex 2 1 (.assign (.tmp 118)) (v := .int .i64 (((m : Nat) : Int) + 1)) (by kernel_rfl) (ex_as (evN rfl rfl)) ?_
  exact s_end (by kernel_rfl) (hK _  (((Same.refl.put 117 _).put 118 _).put 1 _) rfl)
set_option maxRecDepth 100000 in
set_option maxHeartbeats 400000 in
theorem q28 (n m : Int) (wa : World) (f : Nat → Value) (h17 : f 17 = .int .i64 n) (h18 : f 18 = .int .i64 m) (K : Act → World → Prop)
    (hK : ∀ (f' : Nat → Value), Same f f' [8, 121, 120, 119] → f' 8 = .bool (decide (m ≤ n)) → K (Fm 129 f') (wa)) :
    Code.wp Ybaf.prog (headC (elsC (tailC (dropC 12 p39)))) (only K) (Fm 129 f) wa := by
  refine regN (by kernel_rfl) ?_
  refine s_ex 0 119 (.move (.tmp 17)) (v := .int .i64 n) (by kernel_rfl) (ex_mv (evN rfl h17)) ?_
  refine s_ex 1 120 (.move (.tmp 18)) (v := .int .i64 m) (by kernel_rfl) (ex_mv (evN rfl h18)) ?_
  refine s_ex 2 121 (.binOp .geq 3 (.tmp 119) (.tmp 120) 3) (v := .bool (decide (m ≤ n))) (by kernel_rfl) (ex_bn (u := .int .i64 n) (u' := .int .i64 m) (evN rfl rfl) (evN rfl rfl) (geqI rfl)) ?_
  refine s_ex 3 8 (.assign (.tmp 121)) (v := .bool (decide (m ≤ n))) (by kernel_rfl) (ex_as (evN rfl rfl)) ?_
  exact s_end (by kernel_rfl) (hK _  ((((Same.refl.put 119 _).put 120 _).put 121 _).put 8 _) rfl)
set_option maxRecDepth 100000 in
set_option maxHeartbeats 400000 in
theorem q29 (rv : Value) (b m : Nat) (l : Int) (hm : m < 4611686018427387904) (wa : World) (R : Value → World → Prop) (hc : CallR 39 #[.iface 83 rv, .int .i64 ((m : Int) + 1), .int .i64 ((b : Nat) : Int), .int .i64 l] wa R) (f : Nat → Value) (h0 : f 0 = .iface 83 rv) (h2 : f 2 = .int .i64 ((b : Nat) : Int)) (h3 : f 3 = .int .i64 l) (h14 : f 14 = .int .i64 ((m : Nat) : Int)) (K : Act → World → Prop)
    (hK : ∀ (f' : Nat → Value) (v : Value) (wx : World), Same f f' [127, 126, 125, 124, 123, 122] → R v wx → K (Fm 129 f') (wx)) :
    Code.wp Ybaf.prog (headC (tailC (elsC (tailC (dropC 12 p39))))) (only K) (Fm 129 f) wa := by
  refine regN (by kernel_rfl) ?_
  refine s_ex 0 122 (.move (.tmp 0)) (v := .iface 83 rv) (by kernel_rfl) (ex_mv (evN rfl h0)) ?_
  refine s_ex 1 123 (.move (.tmp 14)) (v := .int .i64 ((m : Nat) : Int)) (by kernel_rfl) (ex_mv (evN rfl h14)) ?_
  refine s_ex 2 124 (.binOp .add 3 (.tmp 123) (.const (.int .i64 1)) 3) (v := .int .i64 (((m : Nat) : Int) + 1)) (by kernel_rfl) (ex_bn (u := .int .i64 ((m : Nat) : Int)) (u' := .int .i64 1) (evN rfl rfl) rfl (addI rfl (by omega) (by omega))) ?_
  refine s_ex 3 125 (.move (.tmp 2)) (v := .int .i64 ((b : Nat) : Int)) (by kernel_rfl) (ex_mv (evN rfl h2)) ?_
  refine s_ex 4 126 (.move (.tmp 3)) (v := .int .i64 l) (by kernel_rfl) (ex_mv (evN rfl h3)) ?_
  refine s_call 5 127 (.call { callee := .value (.func 39), args := #[(.tmp 122), (.tmp 124), (.tmp 125), (.tmp 126)], argTypes := #[104, 3, 3, 3] }) (fn := 39) (args := #[.iface 83 rv, .int .i64 (((m : Nat) : Int) + 1), .int .i64 ((b : Nat) : Int), .int .i64 l]) (by kernel_rfl) (ex_fn4 (cf39 _) (evN rfl rfl) (evN rfl rfl) (evN rfl rfl) (evN rfl rfl)) (hc) ?_
  intro v wx hR
  exact s_end (by kernel_rfl) (hK _ v wx ((((((Same.refl.put 122 _).put 123 _).put 124 _).put 125 _).put 126 _).put 127 _) hR)
set_option maxRecDepth 100000 in
set_option maxHeartbeats 400000 in
theorem q30 (m : Nat) (wa : World) (f : Nat → Value) (h14 : f 14 = .int .i64 ((m : Nat) : Int)) (K : Act → World → Prop)
    (hK : ∀ (f' : Nat → Value), Same f f' [2, 128] → f' 2 = .int .i64 ((m : Nat) : Int) → K (Fm 129 f') (wa)) :
    Code.wp Ybaf.prog (tailC (tailC (elsC (tailC (dropC 12 p39))))) (only K) (Fm 129 f) wa := by
  refine regN (by kernel_rfl) ?_
  refine s_ex 0 128 (.move (.tmp 14)) (v := .int .i64 ((m : Nat) : Int)) (by kernel_rfl) (ex_mv (evN rfl h14)) ?_
  refine s_ex 1 2 (.assign (.tmp 128)) (v := .int .i64 ((m : Nat) : Int)) (by kernel_rfl) (ex_as (evN rfl rfl)) ?_
  exact s_end (by kernel_rfl) (hK _  ((Same.refl.put 128 _).put 2 _) rfl)
end Go.Proofs.YbulkblsgFmt

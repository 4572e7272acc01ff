import Derived.Test.YbulkblsgFmtTg
import Derived.Test.YbulkblsgFmtTe
import Derived.Deep.AppendLies
import Derived.Deep.Upon
namespace Go.Proofs.YbulkblsgFmt
open Go.RowKit
set_option linter.unusedVariables false
set_option linter.unusedSimpArgs false
theorem iparts {P : Program} {t : TypeId} {v : Value} {n b : Nat} (h : (P.info? t).map (fun i => (i.zero, i.size, i.bytes)) = some (some v, n, b)) : ∃ i, P.info? t = some i ∧ i.zero = some v ∧ i.size = n ∧ i.bytes = b := by
  cases hq : P.info? t with
  | none => simp [hq] at h
  | some i => simp [hq] at h; exact ⟨i, rfl, h.1, h.2.1, h.2.2⟩
theorem info3' : (Ybaf.prog.info? 3).map (fun i => (i.zero, i.size, i.bytes)) = some (some (.int .i64 0), 1, 8) := by kernel_rfl
unseal WN in
/-- An append of ints that lie in a slice. -/
theorem s_app {N : Nat} {c : Code} {Q : Exit → Act → World → Prop} {f : Nat → Value} {w : World} (i d s x : Nat) (hk : key (opAt c i) = (none, some d, .call { callee := .builtin .append, args := #[.tmp s, .tmp x], argTypes := #[26, 26] })) (hsN : Nat.blt s N = true) (hxN : Nat.blt x N = true) (base : Nat) (v : Value) (n : Nat) (xs : List Value) (hs : f s = v) (hown : w.ownsRow base 3 1 v n xs)
    (ad : Addr) (m c' : Nat) (news : List Value) (hx : f x = .slice (some ad) m c') (hl : news.length = m) (hnews : ∀ j u, news[j]? = some u → w.cell? (ad.add j) = some u) (h1 : ∀ u ∈ news, u.oneCell' = true) (hm : 0 < m) (hn : n + m ≤ 1000000) (hbase : base ≤ w.heap.size)
    (h : ∀ g cap w', w'.ownsRow base 3 1 (.slice (some ⟨g, 0, none⟩) (n + m) cap) (n + m) (xs ++ news) → w.grownBy w' v.ownBlock → (v.ownBlock = some g ∨ g = w.heap.size) → g < w'.heap.size → WN N c Q (i + 1) (upd f d (.slice (some ⟨g, 0, none⟩) (n + m) cap)) w') : WN N c Q i f w := by
  have hg : (opAt c i).guard = none := congrArg (·.1) hk
  have hd : (opAt c i).dst = some d := congrArg (·.2.1) hk
  have ho := (congrArg (·.2.2) hk : (opAt c i).op = _)
  obtain ⟨i3, hi3, hz3, hs3, hb3⟩ := iparts info3'
  unfold WN
  rw [drop_of_at (at_of_key hk (Or.inl rfl))]
  refine wpList_plain hg fun K2 hK2 => ?_
  refine wp_append_lies _ (.tmp s) (.tmp x) 26 ho base 3 i3 _ 1 8 Ybaf.underlying26 hi3 hz3 hs3 hb3 rfl (by omega) v n xs (evN hsN hs) hown ad m c' news (evN hxN hx) (by omega) hnews h1 hm (by unfold maxLen; omega) (by omega) hbase w.heap.size rfl ?_
  intro g cap w' q1 q2 q3 q4
  refine hK2 _ _ ?_
  rw [hd, Fm_put]
  have q5 : WN N c Q (i + 1) (upd f d (.slice (some ⟨g, 0, none⟩) (n + m) cap)) w' := h g cap w' q1 q2 q3 q4
  unfold WN at q5
  exact q5
theorem bs26 {w : World} {x : Int} : (Instr.buildSlice 26 1 #[(0, .int .i64 x)]).run Ybaf.prog w = .ok (.slice (some ⟨w.heap.size, 0, none⟩) 1 1) (w.alloc (.cells #[.int .i64 x] 3)) := by kernel_rfl
theorem ex_bs {P : Program} {a : Act} {w w' : World} {x : Operand} {t : TypeId} {u v : Value} (hx : a.eval x = u) (hr : (Instr.buildSlice t 1 #[(0, u)]).run P w = .ok v w') : ∀ o : Oper, o.op = .buildSlice t 1 #[(0, x)] → (execOp a.eval o).run P w = .ok (.value v) w' := fun o ho => ex_buildSlice ho hx hr
theorem sl26 {b n c l : Nat} {w : World} (h1 : l ≤ n) (h2 : n ≤ c) (h3 : l < c) : (Instr.sliceAt 26 (.slice (some ⟨b, 0, none⟩) n c) (some (.int .i64 ((l : Nat) : Int))) none none).run Ybaf.prog w = .ok (.slice (some ⟨b, l, none⟩) (n - l) (c - l)) w := by
  have h1' : (l : Int) ≤ (n : Int) := by omega
  have h2' : (n : Int) ≤ (c : Int) := by omega
  have e : ¬ c = l := by omega
  go_simp
theorem ex_sll {P : Program} {a : Act} {w : World} {x l : Operand} {t : TypeId} {u lo v : Value} (hx : a.eval x = u) (hl : a.eval l = lo) (hr : (Instr.sliceAt t u (some lo) none none).run P w = .ok v w) : ∀ o : Oper, o.op = .slice t x (some l) none none → (execOp a.eval o).run P w = .ok (.value v) w := fun o ho => by simp [execOp, ho, hx, hl, hr]
theorem bd40 {w : World} {u v : Value} (hu : u.oneCell' = true) (hv : v.oneCell' = true) : (Instr.build 40 #[(0, u), (1, v)]).run Ybaf.prog w = .ok (.agg #[u, v]) w := by
  cases u <;> cases hu <;> cases v <;> cases hv <;> kernel_rfl
theorem bd40z {w : World} : (Instr.build 40 #[]).run Ybaf.prog w = .ok (.agg #[.slice none 0 0, .slice none 0 0]) w := by kernel_rfl
theorem ex_bd2 {P : Program} {a : Act} {w w' : World} {x y : Operand} {t : TypeId} {u0 u1 v : Value} (hx : a.eval x = u0) (hy : a.eval y = u1) (hr : (Instr.build t #[(0, u0), (1, u1)]).run P w = .ok v w') : ∀ o : Oper, o.op = .build t #[(0, x), (1, y)] → (execOp a.eval o).run P w = .ok (.value v) w' := fun o ho => by simp [execOp, ho, hx, hy, hr]
theorem ex_bd0 {P : Program} {a : Act} {w w' : World} {t : TypeId} {v : Value} (hr : (Instr.build t #[]).run P w = .ok v w') : ∀ o : Oper, o.op = .build t #[] → (execOp a.eval o).run P w = .ok (.value v) w' := fun o ho => by simp [execOp, ho, hr]
theorem ex_mi {P : Program} {a : Act} {w : World} {x : Operand} {t : TypeId} {u v : Value} (hx : a.eval x = u) (hr : (Instr.makeInterface t u).run P w = .ok v w) : ∀ o : Oper, o.op = .makeInterface t x → (execOp a.eval o).run P w = .ok (.value v) w := fun o ho => by simp [execOp, ho, hx, hr]
theorem st40 {b o : Nat} {p q : Option Addr} {n1 c1 n2 c2 : Nat} {x y : Value} {w : World} (h : w.cell? ⟨b, o, none⟩ = some x) (h2 : w.cell? ⟨b, o + 1, none⟩ = some y) (hf : w.frozen? ⟨b, o, none⟩ = false) (hf2 : w.frozen? ⟨b, o + 1, none⟩ = false) : (Instr.storeAt 40 (.pointer (some ⟨b, o, none⟩)) (.agg #[.slice p n1 c1, .slice q n2 c2])).run Ybaf.prog w = .ok () ((w.setCell ⟨b, o, none⟩ (.slice p n1 c1)).setCell ⟨b, o + 1, none⟩ (.slice q n2 c2)) := by
  obtain ⟨z, hz⟩ := cell?_setCell_some (w := w) (p := ⟨b, o, none⟩) (x := .slice p n1 c1) (q := ⟨b, o + 1, none⟩) h2
  go_simp
noncomputable def l8 : Code := Ybaf.f8.body.getD .skip
noncomputable def p8 : Code := lupC (blkC (headC (dropC 3 l8)))
noncomputable def r8 : Code := blkC (tailC p8)
theorem l8_eq : l8 = (headC l8).seq ((headC (dropC 1 l8)).seq ((headC (dropC 2 l8)).seq ((Code.block 0 (.loop p8)).seq (dropC 4 l8)))) := by kernel_rfl
theorem p8_eq : p8 = ((headC (headC p8)).seq (Code.cond (.tmp 20) .skip (.exit 0))).seq (Code.block 1 r8) := by kernel_rfl
theorem r8_eq : r8 = (headC r8).seq ((headC (dropC 1 r8)).seq ((headC (dropC 2 r8)).seq (((headC (headC (dropC 3 r8))).seq (Code.cond (.tmp 39) ((headC (thnC (tailC (headC (dropC 3 r8))))).seq (tailC (thnC (tailC (headC (dropC 3 r8)))))) (elsC (tailC (headC (dropC 3 r8)))))).seq (dropC 4 r8)))) := by kernel_rfl
theorem l8_4 : dropC 4 l8 = ((headC (headC (dropC 4 l8))).seq (Code.cond (.tmp 59) ((headC (thnC (tailC (headC (dropC 4 l8))))).seq ((headC (tailC (thnC (tailC (headC (dropC 4 l8)))))).seq (tailC (tailC (thnC (tailC (headC (dropC 4 l8)))))))) .skip)).seq ((headC (dropC 5 l8)).seq .ret) := by kernel_rfl
set_option maxRecDepth 100000 in
set_option maxHeartbeats 400000 in
theorem j0 (wa : World) (f : Nat → Value)  (K : Act → World → Prop)
    (hK : ∀ (f' : Nat → Value), Same f f' [8] → f' 8 = .slice none 0 0 → K (Fm 81 f') (wa)) :
    Code.wp Ybaf.prog (headC l8) (only K) (Fm 81 f) wa := by
  refine regN (by kernel_rfl) ?_
  refine s_ex 0 8 (.assign (.const (.slice none 0 0))) (v := .slice none 0 0) (by kernel_rfl) (ex_as rfl) ?_
  exact s_end (by kernel_rfl) (hK _  (Same.refl.put 8 _) rfl)
set_option maxRecDepth 100000 in
set_option maxHeartbeats 400000 in
theorem j1 (E m cp : Nat) (wa : World) (f : Nat → Value) (h3 : f 3 = .slice (some ⟨E, 0, none⟩) m cp) (K : Act → World → Prop)
    (hK : ∀ (f' : Nat → Value), Same f f' [9, 15, 14] → f' 9 = .int .i64 ((m : Nat) : Int) → K (Fm 81 f') (wa)) :
    Code.wp Ybaf.prog (headC (dropC 1 l8)) (only K) (Fm 81 f) wa := by
  refine regN (by kernel_rfl) ?_
  refine s_ex 0 14 (.move (.tmp 3)) (v := .slice (some ⟨E, 0, none⟩) m cp) (by kernel_rfl) (ex_mv (evN rfl h3)) ?_
  refine s_ex 1 15 (.call { callee := .builtin .len, args := #[(.tmp 14)], argTypes := #[26] }) (v := .int .i64 ((m : Nat) : Int)) (by kernel_rfl) (ex_len (ad := (some ⟨E, 0, none⟩)) (n := m) (c := cp) Ybaf.underlying26 (evN rfl rfl)) ?_
  refine s_ex 2 9 (.assign (.tmp 15)) (v := .int .i64 ((m : Nat) : Int)) (by kernel_rfl) (ex_as (evN rfl rfl)) ?_
  exact s_end (by kernel_rfl) (hK _  (((Same.refl.put 14 _).put 15 _).put 9 _) rfl)
set_option maxRecDepth 100000 in
set_option maxHeartbeats 400000 in
theorem j2 (D : Nat) (wa : World) (R : Value → World → Prop) (hc : CallR 22 #[.pointer (some ⟨D, 0, none⟩), .int .i32 704] wa R) (f : Nat → Value) (h0 : f 0 = .pointer (some ⟨D, 0, none⟩)) (h1 : f 1 = .int .i32 704) (K : Act → World → Prop)
    (hK : ∀ (f' : Nat → Value) (v : Value) (wx : World), Same f f' [10, 18, 17, 16] → f' 10 = v → R v wx → K (Fm 81 f') (wx)) :
    Code.wp Ybaf.prog (headC (dropC 2 l8)) (only K) (Fm 81 f) wa := by
  refine regN (by kernel_rfl) ?_
  refine s_ex 0 16 (.move (.tmp 0)) (v := .pointer (some ⟨D, 0, none⟩)) (by kernel_rfl) (ex_mv (evN rfl h0)) ?_
  refine s_ex 1 17 (.move (.tmp 1)) (v := .int .i32 704) (by kernel_rfl) (ex_mv (evN rfl h1)) ?_
  refine s_call 2 18 (.call { callee := .value (.func 22), args := #[(.tmp 16), (.tmp 17)], argTypes := #[28, 21] }) (fn := 22) (args := #[.pointer (some ⟨D, 0, none⟩), .int .i32 704]) (by kernel_rfl) (ex_fn2 (cf22 _) (evN rfl rfl) (evN rfl rfl)) (hc) ?_
  intro v wx hR
  refine s_ex 3 10 (.assign (.tmp 18)) (v := v) (by kernel_rfl) (ex_as (evN rfl rfl)) ?_
  exact s_end (by kernel_rfl) (hK _ v wx ((((Same.refl.put 16 _).put 17 _).put 18 _).put 10 _) rfl hR)
set_option maxRecDepth 100000 in
set_option maxHeartbeats 400000 in
theorem j3 (z : Int) (wa : World) (f : Nat → Value) (h10 : f 10 = .int .i32 z) (K : Act → World → Prop)
    (hK : ∀ (f' : Nat → Value), Same f f' [20, 19] → f' 20 = .bool (!(z == (-1))) → K (Fm 81 f') (wa)) :
    Code.wp Ybaf.prog (headC (headC p8)) (only K) (Fm 81 f) wa := by
  refine regN (by kernel_rfl) ?_
  refine s_ex 0 19 (.move (.tmp 10)) (v := .int .i32 z) (by kernel_rfl) (ex_mv (evN rfl h10)) ?_
  refine s_ex 1 20 (.binOp .neq 21 (.tmp 19) (.const (.int .i32 (-1))) 21) (v := .bool (!(z == (-1)))) (by kernel_rfl) (ex_bn (u := .int .i32 z) (u' := .int .i32 (-1)) (evN rfl rfl) rfl (neqW rfl)) ?_
  exact s_end (by kernel_rfl) (hK _  ((Same.refl.put 19 _).put 20 _) rfl)
set_option maxRecDepth 100000 in
set_option maxHeartbeats 400000 in
theorem j4 (D C n c : Nat) (wa : World) (hc : c < n) (hs : wa.cell? ⟨D, 3, none⟩ = some (.slice (some ⟨C, 0, none⟩) n n)) (f : Nat → Value) (h0 : f 0 = .pointer (some ⟨D, 0, none⟩)) (h10 : f 10 = .int .i32 ((c : Nat) : Int)) (K : Act → World → Prop)
    (hK : ∀ (f' : Nat → Value), Same f f' [11, 26, 25, 24, 23, 22, 21] → f' 11 = .pointer (some ⟨C, c * 3, none⟩) → K (Fm 81 f') (wa)) :
    Code.wp Ybaf.prog (headC r8) (only K) (Fm 81 f) wa := by
  refine regN (by kernel_rfl) ?_
  refine s_ex 0 21 (.move (.tmp 0)) (v := .pointer (some ⟨D, 0, none⟩)) (by kernel_rfl) (ex_mv (evN rfl h0)) ?_
  refine s_ex 1 22 (.nilCheck (.tmp 21)) (v := .pointer (some ⟨D, 0, none⟩)) (by kernel_rfl) (ex_nc (evN rfl rfl)) ?_
  refine s_ex 2 23 (.fieldAddr 42 (.tmp 22) 3) (v := .pointer (some ⟨D, 3, none⟩)) (by kernel_rfl) (ex_fa (u := .pointer (some ⟨D, 0, none⟩)) (evN rfl rfl) (fa42_3)) ?_
  refine s_ex 3 24 (.load 36 (.tmp 23)) (v := .slice (some ⟨C, 0, none⟩) n n) (by kernel_rfl) (ex_ld (u := .pointer (some ⟨D, 3, none⟩)) (evN rfl rfl) (ld36 hs)) ?_
  refine s_ex 4 25 (.move (.tmp 10)) (v := .int .i32 ((c : Nat) : Int)) (by kernel_rfl) (ex_mv (evN rfl h10)) ?_
  refine s_ex 5 26 (.indexAddr 36 (.tmp 24) (.tmp 25)) (v := .pointer (some ⟨C, c * 3, none⟩)) (by kernel_rfl) (ex_ix (u := .slice (some ⟨C, 0, none⟩) n n) (i := .int .i32 ((c : Nat) : Int)) (evN rfl rfl) (evN rfl rfl) (ix36_i32 hc)) ?_
  refine s_ex 6 11 (.assign (.tmp 26)) (v := .pointer (some ⟨C, c * 3, none⟩)) (by kernel_rfl) (ex_as (evN rfl rfl)) ?_
  exact s_end (by kernel_rfl) (hK _  (((((((Same.refl.put 21 _).put 22 _).put 23 _).put 24 _).put 25 _).put 26 _).put 11 _) rfl)
set_option maxRecDepth 100000 in
set_option maxHeartbeats 400000 in
theorem j5 (C c : Nat) (z : Int) (wa : World) (hz : wa.cell? ⟨C, c * 3 + 1, none⟩ = some (.int .i32 z)) (f : Nat → Value) (h11 : f 11 = .pointer (some ⟨C, c * 3, none⟩)) (K : Act → World → Prop)
    (hK : ∀ (f' : Nat → Value), Same f f' [12, 30, 29, 28, 27] → f' 12 = .int .i32 z → K (Fm 81 f') (wa)) :
    Code.wp Ybaf.prog (headC (dropC 1 r8)) (only K) (Fm 81 f) wa := by
  refine regN (by kernel_rfl) ?_
  refine s_ex 0 27 (.move (.tmp 11)) (v := .pointer (some ⟨C, c * 3, none⟩)) (by kernel_rfl) (ex_mv (evN rfl h11)) ?_
  refine s_ex 1 28 (.nilCheck (.tmp 27)) (v := .pointer (some ⟨C, c * 3, none⟩)) (by kernel_rfl) (ex_nc (evN rfl rfl)) ?_
  refine s_ex 2 29 (.fieldAddr 44 (.tmp 28) 1) (v := .pointer (some ⟨C, c * 3 + 1, none⟩)) (by kernel_rfl) (ex_fa (u := .pointer (some ⟨C, c * 3, none⟩)) (evN rfl rfl) (fa44_1)) ?_
  refine s_ex 3 30 (.load 21 (.tmp 29)) (v := .int .i32 z) (by kernel_rfl) (ex_ld (u := .pointer (some ⟨C, c * 3 + 1, none⟩)) (evN rfl rfl) (ld21 hz)) ?_
  refine s_ex 4 12 (.assign (.tmp 30)) (v := .int .i32 z) (by kernel_rfl) (ex_as (evN rfl rfl)) ?_
  exact s_end (by kernel_rfl) (hK _  (((((Same.refl.put 27 _).put 28 _).put 29 _).put 30 _).put 12 _) rfl)
set_option maxRecDepth 100000 in
set_option maxHeartbeats 400000 in
theorem j6 (D C c dl : Nat) (wa : World) (hz : wa.cell? ⟨C, c * 3, none⟩ = some (.int .i64 ((dl : Nat) : Int))) (R : Value → World → Prop) (hc : CallR 23 #[.pointer (some ⟨D, 0, none⟩), .int .i64 ((dl : Nat) : Int)] wa R) (f : Nat → Value) (h0 : f 0 = .pointer (some ⟨D, 0, none⟩)) (h11 : f 11 = .pointer (some ⟨C, c * 3, none⟩)) (K : Act → World → Prop)
    (hK : ∀ (f' : Nat → Value) (v : Value) (wx : World), Same f f' [13, 36, 35, 34, 33, 32, 31] → f' 13 = v → R v wx → K (Fm 81 f') (wx)) :
    Code.wp Ybaf.prog (headC (dropC 2 r8)) (only K) (Fm 81 f) wa := by
  refine regN (by kernel_rfl) ?_
  refine s_ex 0 31 (.move (.tmp 0)) (v := .pointer (some ⟨D, 0, none⟩)) (by kernel_rfl) (ex_mv (evN rfl h0)) ?_
  refine s_ex 1 32 (.move (.tmp 11)) (v := .pointer (some ⟨C, c * 3, none⟩)) (by kernel_rfl) (ex_mv (evN rfl h11)) ?_
  refine s_ex 2 33 (.nilCheck (.tmp 32)) (v := .pointer (some ⟨C, c * 3, none⟩)) (by kernel_rfl) (ex_nc (evN rfl rfl)) ?_
  refine s_ex 3 34 (.fieldAddr 44 (.tmp 33) 0) (v := .pointer (some ⟨C, c * 3, none⟩)) (by kernel_rfl) (ex_fa (u := .pointer (some ⟨C, c * 3, none⟩)) (evN rfl rfl) (fa44_0)) ?_
  refine s_ex 4 35 (.load 27 (.tmp 34)) (v := .int .i64 ((dl : Nat) : Int)) (by kernel_rfl) (ex_ld (u := .pointer (some ⟨C, c * 3, none⟩)) (evN rfl rfl) (ld27 hz)) ?_
  refine s_call 5 36 (.call { callee := .value (.func 23), args := #[(.tmp 31), (.tmp 35)], argTypes := #[28, 27] }) (fn := 23) (args := #[.pointer (some ⟨D, 0, none⟩), .int .i64 ((dl : Nat) : Int)]) (by kernel_rfl) (ex_fn2 (cf23 _) (evN rfl rfl) (evN rfl rfl)) (hc) ?_
  intro v wx hR
  refine s_ex 6 13 (.assign (.tmp 36)) (v := v) (by kernel_rfl) (ex_as (evN rfl rfl)) ?_
  exact s_end (by kernel_rfl) (hK _ v wx (((((((Same.refl.put 31 _).put 32 _).put 33 _).put 34 _).put 35 _).put 36 _).put 13 _) rfl hR)
set_option maxRecDepth 100000 in
set_option maxHeartbeats 400000 in
theorem j7 (T bd : Nat) (wa : World) (f : Nat → Value) (h2 : f 2 = .int .u64 ((bd : Nat) : Int)) (h13 : f 13 = .int .u64 ((T : Nat) : Int)) (K : Act → World → Prop)
    (hK : ∀ (f' : Nat → Value), Same f f' [39, 38, 37] → f' 39 = .bool (decide (((T : Nat) : Int) < ((bd : Nat) : Int))) → K (Fm 81 f') (wa)) :
    Code.wp Ybaf.prog (headC (headC (dropC 3 r8))) (only K) (Fm 81 f) wa := by
  refine regN (by kernel_rfl) ?_
  refine s_ex 0 37 (.move (.tmp 13)) (v := .int .u64 ((T : Nat) : Int)) (by kernel_rfl) (ex_mv (evN rfl h13)) ?_
  refine s_ex 1 38 (.move (.tmp 2)) (v := .int .u64 ((bd : Nat) : Int)) (by kernel_rfl) (ex_mv (evN rfl h2)) ?_
  refine s_ex 2 39 (.binOp .lss 35 (.tmp 37) (.tmp 38) 35) (v := .bool (decide (((T : Nat) : Int) < ((bd : Nat) : Int)))) (by kernel_rfl) (ex_bn (u := .int .u64 ((T : Nat) : Int)) (u' := .int .u64 ((bd : Nat) : Int)) (evN rfl rfl) (evN rfl rfl) (lssV rfl)) ?_
  exact s_end (by kernel_rfl) (hK _  (((Same.refl.put 37 _).put 38 _).put 39 _) rfl)
theorem own_al {w : World} {o : Obj} {base : Nat} {e : TypeId} {v : Value} {n : Nat} {xs : List Value} (h : w.ownsRow base e 1 v n xs) : (w.alloc o).ownsRow base e 1 v n xs := by
  refine ⟨h.1, ?_⟩
  rcases h.2 with h2 | ⟨g, cap, cur, hv, hb, hg, hr⟩
  · exact Or.inl h2
  · refine Or.inr ⟨g, cap, cur, hv, hb, ?_, hr⟩
    have hlt : g < w.heap.size := by
      rcases Nat.lt_or_ge g w.heap.size with h | h
      · exact h
      · rw [Array.getElem?_eq_none h] at hg; cases hg
    show (w.heap.push o)[g]? = _
    rw [Array.getElem?_push, if_neg (by omega)]; exact hg
theorem news1 (w : World) (v : Value) : ∀ j u, [v][j]? = some u → (w.alloc (.cells #[v] 3)).cell? ((⟨w.heap.size, 0, none⟩ : Addr).add j) = some u := by
  intro j u hu
  match j with
  | 0 =>
    simp at hu
    subst hu
    go_simp
  | j + 1 => simp at hu
set_option maxRecDepth 100000 in
set_option maxHeartbeats 400000 in
theorem j8 (E m cp c base : Nat) (xs : List Value) (wa : World) (hc : c < 2147483648) (hm : m ≤ 900000) (hbase : base ≤ wa.heap.size) (hown : wa.ownsRow base 3 1 (.slice (some ⟨E, 0, none⟩) m cp) m xs) (f : Nat → Value) (h3 : f 3 = .slice (some ⟨E, 0, none⟩) m cp) (h10 : f 10 = .int .i32 ((c : Nat) : Int)) (K : Act → World → Prop)
    (hK : ∀ (f' : Nat → Value) (G cap2 : Nat) (w2 : World), Same f f' [3, 44, 43, 42, 41, 40] → f' 3 = .slice (some ⟨G, 0, none⟩) (m + 1) cap2 → w2.ownsRow base 3 1 (.slice (some ⟨G, 0, none⟩) (m + 1) cap2) (m + 1) (xs ++ [.int .i64 ((c : Nat) : Int)]) → (wa.alloc (.cells #[.int .i64 ((c : Nat) : Int)] 3)).grownBy w2 (some E) → (G = E ∨ G = (wa.alloc (.cells #[.int .i64 ((c : Nat) : Int)] 3)).heap.size) → G < w2.heap.size → K (Fm 81 f') (w2)) :
    Code.wp Ybaf.prog (headC (thnC (tailC (headC (dropC 3 r8))))) (only K) (Fm 81 f) wa := by
  refine regN (by kernel_rfl) ?_
  refine s_ex 0 40 (.move (.tmp 3)) (v := .slice (some ⟨E, 0, none⟩) m cp) (by kernel_rfl) (ex_mv (evN rfl h3)) ?_
  refine s_ex 1 41 (.move (.tmp 10)) (v := .int .i32 ((c : Nat) : Int)) (by kernel_rfl) (ex_mv (evN rfl h10)) ?_
  refine s_ex 2 42 (.convert 21 3 (.tmp 41)) (v := .int .i64 ((c : Nat) : Int)) (by kernel_rfl) (ex_cv (u := .int .i32 ((c : Nat) : Int)) (evN rfl rfl) (cv213 hc)) ?_
  refine s_ex 3 43 (.buildSlice 26 1 #[(0, (.tmp 42))]) (v := .slice (some ⟨wa.heap.size, 0, none⟩) 1 1) (by kernel_rfl) (ex_bs (u := .int .i64 ((c : Nat) : Int)) (evN rfl rfl) (bs26)) ?_
  refine s_app 4 44 40 43 (by kernel_rfl) rfl rfl base (.slice (some ⟨E, 0, none⟩) m cp) m xs (by rfl) (own_al hown) ⟨wa.heap.size, 0, none⟩ 1 1 [.int .i64 ((c : Nat) : Int)] (by rfl) rfl (news1 _ _) (by intro u hu; simp at hu; subst hu; rfl) (by omega) (by omega) (by show base ≤ (wa.heap.push _).size; rw [Array.size_push]; omega) ?_
  intro G cap2 w2 q1 q2 q3 q4
  refine s_ex 5 3 (.assign (.tmp 44)) (v := .slice (some ⟨G, 0, none⟩) (m + 1) cap2) (by kernel_rfl) (ex_as (evN rfl rfl)) ?_
  exact s_end (by kernel_rfl) (hK _ G cap2 w2 ((((((Same.refl.put 40 _).put 41 _).put 42 _).put 43 _).put 44 _).put 3 _) rfl q1 q2 (q3.imp (fun h => (Option.some.inj h).symm) id) q4)
set_option maxRecDepth 100000 in
set_option maxHeartbeats 400000 in
theorem j9 (C c : Nat) (u : Value) (wa : World) (hp : wa.cell? ⟨C, c * 3 + 2, none⟩ = some u) (hf : wa.frozen? ⟨C, c * 3 + 2, none⟩ = false) (f : Nat → Value) (h11 : f 11 = .pointer (some ⟨C, c * 3, none⟩)) (K : Act → World → Prop)
    (hK : ∀ (f' : Nat → Value), Same f f' [47, 46, 45] → K (Fm 81 f') (wa.setCell ⟨C, c * 3 + 2, none⟩ (.int .i32 (-2147483648)))) :
    Code.wp Ybaf.prog (tailC (thnC (tailC (headC (dropC 3 r8))))) (only K) (Fm 81 f) wa := by
  refine regN (by kernel_rfl) ?_
  refine s_ex 0 45 (.move (.tmp 11)) (v := .pointer (some ⟨C, c * 3, none⟩)) (by kernel_rfl) (ex_mv (evN rfl h11)) ?_
  refine s_ex 1 46 (.nilCheck (.tmp 45)) (v := .pointer (some ⟨C, c * 3, none⟩)) (by kernel_rfl) (ex_nc (evN rfl rfl)) ?_
  refine s_ex 2 47 (.fieldAddr 44 (.tmp 46) 2) (v := .pointer (some ⟨C, c * 3 + 2, none⟩)) (by kernel_rfl) (ex_fa (u := .pointer (some ⟨C, c * 3, none⟩)) (evN rfl rfl) (fa44_2)) ?_
  refine s_st 3 21 (.tmp 47) (.const (.int .i32 (-2147483648))) (p := .pointer (some ⟨C, c * 3 + 2, none⟩)) (q := .int .i32 (-2147483648)) (by kernel_rfl) (evN rfl rfl) rfl (st21 hp hf) ?_
  exact s_end (by kernel_rfl) (hK _  (((Same.refl.put 45 _).put 46 _).put 47 _))
set_option maxRecDepth 100000 in
set_option maxHeartbeats 400000 in
theorem j10 (D c T l : Nat) (wa : World) (hl : CallR 24 #[.pointer (some ⟨D, 0, none⟩), .int .u64 ((T : Nat) : Int)] wa fun v w' => v = .int .i32 ((l : Nat) : Int) ∧ w' = wa) (R : Value → World → Prop) (hc : CallR 7 #[.pointer (some ⟨D, 0, none⟩), .int .i32 ((c : Nat) : Int), .int .i32 ((l : Nat) : Int)] wa R) (f : Nat → Value) (h0 : f 0 = .pointer (some ⟨D, 0, none⟩)) (h10 : f 10 = .int .i32 ((c : Nat) : Int)) (h13 : f 13 = .int .u64 ((T : Nat) : Int)) (K : Act → World → Prop)
    (hK : ∀ (f' : Nat → Value) (v : Value) (wx : World), Same f f' [53, 52, 51, 50, 49, 48] → R v wx → K (Fm 81 f') (wx)) :
    Code.wp Ybaf.prog (elsC (tailC (headC (dropC 3 r8)))) (only K) (Fm 81 f) wa := by
  refine regN (by kernel_rfl) ?_
  refine s_ex 0 48 (.move (.tmp 0)) (v := .pointer (some ⟨D, 0, none⟩)) (by kernel_rfl) (ex_mv (evN rfl h0)) ?_
  refine s_ex 1 49 (.move (.tmp 10)) (v := .int .i32 ((c : Nat) : Int)) (by kernel_rfl) (ex_mv (evN rfl h10)) ?_
  refine s_ex 2 50 (.move (.tmp 0)) (v := .pointer (some ⟨D, 0, none⟩)) (by kernel_rfl) (ex_mv (evN rfl h0)) ?_
  refine s_ex 3 51 (.move (.tmp 13)) (v := .int .u64 ((T : Nat) : Int)) (by kernel_rfl) (ex_mv (evN rfl h13)) ?_
  refine s_call 4 52 (.call { callee := .value (.func 24), args := #[(.tmp 50), (.tmp 51)], argTypes := #[28, 35] }) (fn := 24) (args := #[.pointer (some ⟨D, 0, none⟩), .int .u64 ((T : Nat) : Int)]) (by kernel_rfl) (ex_fn2 (cf24 _) (evN rfl rfl) (evN rfl rfl)) (hl) ?_
  rintro _ _ ⟨rfl, rfl⟩
  refine s_call 5 53 (.call { callee := .value (.func 7), args := #[(.tmp 48), (.tmp 49), (.tmp 52)], argTypes := #[28, 21, 21] }) (fn := 7) (args := #[.pointer (some ⟨D, 0, none⟩), .int .i32 ((c : Nat) : Int), .int .i32 ((l : Nat) : Int)]) (by kernel_rfl) (ex_fn3 (cf7 _) (evN rfl rfl) (evN rfl rfl) (evN rfl rfl)) (hc) ?_
  intro v wx hR
  exact s_end (by kernel_rfl) (hK _ v wx ((((((Same.refl.put 48 _).put 49 _).put 50 _).put 51 _).put 52 _).put 53 _) hR)
set_option maxRecDepth 100000 in
set_option maxHeartbeats 400000 in
theorem j11 (z : Int) (wa : World) (f : Nat → Value) (h12 : f 12 = .int .i32 z) (K : Act → World → Prop)
    (hK : ∀ (f' : Nat → Value), Same f f' [10, 54] → f' 10 = .int .i32 z → K (Fm 81 f') (wa)) :
    Code.wp Ybaf.prog (dropC 4 r8) (only K) (Fm 81 f) wa := by
  refine regN (by kernel_rfl) ?_
  refine s_ex 0 54 (.move (.tmp 12)) (v := .int .i32 z) (by kernel_rfl) (ex_mv (evN rfl h12)) ?_
  refine s_ex 1 10 (.assign (.tmp 54)) (v := .int .i32 z) (by kernel_rfl) (ex_as (evN rfl rfl)) ?_
  exact s_end (by kernel_rfl) (hK _  ((Same.refl.put 54 _).put 10 _) rfl)
set_option maxRecDepth 100000 in
set_option maxHeartbeats 400000 in
theorem j12 (E m cp m0 : Nat) (wa : World) (hm : m ≤ 1000000) (hm0 : m0 ≤ 1000000) (f : Nat → Value) (h3 : f 3 = .slice (some ⟨E, 0, none⟩) m cp) (h9 : f 9 = .int .i64 ((m0 : Nat) : Int)) (K : Act → World → Prop)
    (hK : ∀ (f' : Nat → Value), Same f f' [59, 58, 57, 56, 55] → f' 59 = .bool (decide (1 < (((m : Nat) : Int) - ((m0 : Nat) : Int)))) → K (Fm 81 f') (wa)) :
    Code.wp Ybaf.prog (headC (headC (dropC 4 l8))) (only K) (Fm 81 f) wa := by
  refine regN (by kernel_rfl) ?_
  refine s_ex 0 55 (.move (.tmp 3)) (v := .slice (some ⟨E, 0, none⟩) m cp) (by kernel_rfl) (ex_mv (evN rfl h3)) ?_
  refine s_ex 1 56 (.call { callee := .builtin .len, args := #[(.tmp 55)], argTypes := #[26] }) (v := .int .i64 ((m : Nat) : Int)) (by kernel_rfl) (ex_len (ad := (some ⟨E, 0, none⟩)) (n := m) (c := cp) Ybaf.underlying26 (evN rfl rfl)) ?_
  refine s_ex 2 57 (.move (.tmp 9)) (v := .int .i64 ((m0 : Nat) : Int)) (by kernel_rfl) (ex_mv (evN rfl h9)) ?_
  refine s_ex 3 58 (.binOp .sub 3 (.tmp 56) (.tmp 57) 3) (v := .int .i64 (((m : Nat) : Int) - ((m0 : Nat) : Int))) (by kernel_rfl) (ex_bn (u := .int .i64 ((m : Nat) : Int)) (u' := .int .i64 ((m0 : Nat) : Int)) (evN rfl rfl) (evN rfl rfl) (subI rfl (by omega) (by omega))) ?_
  refine s_ex 4 59 (.binOp .gtr 3 (.tmp 58) (.const (.int .i64 1)) 3) (v := .bool (decide (1 < (((m : Nat) : Int) - ((m0 : Nat) : Int))))) (by kernel_rfl) (ex_bn (u := .int .i64 (((m : Nat) : Int) - ((m0 : Nat) : Int))) (u' := .int .i64 1) (evN rfl rfl) rfl (gtrI rfl)) ?_
  exact s_end (by kernel_rfl) (hK _  (((((Same.refl.put 55 _).put 56 _).put 57 _).put 58 _).put 59 _) rfl)
set_option maxRecDepth 100000 in
set_option maxHeartbeats 400000 in
theorem j13 (D C n E m cp m0 : Nat) (x y : Value) (wa : World) (h1 : m0 ≤ m) (h2 : m ≤ cp) (hlt : m0 < cp) (hs : wa.cell? ⟨D, 3, none⟩ = some (.slice (some ⟨C, 0, none⟩) n n)) (hx : wa.cell? ⟨D, 720, none⟩ = some x) (hy : wa.cell? ⟨D, 721, none⟩ = some y) (hfx : wa.frozen? ⟨D, 720, none⟩ = false) (hfy : wa.frozen? ⟨D, 721, none⟩ = false) (f : Nat → Value) (h0 : f 0 = .pointer (some ⟨D, 0, none⟩)) (h3 : f 3 = .slice (some ⟨E, 0, none⟩) m cp) (h9 : f 9 = .int .i64 ((m0 : Nat) : Int)) (K : Act → World → Prop)
    (hK : ∀ (f' : Nat → Value), Same f f' [70, 69, 68, 67, 66, 65, 64, 63, 62, 61, 60] → K (Fm 81 f') ((wa.drew.setCell ⟨D, 720, none⟩ (.slice (some ⟨E, m0, none⟩) (m - m0) (cp - m0))).setCell ⟨D, 721, none⟩ (.slice (some ⟨C, 0, none⟩) n n))) :
    Code.wp Ybaf.prog (headC (thnC (tailC (headC (dropC 4 l8))))) (only K) (Fm 81 f) wa := by
  refine anyN 12 (by kernel_rfl) (by kernel_rfl) ?_
  refine a_take 0 60 (.move (.tmp 0)) (v := .pointer (some ⟨D, 0, none⟩)) (by kernel_rfl) (by kernel_rfl) (by kernel_rfl) (by kernel_rfl) (fun _ _ _ h => h) (fun _ => (ex_mv (evN rfl h0))) ?_
  refine a_take 1 61 (.move (.tmp 3)) (v := .slice (some ⟨E, 0, none⟩) m cp) (by kernel_rfl) (by kernel_rfl) (by kernel_rfl) (by kernel_rfl) (fun _ _ _ h => h) (fun _ => (ex_mv (evN rfl h3))) ?_
  refine a_take 2 62 (.move (.tmp 9)) (v := .int .i64 ((m0 : Nat) : Int)) (by kernel_rfl) (by kernel_rfl) (by kernel_rfl) (by kernel_rfl) (fun _ _ _ h => h) (fun _ => (ex_mv (evN rfl h9))) ?_
  refine a_take 3 63 (.slice 26 (.tmp 61) (some (.tmp 62)) none none) (v := .slice (some ⟨E, m0, none⟩) (m - m0) (cp - m0)) (by kernel_rfl) (by kernel_rfl) (by kernel_rfl) (by kernel_rfl) (fun _ _ _ h => h) (fun _ => (ex_sll (u := .slice (some ⟨E, 0, none⟩) m cp) (lo := .int .i64 ((m0 : Nat) : Int)) (evN rfl rfl) (evN rfl rfl) (sl26 h1 h2 hlt))) ?_
  refine a_take 4 64 (.move (.tmp 0)) (v := .pointer (some ⟨D, 0, none⟩)) (by kernel_rfl) (by kernel_rfl) (by kernel_rfl) (by kernel_rfl) (fun _ _ _ h => h) (fun _ => (ex_mv (evN rfl h0))) ?_
  refine a_take 5 65 (.nilCheck (.tmp 64)) (v := .pointer (some ⟨D, 0, none⟩)) (by kernel_rfl) (by kernel_rfl) (by kernel_rfl) (by kernel_rfl) (fun _ _ _ h => h) (fun _ => (ex_nc (evN rfl rfl))) ?_
  refine a_take 6 66 (.fieldAddr 42 (.tmp 65) 3) (v := .pointer (some ⟨D, 3, none⟩)) (by kernel_rfl) (by kernel_rfl) (by kernel_rfl) (by kernel_rfl) (fun _ _ _ h => h) (fun _ => (ex_fa (u := .pointer (some ⟨D, 0, none⟩)) (evN rfl rfl) (fa42_3))) ?_
  refine a_1 7 67 (.load 36 (.tmp 66)) (v := .slice (some ⟨C, 0, none⟩) n n) (by kernel_rfl) (by kernel_rfl) (ex_ld (u := .pointer (some ⟨D, 3, none⟩)) (evN rfl rfl) (ld36 (w := wa.drew) hs)) ?_
  refine a_take 8 68 (.build 40 #[(0, (.tmp 63)), (1, (.tmp 67))]) (v := .agg #[.slice (some ⟨E, m0, none⟩) (m - m0) (cp - m0), .slice (some ⟨C, 0, none⟩) n n]) (by kernel_rfl) (by kernel_rfl) (by kernel_rfl) (by kernel_rfl) (fun _ _ _ h => h) (fun _ => (ex_bd2 (u0 := .slice (some ⟨E, m0, none⟩) (m - m0) (cp - m0)) (u1 := .slice (some ⟨C, 0, none⟩) n n) (evN rfl rfl) (evN rfl rfl) (bd40 rfl rfl))) ?_
  refine a_take 9 69 (.nilCheck (.tmp 60)) (v := .pointer (some ⟨D, 0, none⟩)) (by kernel_rfl) (by kernel_rfl) (by kernel_rfl) (by kernel_rfl) (fun _ _ _ h => h) (fun _ => (ex_nc (evN rfl rfl))) ?_
  refine a_take 10 70 (.fieldAddr 42 (.tmp 69) 6) (v := .pointer (some ⟨D, 720, none⟩)) (by kernel_rfl) (by kernel_rfl) (by kernel_rfl) (by kernel_rfl) (fun _ _ _ h => h) (fun _ => (ex_fa (u := .pointer (some ⟨D, 0, none⟩)) (evN rfl rfl) (fa42_6))) ?_
  refine a_st 11 40 (.tmp 70) (.tmp 68) (p := .pointer (some ⟨D, 720, none⟩)) (q := .agg #[.slice (some ⟨E, m0, none⟩) (m - m0) (cp - m0), .slice (some ⟨C, 0, none⟩) n n]) (by kernel_rfl) (by kernel_rfl) (evN rfl rfl) (evN rfl rfl) (st40 (w := wa.drew) hx hy hfx hfy) ?_
  exact a_end (by kernel_rfl) (hK _  (((((((((((((Same.refl.put 60 _).put 61 _).put 62 _).put 63 _).put 64 _).put 65 _).put 66 _).put 67 _).put 68 _).put 69 _).put 70 _)).wide rfl))
set_option maxRecDepth 100000 in
set_option maxHeartbeats 400000 in
theorem j14 (D : Nat) (wa : World) (R : Value → World → Prop) (hc : CallR 25 #[.iface 83 (.pointer (some ⟨D, 720, none⟩))] wa R) (f : Nat → Value) (h0 : f 0 = .pointer (some ⟨D, 0, none⟩)) (K : Act → World → Prop)
    (hK : ∀ (f' : Nat → Value) (v : Value) (wx : World), Same f f' [75, 74, 73, 72, 71] → R v wx → K (Fm 81 f') (wx)) :
    Code.wp Ybaf.prog (headC (tailC (thnC (tailC (headC (dropC 4 l8)))))) (only K) (Fm 81 f) wa := by
  refine regN (by kernel_rfl) ?_
  refine s_ex 0 71 (.move (.tmp 0)) (v := .pointer (some ⟨D, 0, none⟩)) (by kernel_rfl) (ex_mv (evN rfl h0)) ?_
  refine s_ex 1 72 (.nilCheck (.tmp 71)) (v := .pointer (some ⟨D, 0, none⟩)) (by kernel_rfl) (ex_nc (evN rfl rfl)) ?_
  refine s_ex 2 73 (.fieldAddr 42 (.tmp 72) 6) (v := .pointer (some ⟨D, 720, none⟩)) (by kernel_rfl) (ex_fa (u := .pointer (some ⟨D, 0, none⟩)) (evN rfl rfl) (fa42_6)) ?_
  refine s_ex 3 74 (.makeInterface 83 (.tmp 73)) (v := .iface 83 (.pointer (some ⟨D, 720, none⟩))) (by kernel_rfl) (ex_mi (u := .pointer (some ⟨D, 720, none⟩)) (evN rfl rfl) (by kernel_rfl)) ?_
  refine s_call 4 75 (.call { callee := .value (.func 25), args := #[(.tmp 74)], argTypes := #[104] }) (fn := 25) (args := #[.iface 83 (.pointer (some ⟨D, 720, none⟩))]) (by kernel_rfl) (ex_fn1 (cf25 _) (evN rfl rfl)) (hc) ?_
  intro v wx hR
  exact s_end (by kernel_rfl) (hK _ v wx (((((Same.refl.put 71 _).put 72 _).put 73 _).put 74 _).put 75 _) hR)
set_option maxRecDepth 100000 in
set_option maxHeartbeats 400000 in
theorem j15 (D : Nat) (x y : Value) (wa : World) (hx : wa.cell? ⟨D, 720, none⟩ = some x) (hy : wa.cell? ⟨D, 721, none⟩ = some y) (hfx : wa.frozen? ⟨D, 720, none⟩ = false) (hfy : wa.frozen? ⟨D, 721, none⟩ = false) (f : Nat → Value) (h0 : f 0 = .pointer (some ⟨D, 0, none⟩)) (K : Act → World → Prop)
    (hK : ∀ (f' : Nat → Value), Same f f' [79, 78, 77, 76] → K (Fm 81 f') ((wa.setCell ⟨D, 720, none⟩ (.slice none 0 0)).setCell ⟨D, 721, none⟩ (.slice none 0 0))) :
    Code.wp Ybaf.prog (tailC (tailC (thnC (tailC (headC (dropC 4 l8)))))) (only K) (Fm 81 f) wa := by
  refine regN (by kernel_rfl) ?_
  refine s_ex 0 76 (.move (.tmp 0)) (v := .pointer (some ⟨D, 0, none⟩)) (by kernel_rfl) (ex_mv (evN rfl h0)) ?_
  refine s_ex 1 77 (.build 40 #[]) (v := .agg #[.slice none 0 0, .slice none 0 0]) (by kernel_rfl) (ex_bd0 (bd40z)) ?_
  refine s_ex 2 78 (.nilCheck (.tmp 76)) (v := .pointer (some ⟨D, 0, none⟩)) (by kernel_rfl) (ex_nc (evN rfl rfl)) ?_
  refine s_ex 3 79 (.fieldAddr 42 (.tmp 78) 6) (v := .pointer (some ⟨D, 720, none⟩)) (by kernel_rfl) (ex_fa (u := .pointer (some ⟨D, 0, none⟩)) (evN rfl rfl) (fa42_6)) ?_
  refine s_st 4 40 (.tmp 79) (.tmp 77) (p := .pointer (some ⟨D, 720, none⟩)) (q := .agg #[.slice none 0 0, .slice none 0 0]) (by kernel_rfl) (evN rfl rfl) (evN rfl rfl) (st40 hx hy hfx hfy) ?_
  exact s_end (by kernel_rfl) (hK _  ((((Same.refl.put 76 _).put 77 _).put 78 _).put 79 _))
set_option maxRecDepth 100000 in
set_option maxHeartbeats 400000 in
theorem j16 (v : Value) (wa : World) (f : Nat → Value) (h3 : f 3 = v) (K : Act → World → Prop)
    (hK : ∀ (f' : Nat → Value), Same f f' [8, 80] → f' 8 = v → K (Fm 81 f') (wa)) :
    Code.wp Ybaf.prog (headC (dropC 5 l8)) (only K) (Fm 81 f) wa := by
  refine regN (by kernel_rfl) ?_
  refine s_ex 0 80 (.move (.tmp 3)) (v := v) (by kernel_rfl) (ex_mv (evN rfl h3)) ?_
  refine s_ex 1 8 (.assign (.tmp 80)) (v := v) (by kernel_rfl) (ex_as (evN rfl rfl)) ?_
  exact s_end (by kernel_rfl) (hK _  ((Same.refl.put 80 _).put 8 _) rfl)
end Go.Proofs.YbulkblsgFmt

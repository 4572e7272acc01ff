import Derived.Test.YbulkblsgFmtFn
namespace Go.Proofs.YbulkblsgFmt
open Go.RowKit Go.Extern.Stop Go.Stop Go.Extern
set_option linter.unusedVariables false
set_option linter.unusedSimpArgs false
def AN (M : Nat) (c : Code) (Q : Exit → Act → World → Prop) (n : Nat) (listed : Array Bool) (f : Nat → Value) (w : World) : Prop := wpAny Ybaf.prog .any (opsC c) Q n listed (Fm M f) w
theorem anyN {M : Nat} {c : Code} {Q : Exit → Act → World → Prop} {f : Nat → Value} {w : World} (N : Nat) (hc : drawnC c = true) (hN : (opsC c).size = N) (h : AN M c Q N (Array.replicate N false) f w.drew) : c.wp Ybaf.prog Q (Fm M f) w := by
  subst hN
  exact regNany hc h
section
variable {M : Nat} {c : Code} {Q : Exit → Act → World → Prop} {f : Nat → Value} {w w' : World} {fuel : Nat} {listed : Array Bool}
theorem a_take (i d : Nat) (op : Op) {v : Value} (hk : key (opAt c i) = (none, some d, op)) (hs : Region.noSelect (opsC c) = true) (hf : Region.free .any (opsC c) listed i = true) (hr : (Region.ready .any (opsC c) listed).contains i = true)
    (hQ : ∀ c a w, Q (.panic c) (a.put (some d) v) w → Q (.panic c) a w) (hrun : ∀ (w : World) (o : Oper), o.op = op → (execOp (Fm M f).eval o).run Ybaf.prog w = .ok (.value v) w) (h : AN M c Q fuel (listed.setIfInBounds i true) (upd f d v) w) : AN M c Q (fuel + 1) listed f w := by
  have hg : (opAt c i).guard = none := congrArg (·.1) hk
  have hd : (opAt c i).dst = some d := congrArg (·.2.1) hk
  have ho : (opAt c i).op = op := congrArg (·.2.2) hk
  unfold AN
  refine anyT d (at_of_key hk (Or.inl rfl)) hs hf hr hQ (by simp [Region.wanted, hg]) hd (fun w => hrun w _ ho) ?_
  rw [Fm_put]; exact h
theorem a_takeg (i d j e : Nat) (b : Bool) (op : Op) {v : Value} (hk : key (opAt c i) = (some (j, b), some d, op)) (hj : (opAt c j).dst = some e) (he : Nat.blt e M = true) (hb : f e = .bool b) (hs : Region.noSelect (opsC c) = true) (hf : Region.free .any (opsC c) listed i = true) (hr : (Region.ready .any (opsC c) listed).contains i = true)
    (hQ : ∀ c a w, Q (.panic c) (a.put (some d) v) w → Q (.panic c) a w) (hrun : ∀ (w : World) (o : Oper), o.op = op → (execOp (Fm M f).eval o).run Ybaf.prog w = .ok (.value v) w) (h : AN M c Q fuel (listed.setIfInBounds i true) (upd f d v) w) : AN M c Q (fuel + 1) listed f w := by
  have hd : (opAt c i).dst = some d := congrArg (·.2.1) hk
  have ho : (opAt c i).op = op := congrArg (·.2.2) hk
  unfold AN
  refine anyT d (at_of_key hk (Or.inr (by simp))) hs hf hr hQ ((wantN hk hj he hb).trans (by simp)) hd (fun w => hrun w _ ho) ?_
  rw [Fm_put]; exact h
theorem a_1 (i d : Nat) (op : Op) {v : Value} (hk : key (opAt c i) = (none, some d, op)) (hr : Region.ready .any (opsC c) listed = [i]) (hrun : ∀ o : Oper, o.op = op → (execOp (Fm M f).eval o).run Ybaf.prog w = .ok (.value v) w') (h : AN M c Q fuel (listed.setIfInBounds i true) (upd f d v) w') : AN M c Q (fuel + 1) listed f w := by
  have hg : (opAt c i).guard = none := congrArg (·.1) hk
  have hd : (opAt c i).dst = some d := congrArg (·.2.1) hk
  have ho : (opAt c i).op = op := congrArg (·.2.2) hk
  unfold AN
  refine any1 d hr (at_of_key hk (Or.inl rfl)) (by simp [Region.wanted, hg]) hd (hrun _ ho) ?_
  rw [Fm_put]; exact h
theorem a_1g (i d j e : Nat) (b : Bool) (op : Op) {v : Value} (hk : key (opAt c i) = (some (j, b), some d, op)) (hj : (opAt c j).dst = some e) (he : Nat.blt e M = true) (hb : f e = .bool b) (hr : Region.ready .any (opsC c) listed = [i]) (hrun : ∀ o : Oper, o.op = op → (execOp (Fm M f).eval o).run Ybaf.prog w = .ok (.value v) w') (h : AN M c Q fuel (listed.setIfInBounds i true) (upd f d v) w') : AN M c Q (fuel + 1) listed f w := by
  have hd : (opAt c i).dst = some d := congrArg (·.2.1) hk
  have ho : (opAt c i).op = op := congrArg (·.2.2) hk
  unfold AN
  refine any1 d hr (at_of_key hk (Or.inr (by simp))) ((wantN hk hj he hb).trans (by simp)) hd (hrun _ ho) ?_
  rw [Fm_put]; exact h
theorem a_1c (i d : Nat) (op : Op) {fn : FuncId} {args : Array Value} {R : Value → World → Prop} (hk : key (opAt c i) = (none, some d, op)) (hr : Region.ready .any (opsC c) listed = [i]) (hrun : ∀ o : Oper, o.op = op → (execOp (Fm M f).eval o).run Ybaf.prog w = .ok (.enter fn args) w)
    (hc : Calls Ybaf.prog fn args w fun e w' => ∃ v, e = .returned v ∧ R v w') (h : ∀ v w', R v w' → AN M c Q fuel (listed.setIfInBounds i true) (upd f d v) w') : AN M c Q (fuel + 1) listed f w := by
  have hg : (opAt c i).guard = none := congrArg (·.1) hk
  have hd : (opAt c i).dst = some d := congrArg (·.2.1) hk
  have ho : (opAt c i).op = op := congrArg (·.2.2) hk
  unfold AN
  refine any1c d hr (at_of_key hk (Or.inl rfl)) (by simp [Region.wanted, hg]) hd (hrun _ ho) hc (fun v w' hR => ?_)
  rw [Fm_put]; exact h v w' hR
theorem a_1cg (i d j e : Nat) (b : Bool) (op : Op) {fn : FuncId} {args : Array Value} {R : Value → World → Prop} (hk : key (opAt c i) = (some (j, b), some d, op)) (hj : (opAt c j).dst = some e) (he : Nat.blt e M = true) (hb : f e = .bool b) (hr : Region.ready .any (opsC c) listed = [i]) (hrun : ∀ o : Oper, o.op = op → (execOp (Fm M f).eval o).run Ybaf.prog w = .ok (.enter fn args) w)
    (hc : Calls Ybaf.prog fn args w fun e w' => ∃ v, e = .returned v ∧ R v w') (h : ∀ v w', R v w' → AN M c Q fuel (listed.setIfInBounds i true) (upd f d v) w') : AN M c Q (fuel + 1) listed f w := by
  have hd : (opAt c i).dst = some d := congrArg (·.2.1) hk
  have ho : (opAt c i).op = op := congrArg (·.2.2) hk
  unfold AN
  refine any1c d hr (at_of_key hk (Or.inr (by simp))) ((wantN hk hj he hb).trans (by simp)) hd (hrun _ ho) hc (fun v w' hR => ?_)
  rw [Fm_put]; exact h v w' hR
theorem a_2 (i d j e : Nat) (op op2 : Op) {v u : Value} (hk : key (opAt c i) = (none, some d, op)) (hk2 : key (opAt c j) = (none, some e, op2)) (hr : Region.ready .any (opsC c) listed = [i, j]) (hrun : ∀ o : Oper, o.op = op → (execOp (Fm M f).eval o).run Ybaf.prog w = .ok (.value v) w) (hrun2 : ∀ o : Oper, o.op = op2 → (execOp (Fm M f).eval o).run Ybaf.prog w = .ok (.value u) w)
    (h : AN M c Q fuel (listed.setIfInBounds i true) (upd f d v) w) (h2 : AN M c Q fuel (listed.setIfInBounds j true) (upd f e u) w) : AN M c Q (fuel + 1) listed f w := by
  have hg : (opAt c i).guard = none := congrArg (·.1) hk
  have hd : (opAt c i).dst = some d := congrArg (·.2.1) hk
  have ho : (opAt c i).op = op := congrArg (·.2.2) hk
  have hg2 : (opAt c j).guard = none := congrArg (·.1) hk2
  have hd2 : (opAt c j).dst = some e := congrArg (·.2.1) hk2
  have ho2 : (opAt c j).op = op2 := congrArg (·.2.2) hk2
  unfold AN
  refine any2 d e hr (at_of_key hk (Or.inl rfl)) (at_of_key hk2 (Or.inl rfl)) (by simp [Region.wanted, hg]) (by simp [Region.wanted, hg2]) hd hd2 (hrun _ ho) (hrun2 _ ho2) ?_ ?_
  · rw [Fm_put]; exact h
  · rw [Fm_put]; exact h2
theorem a_2c (i d j e : Nat) (op op2 : Op) {fn : FuncId} {args : Array Value} {R : Value → World → Prop} {u : Value} (hk : key (opAt c i) = (none, some d, op)) (hk2 : key (opAt c j) = (none, some e, op2)) (hr : Region.ready .any (opsC c) listed = [i, j]) (hrun : ∀ o : Oper, o.op = op → (execOp (Fm M f).eval o).run Ybaf.prog w = .ok (.enter fn args) w) (hc : Calls Ybaf.prog fn args w fun e w' => ∃ v, e = .returned v ∧ R v w') (hrun2 : ∀ o : Oper, o.op = op2 → (execOp (Fm M f).eval o).run Ybaf.prog w = .ok (.value u) w)
    (h : ∀ v w', R v w' → AN M c Q fuel (listed.setIfInBounds i true) (upd f d v) w') (h2 : AN M c Q fuel (listed.setIfInBounds j true) (upd f e u) w) : AN M c Q (fuel + 1) listed f w := by
  have hg : (opAt c i).guard = none := congrArg (·.1) hk
  have hd : (opAt c i).dst = some d := congrArg (·.2.1) hk
  have ho : (opAt c i).op = op := congrArg (·.2.2) hk
  have hg2 : (opAt c j).guard = none := congrArg (·.1) hk2
  have hd2 : (opAt c j).dst = some e := congrArg (·.2.1) hk2
  have ho2 : (opAt c j).op = op2 := congrArg (·.2.2) hk2
  unfold AN at h h2 ⊢
  refine any2c d e hr (at_of_key hk (Or.inl rfl)) (at_of_key hk2 (Or.inl rfl)) (by simp [Region.wanted, hg]) (by simp [Region.wanted, hg2]) hd hd2 (hrun _ ho) hc (hrun2 _ ho2) ?_ ?_
  · intro v w' hR
    rw [Fm_put]; exact h v w' hR
  · rw [Fm_put]; exact h2
theorem a_st (i : Nat) (t : TypeId) (x y : Operand) {p q : Value} (hk : key (opAt c i) = (none, none, .store t x y)) (hr : Region.ready .any (opsC c) listed = [i]) (hx : (Fm M f).eval x = p) (hy : (Fm M f).eval y = q) (hrun : (Instr.storeAt t p q).run Ybaf.prog w = .ok () w') (h : AN M c Q fuel (listed.setIfInBounds i true) f w') : AN M c Q (fuel + 1) listed f w := by
  have hg : (opAt c i).guard = none := congrArg (·.1) hk
  have hd : (opAt c i).dst = none := congrArg (·.2.1) hk
  have ho : (opAt c i).op = .store t x y := congrArg (·.2.2) hk
  unfold AN
  exact any1s hr (at_of_key hk (Or.inl rfl)) (by simp [Region.wanted, hg]) ho hd hx hy hrun h
theorem a_end {n : Nat} (hr : Region.ready .any (opsC c) listed = []) (hQ : Q .normal (Fm M f) w) : AN M c Q n listed f w := by
  unfold AN
  exact wpAny_done hr hQ _
end
attribute [irreducible] AN
end Go.Proofs.YbulkblsgFmt

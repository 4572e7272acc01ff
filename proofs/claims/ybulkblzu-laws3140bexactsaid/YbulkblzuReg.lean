import Derived.Test.YbulkblzuBase
import Derived.Deep.MidRow
namespace Go.Proofs.Ybulkblzu
open Go.RowKit Go.Maps Go.WideMaps
set_option linter.unusedVariables false
section
variable {P : Program} {md : Region.Mode} {ops : Array Oper} {Q : Exit → Act → World → Prop}
/-- One operation alone may come up, and it yields v. -/
theorem any1 (d : Nat) {i : Nat} {o : Oper} {fuel : Nat} {listed : Array Bool} {a : Act} {w w' : World} {v : Value} (hr : Region.ready md ops listed = [i]) (ho : ops[i]? = some o) (hw : Region.wanted o (yielded ops a.tmps) = true) (hd : o.dst = some d)
    (hrun : (execOp a.eval o).run P w = .ok (.value v) w') (h : wpAny P md ops Q fuel (listed.setIfInBounds i true) (a.put (some d) v) w') : wpAny P md ops Q (fuel + 1) listed a w :=
  wpAny_ready hr (by simp) (AllReady.cons ho (fun K hK => by rw [if_pos hw]; unfold Oper.wp; rw [hrun]; rw [Oper.upon_value, hd]; exact hK _ _ h) AllReady.nil)
/-- The same by a law. -/
theorem any1law {i : Nat} {o : Oper} {fuel : Nat} {listed : Array Bool} {a : Act} {w : World} (hr : Region.ready md ops listed = [i]) (ho : ops[i]? = some o)
    (h : ∀ K' : Act → World → Prop, (∀ a w, wpAny P md ops Q fuel (listed.setIfInBounds i true) a w → K' a w) → if Region.wanted o (yielded ops a.tmps) = true then Oper.wp P o a w K' Q else K' (a.put o.dst undef) w) : wpAny P md ops Q (fuel + 1) listed a w :=
  wpAny_ready hr (by simp) (AllReady.cons ho h AllReady.nil)
/-- Two may come up; each yields. -/
theorem any2 (d e : Nat) {i j : Nat} {o p : Oper} {fuel : Nat} {listed : Array Bool} {a : Act} {w w' w'' : World} {v u : Value} (hr : Region.ready md ops listed = [i, j]) (ho : ops[i]? = some o) (hp : ops[j]? = some p) (hw : Region.wanted o (yielded ops a.tmps) = true) (hw2 : Region.wanted p (yielded ops a.tmps) = true) (hd : o.dst = some d) (he : p.dst = some e)
    (hrun : (execOp a.eval o).run P w = .ok (.value v) w') (hrun2 : (execOp a.eval p).run P w = .ok (.value u) w'')
    (h : wpAny P md ops Q fuel (listed.setIfInBounds i true) (a.put (some d) v) w') (h2 : wpAny P md ops Q fuel (listed.setIfInBounds j true) (a.put (some e) u) w'') : wpAny P md ops Q (fuel + 1) listed a w :=
  wpAny_ready hr (by simp) (AllReady.cons ho (fun K hK => by rw [if_pos hw]; unfold Oper.wp; rw [hrun, Oper.upon_value, hd]; exact hK _ _ h) (AllReady.cons hp (fun K hK => by rw [if_pos hw2]; unfold Oper.wp; rw [hrun2, Oper.upon_value, he]; exact hK _ _ h2) AllReady.nil))
/-- What yields in whatever world is taken first. -/
theorem anyT (d : Nat) {i : Nat} {o : Oper} {fuel : Nat} {listed : Array Bool} {a : Act} {w : World} {v : Value} (hi : ops[i]? = some o)
    (hs : Region.noSelect ops = true) (hf : Region.free md ops listed i = true) (hr : (Region.ready md ops listed).contains i = true)
    (hQ : ∀ c a w, Q (.panic c) (a.put (some d) v) w → Q (.panic c) a w) (hw : Region.wanted o (yielded ops a.tmps) = true) (hd : o.dst = some d) (hy : ∀ w, (execOp a.eval o).run P w = .ok (.value v) w)
    (h : wpAny P md ops Q fuel (listed.setIfInBounds i true) (a.put (some d) v) w) : wpAny P md ops Q (fuel + 1) listed a w :=
  wpAny_take hi hs hf hr (by rw [hd]; exact hQ) (Or.inl ⟨hw, hy⟩) (by rw [hd]; exact h)
theorem ex_move {o : Oper} {a : Act} {x : Operand} {v : Value} (ho : o.op = .move x) (hx : a.eval x = v) (w : World) : (execOp a.eval o).run P w = .ok (.value v) w := by
  simp [execOp, ho, hx]
theorem ex_nil {o : Oper} {a : Act} {x : Operand} {ad : Addr} (ho : o.op = .nilCheck x) (hx : a.eval x = .pointer (some ad)) (w : World) : (execOp a.eval o).run P w = .ok (.value (.pointer (some ad))) w := by
  simp [execOp, ho, hx]
theorem ex_load {o : Oper} {a : Act} {x : Operand} {t : TypeId} {v u : Value} {w : World} (ho : o.op = .load t x) (hx : a.eval x = u) (hrun : (Instr.loadAt t u).run P w = .ok v w) : (execOp a.eval o).run P w = .ok (.value v) w := by
  simp [execOp, ho, hx, hrun]
theorem ex_buildSlice {o : Oper} {a : Act} {x : Operand} {t : TypeId} {v u : Value} {w w' : World} (ho : o.op = .buildSlice t 1 #[(0, x)]) (hx : a.eval x = u) (hrun : (Instr.buildSlice t 1 #[(0, u)]).run P w = .ok v w') : (execOp a.eval o).run P w = .ok (.value v) w' := by
  simp [execOp, ho, hx, hrun]
theorem ex_field {o : Oper} {a : Act} {x : Operand} {t : TypeId} {i : Nat} {v u : Value} {w : World} (ho : o.op = .fieldAddr t x i) (hx : a.eval x = u) (hrun : (Instr.fieldAt t u i).run P w = .ok v w) : (execOp a.eval o).run P w = .ok (.value v) w := by
  simp [execOp, ho, hx, hrun]
/-- A store, alone. -/
theorem any1s {i : Nat} {o : Oper} {fuel : Nat} {listed : Array Bool} {a : Act} {w w' : World} {x y : Operand} {t : TypeId} {p q : Value} (hr : Region.ready md ops listed = [i]) (ho : ops[i]? = some o) (hw : Region.wanted o (yielded ops a.tmps) = true) (hop : o.op = .store t x y) (hd : o.dst = none)
    (hx : a.eval x = p) (hy : a.eval y = q) (hrun : (Instr.storeAt t p q).run P w = .ok () w') (h : wpAny P md ops Q fuel (listed.setIfInBounds i true) a w') : wpAny P md ops Q (fuel + 1) listed a w :=
  wpAny_ready hr (by simp) (AllReady.cons ho (fun K hK => by
    rw [if_pos hw]
    have e : (execOp a.eval o).run P w = .ok .skip w' := by simp [execOp, hop, hx, hy, hrun]
    unfold Oper.wp; rw [e, Oper.upon_skip]
    have e2 : a.put o.dst undef = a := by rw [hd]; rfl
    rw [e2]; exact hK _ _ h) AllReady.nil)
/-- A plain region's next operation yields v. -/
theorem pl (d : Nat) {o : Oper} {rest : List Oper} {a : Act} {w w' : World} {v : Value} (hg : o.guard = none) (hd : o.dst = some d) (hrun : (execOp a.eval o).run P w = .ok (.value v) w') (h : wpList P ops Q rest (a.put (some d) v) w') : wpList P ops Q (o :: rest) a w :=
  wpList_plain hg fun K hK => by unfold Oper.wp; rw [hrun, Oper.upon_value, hd]; exact hK _ _ h
/-- The same, the world as it was. -/
theorem plk (d : Nat) (v : Value) {o : Oper} {rest : List Oper} {a : Act} {w : World} (hg : o.guard = none) (hd : o.dst = some d) (hrun : (execOp a.eval o).run P w = .ok (.value v) w) (h : wpList P ops Q rest (a.put (some d) v) w) : wpList P ops Q (o :: rest) a w := pl d hg hd hrun h
theorem any1k (d : Nat) (v : Value) {i : Nat} {o : Oper} {fuel : Nat} {listed : Array Bool} {a : Act} {w : World} (hr : Region.ready md ops listed = [i]) (ho : ops[i]? = some o) (hw : Region.wanted o (yielded ops a.tmps) = true) (hd : o.dst = some d)
    (hrun : (execOp a.eval o).run P w = .ok (.value v) w) (h : wpAny P md ops Q fuel (listed.setIfInBounds i true) (a.put (some d) v) w) : wpAny P md ops Q (fuel + 1) listed a w := any1 d hr ho hw hd hrun h
/-- A plain region's next operation stores. -/
theorem pls {o : Oper} {rest : List Oper} {a : Act} {w w' : World} {x y : Operand} {t : TypeId} {p q : Value} (hg : o.guard = none) (hd : o.dst = none) (hop : o.op = .store t x y) (hx : a.eval x = p) (hy : a.eval y = q) (hrun : (Instr.storeAt t p q).run P w = .ok () w') (h : wpList P ops Q rest a w') : wpList P ops Q (o :: rest) a w :=
  wpList_plain hg fun K hK => by
    have e : (execOp a.eval o).run P w = .ok .skip w' := by simp [execOp, hop, hx, hy, hrun]
    unfold Oper.wp; rw [e, Oper.upon_skip]
    have e2 : a.put o.dst undef = a := by rw [hd]; rfl
    rw [e2]; exact hK _ _ h
theorem ex_alloc {o : Oper} {a : Act} {t : TypeId} {v : Value} {w w' : World} (ho : o.op = .alloc t) (hrun : (Instr.alloc t true (.tuple #[])).run P w = .ok v w') : (execOp a.eval o).run P w = .ok (.value v) w' := by
  simp [execOp, ho, hrun]
theorem ex_box {o : Oper} {a : Act} {t : TypeId} {x : Operand} {u v : Value} {w w' : World} (ho : o.op = .box t x) (hx : a.eval x = u) (hrun : (Instr.box t u).run P w = .ok v w') : (execOp a.eval o).run P w = .ok (.value v) w' := by
  simp [execOp, ho, hx, hrun]
theorem ex_build1 {o : Oper} {a : Act} {t : TypeId} {x : Operand} {u v : Value} {w w' : World} (ho : o.op = .build t #[(0, x)]) (hx : a.eval x = u) (hrun : (Instr.build t #[(0, u)]).run P w = .ok v w') : (execOp a.eval o).run P w = .ok (.value v) w' := by
  simp [execOp, ho, hx, hrun]
theorem ex_build3 {o : Oper} {a : Act} {t : TypeId} {x y z : Operand} {u0 u1 u2 v : Value} {w w' : World} (ho : o.op = .build t #[(0, x), (1, y), (2, z)]) (hx : a.eval x = u0) (hy : a.eval y = u1) (hz : a.eval z = u2) (hrun : (Instr.build t #[(0, u0), (1, u1), (2, u2)]).run P w = .ok v w') : (execOp a.eval o).run P w = .ok (.value v) w' := by
  simp [execOp, ho, hx, hy, hz, hrun]
/-- A cell of a known row is set. -/
theorem row_set {w : World} {b o : Nat} {cs : Array Value} {t : TypeId} {v : Value} (h : w.heap[b]? = some (.cells cs t (0, 0))) : (w.setCell ⟨b, o, none⟩ v).heap[b]? = some (.cells (cs.setIfInBounds o v) t (0, 0)) := by
  simp [World.setCell, Array.getElem?_modify, h]
end
end Go.Proofs.Ybulkblzu

import Derived.Test.YbulkblsgFmtFct
import Derived.Deep.MidRow
import Derived.Deep.WholeRow
import Derived.Deep.RegionLaw
import Derived.Deep.AppendLies
import Derived.Deep.QuietTactic
import Derived.BigQuiet
import Derived.Outline
namespace Go.Proofs.YbulkblsgFmt
open Go.RowKit
set_option linter.unusedVariables false
theorem hid {p : Prop} (h : p) : Hid p := h
/-- The code behind the first n statements. -/
def dropC : Nat → Code → Code
  | n + 1, .seq _ b => dropC n b
  | _, c => c
def headC : Code → Code
  | .seq a _ => a
  | c => c
def tailC : Code → Code
  | .seq _ b => b
  | c => c
def blkC : Code → Code
  | .block _ b => b
  | c => c
def lupC : Code → Code
  | .loop b => b
  | c => c
def thnC : Code → Code
  | .cond _ a _ => a
  | c => c
def elsC : Code → Code
  | .cond _ _ b => b
  | c => c
/-- The piece leaves by its end alone, and there K holds. -/
abbrev only (K : Act → World → Prop) : Exit → Act → World → Prop := Exit.then K (fun _ _ _ => False)
theorem wp_use {P : Program} {c : Code} {Q : Exit → Act → World → Prop} {a : Act} {w : World} (h : c.wp P (only (fun a w => Q .normal a w)) a w) : c.wp P Q a w := by
  intro b k cs
  obtain ⟨e, a1, w1, hq, harr⟩ := h b k cs
  cases e with
  | normal => exact ⟨.normal, a1, w1, hq, harr⟩
  | _ => exact hq.elim
theorem addr_ne {b o o' : Nat} (h : o ≠ o') : (⟨b, o, none⟩ : Addr) ≠ ⟨b, o', none⟩ := fun e => h (by injection e)
theorem addr_ne' {b b' o o' : Nat} (h : b ≠ b') : (⟨b, o, none⟩ : Addr) ≠ ⟨b', o', none⟩ := fun e => h (by injection e)
theorem below_le {a b : World} {L M : Nat} (h : Below L a b) (hM : M ≤ L) : Below M a b := ⟨h.os, h.tape, h.output, h.size, fun k hk => h.block k (by omega)⟩
theorem cell_later {x x' : World} {b o : Nat} {v : Value} (hb : Below x.heap.size x x') (h : x.cell? ⟨b, o, none⟩ = some v) : x'.cell? ⟨b, o, none⟩ = some v := by
  have hl : b < x.heap.size := World.block_lt_of_cell? x _ h
  rw [World.cell?_of_block (a := ⟨b, o, none⟩) (hb.block b hl)]; exact h
theorem frozen_later {x x' : World} {b o : Nat} (hl : b < x.heap.size) (hb : Below x.heap.size x x') (h : x.frozen? ⟨b, o, none⟩ = false) : x'.frozen? ⟨b, o, none⟩ = false := by
  rw [World.frozen?_of_block (a := ⟨b, o, none⟩) (hb.block b hl)]; exact h
theorem al {w x : World} (h : Below w.heap.size w x) (ob : Obj) : Below w.heap.size w (x.alloc ob) := h.alloc h.size ob
section
variable {P : Program} {md : Region.Mode} {ops : Array Oper} {Q : Exit → Act → World → Prop}
/-- One operation alone may come up, and it yields v. -/
theorem any1 (d : Nat) {i : Nat} {o : Oper} {fuel : Nat} {listed : Array Bool} {a : Act} {w w' : World} {v : Value} (hr : Region.ready md ops listed = [i]) (ho : ops[i]? = some o) (hw : Region.wanted o (yielded ops a.tmps) = true) (hd : o.dst = some d)
    (hrun : (execOp a.eval o).run P w = .ok (.value v) w') (h : wpAny P md ops Q fuel (listed.setIfInBounds i true) (a.put (some d) v) w') : wpAny P md ops Q (fuel + 1) listed a w :=
  wpAny_ready hr (by simp) (AllReady.cons ho (fun K hK => by rw [if_pos hw]; unfold Oper.wp; rw [hrun]; rw [Oper.upon_value, hd]; exact hK _ _ h) AllReady.nil)
/-- The same by a law. -/
theorem any1law {i : Nat} {o : Oper} {fuel : Nat} {listed : Array Bool} {a : Act} {w : World} (hr : Region.ready md ops listed = [i]) (ho : ops[i]? = some o)
    (h : ∀ K' : Act → World → Prop, (∀ a w, wpAny P md ops Q fuel (listed.setIfInBounds i true) a w → K' a w) → if Region.wanted o (yielded ops a.tmps) = true then Oper.wp P o a w K' Q else K' (a.put o.dst undef) w) : wpAny P md ops Q (fuel + 1) listed a w :=
  wpAny_ready hr (by simp) (AllReady.cons ho h AllReady.nil)
/-- Two may come up; each yields. -/
theorem any2 (d e : Nat) {i j : Nat} {o p : Oper} {fuel : Nat} {listed : Array Bool} {a : Act} {w w' w'' : World} {v u : Value} (hr : Region.ready md ops listed = [i, j]) (ho : ops[i]? = some o) (hp : ops[j]? = some p) (hw : Region.wanted o (yielded ops a.tmps) = true) (hw2 : Region.wanted p (yielded ops a.tmps) = true) (hd : o.dst = some d) (he : p.dst = some e)
    (hrun : (execOp a.eval o).run P w = .ok (.value v) w') (hrun2 : (execOp a.eval p).run P w = .ok (.value u) w'')
    (h : wpAny P md ops Q fuel (listed.setIfInBounds i true) (a.put (some d) v) w') (h2 : wpAny P md ops Q fuel (listed.setIfInBounds j true) (a.put (some e) u) w'') : wpAny P md ops Q (fuel + 1) listed a w :=
  wpAny_ready hr (by simp) (AllReady.cons ho (fun K hK => by rw [if_pos hw]; unfold Oper.wp; rw [hrun, Oper.upon_value, hd]; exact hK _ _ h) (AllReady.cons hp (fun K hK => by rw [if_pos hw2]; unfold Oper.wp; rw [hrun2, Oper.upon_value, he]; exact hK _ _ h2) AllReady.nil))
/-- What yields in whatever world is taken first. -/
theorem anyT (d : Nat) {i : Nat} {o : Oper} {fuel : Nat} {listed : Array Bool} {a : Act} {w : World} {v : Value} (hi : ops[i]? = some o)
    (hs : Region.noSelect ops = true) (hf : Region.free md ops listed i = true) (hr : (Region.ready md ops listed).contains i = true)
    (hQ : ∀ c a w, Q (.panic c) (a.put (some d) v) w → Q (.panic c) a w) (hw : Region.wanted o (yielded ops a.tmps) = true) (hd : o.dst = some d) (hy : ∀ w, (execOp a.eval o).run P w = .ok (.value v) w)
    (h : wpAny P md ops Q fuel (listed.setIfInBounds i true) (a.put (some d) v) w) : wpAny P md ops Q (fuel + 1) listed a w :=
  wpAny_take hi hs hf hr (by rw [hd]; exact hQ) (Or.inl ⟨hw, hy⟩) (by rw [hd]; exact h)
theorem ex_move {o : Oper} {a : Act} {x : Operand} {v : Value} (ho : o.op = .move x) (hx : a.eval x = v) (w : World) : (execOp a.eval o).run P w = .ok (.value v) w := by
  simp [execOp, ho, hx]
theorem ex_nil {o : Oper} {a : Act} {x : Operand} {ad : Addr} (ho : o.op = .nilCheck x) (hx : a.eval x = .pointer (some ad)) (w : World) : (execOp a.eval o).run P w = .ok (.value (.pointer (some ad))) w := by
  simp [execOp, ho, hx]
theorem ex_load {o : Oper} {a : Act} {x : Operand} {t : TypeId} {v u : Value} {w : World} (ho : o.op = .load t x) (hx : a.eval x = u) (hrun : (Instr.loadAt t u).run P w = .ok v w) : (execOp a.eval o).run P w = .ok (.value v) w := by
  simp [execOp, ho, hx, hrun]
theorem ex_buildSlice {o : Oper} {a : Act} {x : Operand} {t : TypeId} {v u : Value} {w w' : World} (ho : o.op = .buildSlice t 1 #[(0, x)]) (hx : a.eval x = u) (hrun : (Instr.buildSlice t 1 #[(0, u)]).run P w = .ok v w') : (execOp a.eval o).run P w = .ok (.value v) w' := by
  simp [execOp, ho, hx, hrun]
theorem ex_field {o : Oper} {a : Act} {x : Operand} {t : TypeId} {i : Nat} {v u : Value} {w : World} (ho : o.op = .fieldAddr t x i) (hx : a.eval x = u) (hrun : (Instr.fieldAt t u i).run P w = .ok v w) : (execOp a.eval o).run P w = .ok (.value v) w := by
  simp [execOp, ho, hx, hrun]
/-- A store, alone. -/
theorem any1s {i : Nat} {o : Oper} {fuel : Nat} {listed : Array Bool} {a : Act} {w w' : World} {x y : Operand} {t : TypeId} {p q : Value} (hr : Region.ready md ops listed = [i]) (ho : ops[i]? = some o) (hw : Region.wanted o (yielded ops a.tmps) = true) (hop : o.op = .store t x y) (hd : o.dst = none)
    (hx : a.eval x = p) (hy : a.eval y = q) (hrun : (Instr.storeAt t p q).run P w = .ok () w') (h : wpAny P md ops Q fuel (listed.setIfInBounds i true) a w') : wpAny P md ops Q (fuel + 1) listed a w :=
  wpAny_ready hr (by simp) (AllReady.cons ho (fun K hK => by
    rw [if_pos hw]
    have e : (execOp a.eval o).run P w = .ok .skip w' := by simp [execOp, hop, hx, hy, hrun]
    unfold Oper.wp; rw [e, Oper.upon_skip]
    have e2 : a.put o.dst undef = a := by rw [hd]; rfl
    rw [e2]; exact hK _ _ h) AllReady.nil)
/-- A plain region's next operation yields v. -/
theorem pl (d : Nat) {o : Oper} {rest : List Oper} {a : Act} {w w' : World} {v : Value} (hg : o.guard = none) (hd : o.dst = some d) (hrun : (execOp a.eval o).run P w = .ok (.value v) w') (h : wpList P ops Q rest (a.put (some d) v) w') : wpList P ops Q (o :: rest) a w :=
  wpList_plain hg fun K hK => by unfold Oper.wp; rw [hrun, Oper.upon_value, hd]; exact hK _ _ h
/-- The same, the world as it was. -/
theorem plk (d : Nat) (v : Value) {o : Oper} {rest : List Oper} {a : Act} {w : World} (hg : o.guard = none) (hd : o.dst = some d) (hrun : (execOp a.eval o).run P w = .ok (.value v) w) (h : wpList P ops Q rest (a.put (some d) v) w) : wpList P ops Q (o :: rest) a w := pl d hg hd hrun h
theorem any1k (d : Nat) (v : Value) {i : Nat} {o : Oper} {fuel : Nat} {listed : Array Bool} {a : Act} {w : World} (hr : Region.ready md ops listed = [i]) (ho : ops[i]? = some o) (hw : Region.wanted o (yielded ops a.tmps) = true) (hd : o.dst = some d)
    (hrun : (execOp a.eval o).run P w = .ok (.value v) w) (h : wpAny P md ops Q fuel (listed.setIfInBounds i true) (a.put (some d) v) w) : wpAny P md ops Q (fuel + 1) listed a w := any1 d hr ho hw hd hrun h
/-- A plain region's next operation stores. -/
theorem pls {o : Oper} {rest : List Oper} {a : Act} {w w' : World} {x y : Operand} {t : TypeId} {p q : Value} (hg : o.guard = none) (hd : o.dst = none) (hop : o.op = .store t x y) (hx : a.eval x = p) (hy : a.eval y = q) (hrun : (Instr.storeAt t p q).run P w = .ok () w') (h : wpList P ops Q rest a w') : wpList P ops Q (o :: rest) a w :=
  wpList_plain hg fun K hK => by
    have e : (execOp a.eval o).run P w = .ok .skip w' := by simp [execOp, hop, hx, hy, hrun]
    unfold Oper.wp; rw [e, Oper.upon_skip]
    have e2 : a.put o.dst undef = a := by rw [hd]; rfl
    rw [e2]; exact hK _ _ h
theorem ex_alloc {o : Oper} {a : Act} {t : TypeId} {v : Value} {w w' : World} (ho : o.op = .alloc t) (hrun : (Instr.alloc t true (.tuple #[])).run P w = .ok v w') : (execOp a.eval o).run P w = .ok (.value v) w' := by
  simp [execOp, ho, hrun]
theorem ex_box {o : Oper} {a : Act} {t : TypeId} {x : Operand} {u v : Value} {w w' : World} (ho : o.op = .box t x) (hx : a.eval x = u) (hrun : (Instr.box t u).run P w = .ok v w') : (execOp a.eval o).run P w = .ok (.value v) w' := by
  simp [execOp, ho, hx, hrun]
theorem ex_build1 {o : Oper} {a : Act} {t : TypeId} {x : Operand} {u v : Value} {w w' : World} (ho : o.op = .build t #[(0, x)]) (hx : a.eval x = u) (hrun : (Instr.build t #[(0, u)]).run P w = .ok v w') : (execOp a.eval o).run P w = .ok (.value v) w' := by
  simp [execOp, ho, hx, hrun]
theorem ex_build3 {o : Oper} {a : Act} {t : TypeId} {x y z : Operand} {u0 u1 u2 v : Value} {w w' : World} (ho : o.op = .build t #[(0, x), (1, y), (2, z)]) (hx : a.eval x = u0) (hy : a.eval y = u1) (hz : a.eval z = u2) (hrun : (Instr.build t #[(0, u0), (1, u1), (2, u2)]).run P w = .ok v w') : (execOp a.eval o).run P w = .ok (.value v) w' := by
  simp [execOp, ho, hx, hy, hz, hrun]
/-- A cell of a known row is set. -/
theorem row_set {w : World} {b o : Nat} {cs : Array Value} {t : TypeId} {v : Value} (h : w.heap[b]? = some (.cells cs t (0, 0))) : (w.setCell ⟨b, o, none⟩ v).heap[b]? = some (.cells (cs.setIfInBounds o v) t (0, 0)) := by
  simp [World.setCell, Array.getElem?_modify, h]
end
theorem ex_index {P : Program} {o : Oper} {a : Act} {x y : Operand} {t : TypeId} {u i v : Value} {w : World} (ho : o.op = .indexAddr t x y) (hx : a.eval x = u) (hy : a.eval y = i) (hrun : (Instr.indexAt t u i).run P w = .ok v w) : (execOp a.eval o).run P w = .ok (.value v) w := by
  simp [execOp, ho, hx, hy, hrun]
theorem ex_conv {P : Program} {o : Oper} {a : Act} {x : Operand} {s t : TypeId} {u v : Value} {w : World} (ho : o.op = .convert s t x) (hx : a.eval x = u) (hrun : (convert s t u).run P w = .ok v w) : (execOp a.eval o).run P w = .ok (.value v) w := by
  simp [execOp, ho, hx, hrun]
section
variable {P : Program} {md : Region.Mode} {ops : Array Oper} {Q : Exit → Act → World → Prop}
/-- A step by a value. -/
theorem step_v (d : Nat) {o : Oper} {a : Act} {w w' : World} {K : Act → World → Prop} {E : Prop} {v : Value} (hw : Region.wanted o (yielded ops a.tmps) = true) (hd : o.dst = some d) (hrun : (execOp a.eval o).run P w = .ok (.value v) w') (h : K (a.put (some d) v) w') :
    if Region.wanted o (yielded ops a.tmps) = true then Oper.wp P o a w K Q else E := by
  rw [if_pos hw]; unfold Oper.wp; rw [hrun, Oper.upon_value, hd]; exact h
/-- A plain region's next operation, guarded or not. -/
theorem plg (d : Nat) {o : Oper} {rest : List Oper} {a : Act} {w w' : World} {v : Value} (hw : Region.wanted o (yielded ops a.tmps) = true) (hd : o.dst = some d) (hrun : (execOp a.eval o).run P w = .ok (.value v) w') (h : wpList P ops Q rest (a.put (some d) v) w') : wpList P ops Q (o :: rest) a w :=
  wpList_step fun K hK => step_v d hw hd hrun (hK _ _ h)
theorem plgk (d : Nat) (v : Value) {o : Oper} {rest : List Oper} {a : Act} {w : World} (hw : Region.wanted o (yielded ops a.tmps) = true) (hd : o.dst = some d) (hrun : (execOp a.eval o).run P w = .ok (.value v) w) (h : wpList P ops Q rest (a.put (some d) v) w) : wpList P ops Q (o :: rest) a w := plg d hw hd hrun h
/-- An operation whose guard shuts it out. -/
theorem plno (d : Nat) {o : Oper} {rest : List Oper} {a : Act} {w : World} (hw : Region.wanted o (yielded ops a.tmps) = false) (hd : o.dst = some d) (h : wpList P ops Q rest (a.put (some d) undef) w) : wpList P ops Q (o :: rest) a w :=
  wpList_step fun K hK => by rw [if_neg (by rw [hw]; exact Bool.false_ne_true), hd]; exact hK _ _ h
/-- A call, by its contract, at 'Oper.wp'. -/
theorem wp_call (d : Nat) {o : Oper} {a : Act} {w : World} {K : Act → World → Prop} {f : FuncId} {args : Array Value} {R : Value → World → Prop} (hd : o.dst = some d) (hrun : (execOp a.eval o).run P w = .ok (.enter f args) w)
    (hc : Calls P f args w fun e w' => ∃ v, e = .returned v ∧ R v w') (h : ∀ v w', R v w' → K (a.put (some d) v) w') : o.wp P a w K Q := by
  unfold Oper.wp
  rw [hrun]
  refine Calls.mono hc ?_
  rintro e w' ⟨v, rfl, hR⟩
  rw [hd]
  exact h v w' hR
theorem step_call (d : Nat) {o : Oper} {a : Act} {w : World} {K : Act → World → Prop} {E : Prop} {f : FuncId} {args : Array Value} {R : Value → World → Prop} (hw : Region.wanted o (yielded ops a.tmps) = true) (hd : o.dst = some d) (hrun : (execOp a.eval o).run P w = .ok (.enter f args) w)
    (hc : Calls P f args w fun e w' => ∃ v, e = .returned v ∧ R v w') (h : ∀ v w', R v w' → K (a.put (some d) v) w') :
    if Region.wanted o (yielded ops a.tmps) = true then Oper.wp P o a w K Q else E := by
  rw [if_pos hw]; exact wp_call d hd hrun hc h
/-- A plain region's call. -/
theorem plc (d : Nat) {o : Oper} {rest : List Oper} {a : Act} {w : World} {f : FuncId} {args : Array Value} {R : Value → World → Prop} (hg : o.guard = none) (hd : o.dst = some d) (hrun : (execOp a.eval o).run P w = .ok (.enter f args) w)
    (hc : Calls P f args w fun e w' => ∃ v, e = .returned v ∧ R v w') (h : ∀ v w', R v w' → wpList P ops Q rest (a.put (some d) v) w') : wpList P ops Q (o :: rest) a w :=
  wpList_plain hg fun K hK => wp_call d hd hrun hc (fun v w' hR => hK _ _ (h v w' hR))
/-- One call alone may come up. -/
theorem any1c (d : Nat) {i : Nat} {o : Oper} {fuel : Nat} {listed : Array Bool} {a : Act} {w : World} {f : FuncId} {args : Array Value} {R : Value → World → Prop} (hr : Region.ready md ops listed = [i]) (ho : ops[i]? = some o) (hw : Region.wanted o (yielded ops a.tmps) = true) (hd : o.dst = some d)
    (hrun : (execOp a.eval o).run P w = .ok (.enter f args) w) (hc : Calls P f args w fun e w' => ∃ v, e = .returned v ∧ R v w') (h : ∀ v w', R v w' → wpAny P md ops Q fuel (listed.setIfInBounds i true) (a.put (some d) v) w') : wpAny P md ops Q (fuel + 1) listed a w :=
  any1law hr ho (fun K hK => step_call d hw hd hrun hc (fun v w' hR => hK _ _ (h v w' hR)))
/-- A call and a value may come up. -/
theorem any2c (d e : Nat) {i j : Nat} {o p : Oper} {fuel : Nat} {listed : Array Bool} {a : Act} {w w2 : World} {f : FuncId} {args : Array Value} {R : Value → World → Prop} {u : Value} (hr : Region.ready md ops listed = [i, j]) (ho : ops[i]? = some o) (hp : ops[j]? = some p) (hw : Region.wanted o (yielded ops a.tmps) = true) (hw2 : Region.wanted p (yielded ops a.tmps) = true) (hd : o.dst = some d) (he : p.dst = some e)
    (hrun : (execOp a.eval o).run P w = .ok (.enter f args) w) (hc : Calls P f args w fun e w' => ∃ v, e = .returned v ∧ R v w') (hrun2 : (execOp a.eval p).run P w = .ok (.value u) w2)
    (h : ∀ v w', R v w' → wpAny P md ops Q fuel (listed.setIfInBounds i true) (a.put (some d) v) w') (h2 : wpAny P md ops Q fuel (listed.setIfInBounds j true) (a.put (some e) u) w2) : wpAny P md ops Q (fuel + 1) listed a w :=
  wpAny_ready hr (by simp) (AllReady.cons ho (fun K hK => step_call d hw hd hrun hc (fun v w' hR => hK _ _ (h v w' hR))) (AllReady.cons hp (fun K hK => step_v e hw2 he hrun2 (hK _ _ h2)) AllReady.nil))
theorem any2c' (d e : Nat) {i j : Nat} {o p : Oper} {fuel : Nat} {listed : Array Bool} {a : Act} {w w2 : World} {f : FuncId} {args : Array Value} {R : Value → World → Prop} {u : Value} (hr : Region.ready md ops listed = [i, j]) (ho : ops[i]? = some o) (hp : ops[j]? = some p) (hw : Region.wanted o (yielded ops a.tmps) = true) (hw2 : Region.wanted p (yielded ops a.tmps) = true) (hd : o.dst = some d) (he : p.dst = some e)
    (hrun : (execOp a.eval p).run P w = .ok (.enter f args) w) (hc : Calls P f args w fun e w' => ∃ v, e = .returned v ∧ R v w') (hrun2 : (execOp a.eval o).run P w = .ok (.value u) w2)
    (h2 : wpAny P md ops Q fuel (listed.setIfInBounds i true) (a.put (some d) u) w2) (h : ∀ v w', R v w' → wpAny P md ops Q fuel (listed.setIfInBounds j true) (a.put (some e) v) w') : wpAny P md ops Q (fuel + 1) listed a w :=
  wpAny_ready hr (by simp) (AllReady.cons ho (fun K hK => step_v d hw hd hrun2 (hK _ _ h2)) (AllReady.cons hp (fun K hK => step_call e hw2 he hrun hc (fun v w' hR => hK _ _ (h v w' hR))) AllReady.nil))
/-- A value and a store may come up. -/
theorem any2vs (d : Nat) {i j : Nat} {o q : Oper} {fuel : Nat} {listed : Array Bool} {a : Act} {w w2 : World} {v : Value} {x y : Operand} {t : TypeId} {p u : Value} (hr : Region.ready md ops listed = [i, j]) (ho : ops[i]? = some o) (hq : ops[j]? = some q) (hw : Region.wanted o (yielded ops a.tmps) = true) (hw2 : Region.wanted q (yielded ops a.tmps) = true) (hd : o.dst = some d) (hdn : q.dst = none)
    (hrun : (execOp a.eval o).run P w = .ok (.value v) w) (hop : q.op = .store t x y) (hx : a.eval x = p) (hy : a.eval y = u) (hst : (Instr.storeAt t p u).run P w = .ok () w2)
    (h : wpAny P md ops Q fuel (listed.setIfInBounds i true) (a.put (some d) v) w) (h2 : wpAny P md ops Q fuel (listed.setIfInBounds j true) a w2) : wpAny P md ops Q (fuel + 1) listed a w :=
  wpAny_ready hr (by simp) (AllReady.cons ho (fun K hK => step_v d hw hd hrun (hK _ _ h)) (AllReady.cons hq (fun K hK => by
    rw [if_pos hw2]
    have e : (execOp a.eval q).run P w = .ok .skip w2 := by simp [execOp, hop, hx, hy, hst]
    unfold Oper.wp; rw [e, Oper.upon_skip]
    have e2 : a.put q.dst undef = a := by rw [hdn]; rfl
    rw [e2]; exact hK _ _ h2) AllReady.nil))
end
end Go.Proofs.YbulkblsgFmt

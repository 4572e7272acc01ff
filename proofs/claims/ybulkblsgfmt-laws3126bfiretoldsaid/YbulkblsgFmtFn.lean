import Derived.Test.YbulkblsgFmtReg
import Derived.Deep.OwnRows
import Derived.Deep.AppendLies
namespace Go.Proofs.YbulkblsgFmt
open Go.RowKit Go.Extern.Stop Go.Stop Go.Extern
set_option linter.unusedVariables false
set_option linter.unusedSimpArgs false
theorem ex_bin {P : Program} {o : Oper} {a : Act} {x y : Operand} {op : BinOp} {t t2 : TypeId} {u1 u2 v : Value} {w : World} (ho : o.op = .binOp op t x y t2) (hx : a.eval x = u1) (hy : a.eval y = u2) (hrun : (do eqGuard op t x y u1 u2; binOp op t u1 u2 : Sem Value).run P w = .ok v w) : (execOp a.eval o).run P w = .ok (.value v) w := by
  simp only [execOp, ho, hx, hy]
  rw [Sem.run_bind, hrun]
  rfl
/-! A frame of many slots, told by a function of the slot's number. -/
def upd (f : Nat → Value) (d : Nat) (v : Value) : Nat → Value := fun k => cond (Nat.beq k d) v (f k)
def Fm (N : Nat) (f : Nat → Value) : Act := { tmps := Array.ofFn (n := N) (fun i => f i.val), defers := [] }
theorem beqF {i d : Nat} (e : ¬ i = d) : Nat.beq i d = false := by
  cases h : Nat.beq i d
  · rfl
  · exact absurd (Nat.eq_of_beq_eq_true h) e
theorem Fm_at {N k : Nat} {f : Nat → Value} (h : Nat.blt k N = true) : (Fm N f).tmps[k]? = some (f k) := by
  have hk : k < N := by simpa [Nat.blt_eq] using h
  simp [Fm, hk]
theorem Fm_put {N d : Nat} {f : Nat → Value} {v : Value} : (Fm N f).put (some d) v = Fm N (upd f d v) := by
  simp only [Act.put, Fm]
  congr 1
  apply Array.ext
  · simp
  · intro i h1 h2
    simp only [Array.size_setIfInBounds, Array.size_ofFn] at h1
    rw [Array.getElem_setIfInBounds (by simpa using h1)]
    simp only [Array.getElem_ofFn, upd]
    by_cases e : i = d
    · subst e; simp
    · have e2 : Nat.beq i d = false := beqF e
      rw [if_neg (fun h => e h.symm), e2]; rfl
theorem evN {N k : Nat} {f : Nat → Value} {v : Value} (h : Nat.blt k N = true) (hv : f k = v) : (Fm N f).eval (.tmp k) = v := by
  show (Fm N f).tmps.getD k undef = v
  rw [Array.getD_eq_getD_getElem?, Fm_at h]; exact hv
def opsC : Code → Array Oper
  | .region _ ops _ => ops
  | _ => #[]
def plainC : Code → Bool
  | .region _ _ false => true
  | _ => false
def drawnC : Code → Bool
  | .region _ _ true => true
  | _ => false
def opAt (c : Code) (i : Nat) : Oper := (opsC c).toList.getD i { dst := none, op := .move (.const undef), type := 0, pos := "", after := #[], guard := some (0, true) }
def key (o : Oper) : Option (Nat × Bool) × Option Tmp × Op := (o.guard, o.dst, o.op)
theorem at_of_key {c : Code} {i : Nat} {g : Option (Nat × Bool)} {d : Option Tmp} {op : Op} (h : key (opAt c i) = (g, d, op)) (hh : g = none ∨ d ≠ none) : (opsC c)[i]? = some (opAt c i) := by
  by_cases hi : i < (opsC c).size
  · simp [opAt, hi]
  · exfalso
    have e : opAt c i = { dst := none, op := .move (.const undef), type := 0, pos := "", after := #[], guard := some (0, true) } := by
      unfold opAt; rw [List.getD_eq_getElem?_getD, List.getElem?_eq_none (by simpa using hi)]; rfl
    rw [e] at h
    simp only [key, Prod.mk.injEq] at h
    rcases hh with hh | hh
    · rw [← h.1] at hh; cases hh
    · exact hh h.2.1.symm
theorem drop_of_at {c : Code} {i : Nat} (h : (opsC c)[i]? = some (opAt c i)) : (opsC c).toList.drop i = opAt c i :: (opsC c).toList.drop (i + 1) := by
  obtain ⟨hi, e⟩ := Array.getElem?_eq_some_iff.1 h
  rw [List.drop_eq_getElem_cons (by simpa using hi)]
  simp [e]
def WN (N : Nat) (c : Code) (Q : Exit → Act → World → Prop) (i : Nat) (f : Nat → Value) (w : World) : Prop := wpList Ybaf.prog (opsC c) Q ((opsC c).toList.drop i) (Fm N f) w
theorem regN {N : Nat} {c : Code} {Q : Exit → Act → World → Prop} {f : Nat → Value} {w : World} (hc : plainC c = true) (h : WN N c Q 0 f w) : c.wp Ybaf.prog Q (Fm N f) w := by
  cases c with
  | region id ops b =>
    cases b with
    | false => exact wp_region_list (by simpa [WN, opsC] using h)
    | true => simp [plainC] at hc
  | _ => simp [plainC] at hc
theorem regNany {N : Nat} {c : Code} {Q : Exit → Act → World → Prop} {f : Nat → Value} {w : World} (hc : drawnC c = true) (h : wpAny Ybaf.prog .any (opsC c) Q (opsC c).size (Array.replicate (opsC c).size false) (Fm N f) w.drew) : c.wp Ybaf.prog Q (Fm N f) w := by
  cases c with
  | region id ops b =>
    cases b with
    | true => exact wp_region_any (by kernel_rfl) h
    | false => simp [drawnC] at hc
  | _ => simp [drawnC] at hc
section
variable {N : Nat} {c : Code} {Q : Exit → Act → World → Prop} {f : Nat → Value} {w w' : World}
theorem s_end {n : Nat} (h : Nat.ble (opsC c).size n = true) (hQ : Q .normal (Fm N f) w) : WN N c Q n f w := by
  have e : (opsC c).toList.drop n = [] := List.drop_eq_nil_iff.2 (by have := Nat.le_of_ble_eq_true h; simpa using this)
  unfold WN
  rw [e]; exact wpList_nil hQ
theorem s_ex (i d : Nat) (op : Op) {v : Value} (hk : key (opAt c i) = (none, some d, op)) (hrun : ∀ o : Oper, o.op = op → (execOp (Fm N f).eval o).run Ybaf.prog w = .ok (.value v) w') (h : WN N c Q (i + 1) (upd f d v) w') : WN N c Q i f w := by
  have hg : (opAt c i).guard = none := congrArg (·.1) hk
  have hd : (opAt c i).dst = some d := congrArg (·.2.1) hk
  have ho : (opAt c i).op = op := congrArg (·.2.2) hk
  unfold WN
  rw [drop_of_at (at_of_key hk (Or.inl rfl))]
  refine pl d hg hd (hrun _ ho) ?_
  rw [Fm_put]; exact h
theorem s_st (i : Nat) (t : TypeId) (x y : Operand) {p q : Value} (hk : key (opAt c i) = (none, none, .store t x y)) (hx : (Fm N f).eval x = p) (hy : (Fm N f).eval y = q) (hrun : (Instr.storeAt t p q).run Ybaf.prog w = .ok () w') (h : WN N c Q (i + 1) f w') : WN N c Q i f w := by
  have hg : (opAt c i).guard = none := congrArg (·.1) hk
  have hd : (opAt c i).dst = none := congrArg (·.2.1) hk
  have ho : (opAt c i).op = .store t x y := congrArg (·.2.2) hk
  unfold WN
  rw [drop_of_at (at_of_key hk (Or.inl rfl))]
  exact pls hg hd ho hx hy hrun h
theorem s_call (i d : Nat) (op : Op) {fn : FuncId} {args : Array Value} {R : Value → World → Prop} (hk : key (opAt c i) = (none, some d, op)) (hrun : ∀ o : Oper, o.op = op → (execOp (Fm N f).eval o).run Ybaf.prog w = .ok (.enter fn args) w)
    (hc : Calls Ybaf.prog fn args w fun e w' => ∃ v, e = .returned v ∧ R v w') (h : ∀ v w', R v w' → WN N c Q (i + 1) (upd f d v) w') : WN N c Q i f w := by
  have hg : (opAt c i).guard = none := congrArg (·.1) hk
  have hd : (opAt c i).dst = some d := congrArg (·.2.1) hk
  have ho : (opAt c i).op = op := congrArg (·.2.2) hk
  unfold WN
  rw [drop_of_at (at_of_key hk (Or.inl rfl))]
  refine plc d hg hd (hrun _ ho) hc (fun v w' hR => ?_)
  rw [Fm_put]; exact h v w' hR
theorem wantN {i j d e : Nat} {op : Op} {b b' : Bool} (hk : key (opAt c i) = (some (j, b), some d, op)) (hj : (opAt c j).dst = some e) (he : Nat.blt e N = true) (hb : f e = .bool b') : Region.wanted (opAt c i) (yielded (opsC c) (Fm N f).tmps) = (b' == b) := by
  have hg : (opAt c i).guard = some (j, b) := congrArg (·.1) hk
  have h2 : (opsC c)[j]? = some (opAt c j) := at_of_key (g := (opAt c j).guard) (d := some e) (op := (opAt c j).op) (by rw [← hj]; rfl) (Or.inr (by simp))
  simp only [Region.wanted, hg, yielded, h2, Option.bind_some, hj, Fm_at he, hb]
  cases b <;> cases b' <;> rfl
/-- A guarded operation that runs. -/
theorem s_g (i d j e : Nat) (b : Bool) (op : Op) {v : Value} (hk : key (opAt c i) = (some (j, b), some d, op)) (hj : (opAt c j).dst = some e) (he : Nat.blt e N = true) (hb : f e = .bool b) (hrun : ∀ o : Oper, o.op = op → (execOp (Fm N f).eval o).run Ybaf.prog w = .ok (.value v) w') (h : WN N c Q (i + 1) (upd f d v) w') : WN N c Q i f w := by
  have hd : (opAt c i).dst = some d := congrArg (·.2.1) hk
  have ho : (opAt c i).op = op := congrArg (·.2.2) hk
  unfold WN
  rw [drop_of_at (at_of_key hk (Or.inr (by simp)))]
  refine plg d ((wantN hk hj he hb).trans (by simp)) hd (hrun _ ho) ?_
  rw [Fm_put]; exact h
/-- A guarded operation that is shut out. -/
theorem s_no (i d j e : Nat) (b : Bool) (op : Op) (hk : key (opAt c i) = (some (j, b), some d, op)) (hj : (opAt c j).dst = some e) (he : Nat.blt e N = true) (hb : f e = .bool (!b)) (h : WN N c Q (i + 1) (upd f d undef) w) : WN N c Q i f w := by
  have hd : (opAt c i).dst = some d := congrArg (·.2.1) hk
  unfold WN
  rw [drop_of_at (at_of_key hk (Or.inr (by simp)))]
  refine plno d ((wantN hk hj he hb).trans (by cases b <;> rfl)) hd ?_
  rw [Fm_put]; exact h
/-- A guarded call. -/
theorem s_gc (i d j e : Nat) (b : Bool) (op : Op) {fn : FuncId} {args : Array Value} {R : Value → World → Prop} (hk : key (opAt c i) = (some (j, b), some d, op)) (hj : (opAt c j).dst = some e) (he : Nat.blt e N = true) (hb : f e = .bool b) (hrun : ∀ o : Oper, o.op = op → (execOp (Fm N f).eval o).run Ybaf.prog w = .ok (.enter fn args) w)
    (hc : Calls Ybaf.prog fn args w fun e w' => ∃ v, e = .returned v ∧ R v w') (h : ∀ v w', R v w' → WN N c Q (i + 1) (upd f d v) w') : WN N c Q i f w := by
  have hd : (opAt c i).dst = some d := congrArg (·.2.1) hk
  have ho : (opAt c i).op = op := congrArg (·.2.2) hk
  unfold WN
  rw [drop_of_at (at_of_key hk (Or.inr (by simp)))]
  refine wpList_step fun K hK => step_call d ((wantN hk hj he hb).trans (by simp)) hd (hrun _ ho) hc (fun v w' hR => hK _ _ ?_)
  rw [Fm_put]; exact h v w' hR
end
attribute [irreducible] WN
/-- Slots that stay as they were. -/
def Same (f f' : Nat → Value) (L : List Nat) : Prop := ∀ k, L.contains k = false → f' k = f k
theorem Same.refl {f : Nat → Value} : Same f f [] := fun _ _ => rfl
theorem Same.put {f f' : Nat → Value} {L : List Nat} (h : Same f f' L) (d : Nat) (v : Value) : Same f (upd f' d v) (d :: L) := fun k hk => by
  simp only [List.contains_cons, Bool.or_eq_false_iff] at hk
  rw [← h k hk.2]
  have : Nat.beq k d = false := beqF (by simpa using hk.1)
  simp only [upd, this, cond_false]
theorem Same.wide {f f' : Nat → Value} {L L' : List Nat} (h : Same f f' L) (e : L.all (fun k => L'.contains k) = true) : Same f f' L' := fun k hk => h k (by
  cases hc : L.contains k with
  | false => rfl
  | true =>
    have := List.all_eq_true.1 e k (by simpa using hc)
    rw [hk] at this; cases this)
def Has (f : Nat → Value) : List (Nat × Value) → Prop
  | [] => True
  | p :: l => f p.1 = p.2 ∧ Has f l
theorem Has.keep {f f' : Nat → Value} {L : List Nat} : ∀ {l : List (Nat × Value)}, Has f l → Same f f' L → Has f' (l.filter (fun p => !L.contains p.1))
  | [], _, _ => trivial
  | p :: l, h, hS => by
    rw [List.filter_cons]
    split
    · rename_i e
      exact ⟨(hS p.1 (by simpa using e)).trans h.1, Has.keep h.2 hS⟩
    · exact Has.keep h.2 hS
section
variable {P : Program} {o : Oper} {a : Act} {w w' : World}
theorem ex_mv {x : Operand} {v : Value} (hx : a.eval x = v) : ∀ o : Oper, o.op = .move x → (execOp a.eval o).run P w = .ok (.value v) w := fun o ho => by simp [execOp, ho, hx]
theorem ex_as {x : Operand} {v : Value} (hx : a.eval x = v) : ∀ o : Oper, o.op = .assign x → (execOp a.eval o).run P w = .ok (.value v) w := fun o ho => by simp [execOp, ho, hx]
theorem ex_pickt {x y z : Operand} {v : Value} (hx : a.eval x = .bool true) (hy : a.eval y = v) : ∀ o : Oper, o.op = .pick x y z → (execOp a.eval o).run P w = .ok (.value v) w := fun o ho => by simp [execOp, ho, hx, hy, asBool, Sem.run]
theorem ex_pickf {x y z : Operand} {v : Value} (hx : a.eval x = .bool false) (hz : a.eval z = v) : ∀ o : Oper, o.op = .pick x y z → (execOp a.eval o).run P w = .ok (.value v) w := fun o ho => by simp [execOp, ho, hx, hz, asBool, Sem.run]
theorem ex_ld {x : Operand} {t : TypeId} {u v : Value} (hx : a.eval x = u) (hr : (Instr.loadAt t u).run P w = .ok v w) : ∀ o : Oper, o.op = .load t x → (execOp a.eval o).run P w = .ok (.value v) w := fun o ho => ex_load ho hx hr
theorem ex_fa {x : Operand} {t : TypeId} {i : Nat} {u v : Value} (hx : a.eval x = u) (hr : (Instr.fieldAt t u i).run P w = .ok v w) : ∀ o : Oper, o.op = .fieldAddr t x i → (execOp a.eval o).run P w = .ok (.value v) w := fun o ho => ex_field ho hx hr
theorem ex_ix {x y : Operand} {t : TypeId} {u i v : Value} (hx : a.eval x = u) (hy : a.eval y = i) (hr : (Instr.indexAt t u i).run P w = .ok v w) : ∀ o : Oper, o.op = .indexAddr t x y → (execOp a.eval o).run P w = .ok (.value v) w := fun o ho => ex_index ho hx hy hr
theorem ex_cv {x : Operand} {s t : TypeId} {u v : Value} (hx : a.eval x = u) (hr : (convert s t u).run P w = .ok v w) : ∀ o : Oper, o.op = .convert s t x → (execOp a.eval o).run P w = .ok (.value v) w := fun o ho => ex_conv ho hx hr
theorem ex_mk {x y : Operand} {t : TypeId} {u u' v : Value} (hx : a.eval x = u) (hy : a.eval y = u') (hr : (Instr.makeSlice t u u').run P w = .ok v w') : ∀ o : Oper, o.op = .makeSlice t x y → (execOp a.eval o).run P w = .ok (.value v) w' := fun o ho => by simp [execOp, ho, hx, hy, hr]
theorem ex_bn {x y : Operand} {op : BinOp} {t t2 : TypeId} {u u' v : Value} (hx : a.eval x = u) (hy : a.eval y = u') (hr : (do eqGuard op t x y u u'; binOp op t u u' : Sem Value).run P w = .ok v w) : ∀ o : Oper, o.op = .binOp op t x y t2 → (execOp a.eval o).run P w = .ok (.value v) w := fun o ho => ex_bin ho hx hy hr
theorem ex_not {x : Operand} {t : TypeId} {b : Bool} (hx : a.eval x = .bool b) : ∀ o : Oper, o.op = .unOp .not t x → (execOp a.eval o).run P w = .ok (.value (.bool (!b))) w := fun o ho => by
  unfold execOp
  simp only [ho, hx]
  rfl
theorem ex_len {x : Operand} {t e : TypeId} {ad : Option Addr} {n c : Nat} (ht : P.underlying t = some (.slice e)) (hx : a.eval x = .slice ad n c) : ∀ o : Oper, o.op = .call { callee := .builtin .len, args := #[x], argTypes := #[t] } → (execOp a.eval o).run P w = .ok (.value (.int .i64 (n : Nat))) w := fun o ho => by
  unfold execOp
  simp only [ho]
  simp [resolve, invoke, builtin, hx, Builtin.len_, run_underlying ht, goInt]
theorem ex_fn1 {x : Operand} {t : TypeId} {fn : FuncId} {u : Value} (hcf : ∀ args, (callFunc fn args).run P w = .ok (.enter fn args) w) (hx : a.eval x = u) : ∀ o : Oper, o.op = .call { callee := .value (.func fn), args := #[x], argTypes := #[t] } → (execOp a.eval o).run P w = .ok (.enter fn #[u]) w := fun o ho => by
  have ef : a.eval (.func fn) = .func (.func fn) #[] #[] := rfl
  unfold execOp
  simp only [ho]
  simp [resolve, invoke, ef, Deferred.ofValue, hcf, hx]
theorem ex_fn2 {x y : Operand} {t t2 : TypeId} {fn : FuncId} {u u2 : Value} (hcf : ∀ args, (callFunc fn args).run P w = .ok (.enter fn args) w) (hx : a.eval x = u) (hy : a.eval y = u2) : ∀ o : Oper, o.op = .call { callee := .value (.func fn), args := #[x, y], argTypes := #[t, t2] } → (execOp a.eval o).run P w = .ok (.enter fn #[u, u2]) w := fun o ho => by
  have ef : a.eval (.func fn) = .func (.func fn) #[] #[] := rfl
  unfold execOp
  simp only [ho]
  simp [resolve, invoke, ef, Deferred.ofValue, hcf, hx, hy]
theorem ex_fn3 {x y z : Operand} {t t2 t3 : TypeId} {fn : FuncId} {u u2 u3 : Value} (hcf : ∀ args, (callFunc fn args).run P w = .ok (.enter fn args) w) (hx : a.eval x = u) (hy : a.eval y = u2) (hz : a.eval z = u3) : ∀ o : Oper, o.op = .call { callee := .value (.func fn), args := #[x, y, z], argTypes := #[t, t2, t3] } → (execOp a.eval o).run P w = .ok (.enter fn #[u, u2, u3]) w := fun o ho => by
  have ef : a.eval (.func fn) = .func (.func fn) #[] #[] := rfl
  unfold execOp
  simp only [ho]
  simp [resolve, invoke, ef, Deferred.ofValue, hcf, hx, hy, hz]
theorem ex_xt {x : Operand} {i : Nat} {u v : Value} (hx : a.eval x = u) (hr : (Instr.extract u i).run P w = .ok v w) : ∀ o : Oper, o.op = .extract x i → (execOp a.eval o).run P w = .ok (.value v) w := fun o ho => by simp [execOp, ho, hx, hr]
theorem ex_al {t : TypeId} {v : Value} (hr : (Instr.alloc t true (.tuple #[])).run P w = .ok v w') : ∀ o : Oper, o.op = .alloc t → (execOp a.eval o).run P w = .ok (.value v) w' := fun o ho => ex_alloc ho hr
theorem ex_slh {x h : Operand} {t : TypeId} {u hi v : Value} (hx : a.eval x = u) (hh : a.eval h = hi) (hr : (Instr.sliceAt t u none (some hi) none).run P w = .ok v w) : ∀ o : Oper, o.op = .slice t x none (some h) none → (execOp a.eval o).run P w = .ok (.value v) w := fun o ho => by simp [execOp, ho, hx, hh, hr]
theorem ex_sllh {x l h : Operand} {t : TypeId} {u lo hi v : Value} (hx : a.eval x = u) (hl : a.eval l = lo) (hh : a.eval h = hi) (hr : (Instr.sliceAt t u (some lo) (some hi) none).run P w = .ok v w) : ∀ o : Oper, o.op = .slice t x (some l) (some h) none → (execOp a.eval o).run P w = .ok (.value v) w := fun o ho => by simp [execOp, ho, hx, hl, hh, hr]
theorem ex_nc {x : Operand} {ad : Addr} (hx : a.eval x = .pointer (some ad)) : ∀ o : Oper, o.op = .nilCheck x → (execOp a.eval o).run P w = .ok (.value (.pointer (some ad))) w := fun o ho => ex_nil ho hx w
theorem ex_fn4 {x y z u : Operand} {t t2 t3 t4 : TypeId} {fn : FuncId} {v1 v2 v3 v4 : Value} (hcf : ∀ args, (callFunc fn args).run P w = .ok (.enter fn args) w) (hx : a.eval x = v1) (hy : a.eval y = v2) (hz : a.eval z = v3) (hu : a.eval u = v4) : ∀ o : Oper, o.op = .call { callee := .value (.func fn), args := #[x, y, z, u], argTypes := #[t, t2, t3, t4] } → (execOp a.eval o).run P w = .ok (.enter fn #[v1, v2, v3, v4]) w := fun o ho => by
  have ef : a.eval (.func fn) = .func (.func fn) #[] #[] := rfl
  unfold execOp
  simp only [ho]
  simp [resolve, invoke, ef, Deferred.ofValue, hcf, hx, hy, hz, hu]
theorem ex_iv2 {x y z : Operand} {t t2 : TypeId} {fn : FuncId} {rv v1 v2 : Value} {nm : String} (hm : ∀ w, Sem.run P (method (P.types.size + 100) 83 rv nm) w = .ok (fn, rv) w) (hcf : ∀ w args, (callFunc fn args).run P w = .ok (.enter fn args) w) (hx : a.eval x = .iface 83 rv) (hy : a.eval y = v1) (hz : a.eval z = v2) : ∀ o : Oper, o.op = .call { callee := .invoke x nm, args := #[y, z], argTypes := #[t, t2] } → (execOp a.eval o).run P w = .ok (.enter fn #[rv, v1, v2]) w := fun o ho => by
  unfold execOp
  simp only [ho]
  simp [resolve, invoke, callMethod, hx, hm, hcf, hy, hz, Made.depth]
end
end Go.Proofs.YbulkblsgFmt

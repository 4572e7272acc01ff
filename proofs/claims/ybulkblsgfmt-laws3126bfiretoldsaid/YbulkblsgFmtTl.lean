import Derived.Test.YbulkblsgFmtTk
import Derived.Test.YbulkblsgFmtTj
import Derived.Laws.CopyRow
import Derived.Laws.IdiomCopy
import Derived.Deep.Quiet
namespace Go.Proofs.YbulkblsgFmt
open Go.RowKit
set_option linter.unusedVariables false
set_option linter.unusedSimpArgs false
/-! Regions that only read, in the text's order. -/
def QN (N : Nat) (c : Code) (w : World) (Q : Exit → Act → World → Prop) (i : Nat) (f : Nat → Value) : Prop := wpQuiet Ybaf.prog (opsC c) (fun w' => ∃ n, w' = w.drewN n) (fun a' => ∀ w', (∃ n, w' = w.drewN n) → Q .normal a' w') ((opsC c).toList.drop i) (Fm N f)
theorem regQ {N : Nat} {c : Code} {Q : Exit → Act → World → Prop} {f : Nat → Value} {w : World} (hc : drawnC c = true) (hB : Region.lexB .any (opsC c) = true) (h : QN N c w Q 0 f) : c.wp Ybaf.prog Q (Fm N f) w := by
  cases c with
  | region id ops b =>
    cases b with
    | true => exact wp_region_quiet (C := fun w' => ∃ n, w' = w.drewN n) (by kernel_rfl) hB ⟨1, rfl⟩ (by simpa [QN, opsC] using h)
    | false => simp [drawnC] at hc
  | _ => simp [drawnC] at hc
section
variable {N : Nat} {c : Code} {Q : Exit → Act → World → Prop} {f : Nat → Value} {w : World}
theorem q_end {n : Nat} (h : Nat.ble (opsC c).size n = true) (hQ : ∀ k, Q .normal (Fm N f) (w.drewN k)) : QN N c w Q n f := by
  have e : (opsC c).toList.drop n = [] := List.drop_eq_nil_iff.2 (by have := Nat.le_of_ble_eq_true h; simpa using this)
  unfold QN
  rw [e]
  rintro w' ⟨k, rfl⟩
  exact hQ k
theorem q_ex (i d : Nat) (op : Op) {v : Value} (hk : key (opAt c i) = (none, some d, op)) (hrun : ∀ (k : Nat) (o : Oper), o.op = op → (execOp (Fm N f).eval o).run Ybaf.prog (w.drewN k) = .ok (.value v) (w.drewN k)) (h : QN N c w Q (i + 1) (upd f d v)) : QN N c w Q i f := by
  have hg : (opAt c i).guard = none := congrArg (·.1) hk
  have hd : (opAt c i).dst = some d := congrArg (·.2.1) hk
  have ho : (opAt c i).op = op := congrArg (·.2.2) hk
  unfold QN at h ⊢
  rw [drop_of_at (at_of_key hk (Or.inl rfl))]
  unfold wpQuiet
  rw [if_pos (by simp [Region.wanted, hg])]
  refine ⟨v, ?_, ?_⟩
  · rintro w' ⟨k, rfl⟩
    unfold Oper.quietAt
    rw [hrun k _ ho]
    exact ⟨rfl, rfl⟩
  · rw [hd, Fm_put]; exact h
theorem q_g (i d j e : Nat) (b : Bool) (op : Op) {v : Value} (hk : key (opAt c i) = (some (j, b), some d, op)) (hj : (opAt c j).dst = some e) (he : Nat.blt e N = true) (hb : f e = .bool b) (hrun : ∀ (k : Nat) (o : Oper), o.op = op → (execOp (Fm N f).eval o).run Ybaf.prog (w.drewN k) = .ok (.value v) (w.drewN k)) (h : QN N c w Q (i + 1) (upd f d v)) : QN N c w Q i f := by
  have hd : (opAt c i).dst = some d := congrArg (·.2.1) hk
  have ho : (opAt c i).op = op := congrArg (·.2.2) hk
  unfold QN at h ⊢
  rw [drop_of_at (at_of_key hk (Or.inr (by simp)))]
  unfold wpQuiet
  rw [if_pos ((wantN hk hj he hb).trans (by simp))]
  refine ⟨v, ?_, ?_⟩
  · rintro w' ⟨k, rfl⟩
    unfold Oper.quietAt
    rw [hrun k _ ho]
    exact ⟨rfl, rfl⟩
  · rw [hd, Fm_put]; exact h
theorem q_no (i d j e : Nat) (b : Bool) (op : Op) (hk : key (opAt c i) = (some (j, b), some d, op)) (hj : (opAt c j).dst = some e) (he : Nat.blt e N = true) (hb : f e = .bool (!b)) (h : QN N c w Q (i + 1) (upd f d undef)) : QN N c w Q i f := by
  have hd : (opAt c i).dst = some d := congrArg (·.2.1) hk
  unfold QN at h ⊢
  rw [drop_of_at (at_of_key hk (Or.inr (by simp)))]
  unfold wpQuiet
  have hw := wantN (N := N) hk hj he hb
  rw [if_neg (by rw [hw]; cases b <;> simp)]
  rw [hd, Fm_put]; exact h
/-- .. the same for an operation whose guard was itself shut out. -/
theorem wantU {i j d e : Nat} {op : Op} {b : Bool} (hk : key (opAt c i) = (some (j, b), some d, op)) (hj : (opAt c j).dst = some e) (he : Nat.blt e N = true) (hb : f e = undef) : Region.wanted (opAt c i) (yielded (opsC c) (Fm N f).tmps) = false := by
  have hg : (opAt c i).guard = some (j, b) := congrArg (·.1) hk
  have h2 : (opsC c)[j]? = some (opAt c j) := at_of_key (g := (opAt c j).guard) (d := some e) (op := (opAt c j).op) (by rw [← hj]; rfl) (Or.inr (by simp))
  simp only [Region.wanted, hg, yielded, h2, Option.bind_some, hj, Fm_at he, hb]
  cases b <;> rfl
theorem q_nu (i d j e : Nat) (b : Bool) (op : Op) (hk : key (opAt c i) = (some (j, b), some d, op)) (hj : (opAt c j).dst = some e) (he : Nat.blt e N = true) (hb : f e = undef) (h : QN N c w Q (i + 1) (upd f d undef)) : QN N c w Q i f := by
  have hd : (opAt c i).dst = some d := congrArg (·.2.1) hk
  unfold QN at h ⊢
  rw [drop_of_at (at_of_key hk (Or.inr (by simp)))]
  unfold wpQuiet
  have hw := wantU (N := N) hk hj he hb
  rw [if_neg (by rw [hw]; simp)]
  rw [hd, Fm_put]; exact h
end
attribute [irreducible] QN
end Go.Proofs.YbulkblsgFmt

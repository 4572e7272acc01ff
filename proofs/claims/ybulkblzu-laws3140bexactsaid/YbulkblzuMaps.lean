import Derived.Maps.OwnSet
import Derived.Maps.OwnOps
import Derived.WalkKit
import Derived.Below
namespace Go.Proofs.Ybulkblzu
open Go.RowKit Go.Maps
set_option linter.unusedVariables false

/-- A map's element, read as the value that it is. -/
def vE (v : Value) : Option (DataW Value × List MemPlace) := some (.held v, [])

/-- BLOCK b IS A MAP: AT KEY kl IT HOLDS f kl; sz ENTRIES, AT MOST n. -/
def MapFn (P : Program) (k : TypeId) (w : World) (b n : Nat) (f : Lit → Option Value) (sz : Nat) : Prop :=
  ∃ D : DataW Value, w.ownsMap P k vE b n D ∧ Maps.size D = sz ∧ ∀ kl, WideAt.IsKeyLit kl → Maps.has D kl = (f kl).isSome ∧ ∀ z, D.atKey kl z = (match f kl with | some v => .held v | none => z)

/-- The map with v at kl ('none': nothing there). -/
def putF (f : Lit → Option Value) (kl : Lit) (v : Option Value) : Lit → Option Value := fun x => if x.sameKey kl = true then v else f x
theorem putF_same {f : Lit → Option Value} {kl : Lit} {v : Option Value} (h : WideAt.IsKeyLit kl) : putF f kl v kl = v := by simp [putF, WideAt.sameKey_self h]
theorem putF_other {f : Lit → Option Value} {kl x : Lit} {v : Option Value} (h : x ≠ kl) : putF f kl v x = f x := by simp [putF, sameKey_ne h]

section
variable {P : Program} {k : TypeId} {w w' : World} {b n sz : Nat} {f : Lit → Option Value}

theorem MapFn.made (w : World) (P : Program) (k : TypeId) : MapFn P k (w.alloc (.map #[] 0)) w.heap.size 0 (fun _ => none) 0 :=
  ⟨.map [], World.ownsMap_made w P k _, rfl, fun kl _ => ⟨rfl, fun z => rfl⟩⟩

theorem MapFn.lt (h : MapFn P k w b n f sz) : b < w.heap.size := by obtain ⟨D, h1, _⟩ := h; exact h1.lt

theorem MapFn.of_block (h : MapFn P k w b n f sz) (e : w'.heap[b]? = w.heap[b]?) : MapFn P k w' b n f sz := by
  obtain ⟨D, ⟨es, clock, hb, r⟩, h2⟩ := h
  exact ⟨D, ⟨es, clock, e.trans hb, r⟩, h2⟩

theorem MapFn.below (h : MapFn P k w b n f sz) (hb : Below w.heap.size w w') : MapFn P k w' b n f sz := h.of_block (hb.block b h.lt)

theorem MapFn.le (h : MapFn P k w b n f sz) : sz ≤ n := by obtain ⟨D, h1, rfl, _⟩ := h; exact h1.size_le

theorem MapFn.look_ok {t e : TypeId} (h : MapFn P k w b n f sz) (K : Keyed P k) (ht : P.underlying t = some (.map k e)) {z : Value} (hz : (zeroValue e).run P w = .ok z w) {key : Value} {kl : Lit} (hkey : keyOf P k key = some kl) (hkl : WideAt.IsKeyLit kl) :
    (Instr.lookup t (.map (some b)) key true).run P w = .ok (.tuple #[(f kl).getD z, .bool (f kl).isSome]) w := by
  obtain ⟨D, h1, _, h3⟩ := h
  obtain ⟨hh, ha⟩ := h3 kl hkl
  obtain ⟨v, ps, hrun, hv⟩ := h1.look_ok K ht hz (zd := .held z) (zp := []) rfl hkey
  rw [hrun, hh]
  rw [ha] at hv
  cases hf : f kl with
  | none => rw [hf] at hv; simp [vE] at hv; rw [hv.1]; rfl
  | some u => rw [hf] at hv; simp [vE] at hv; rw [hv.1]; rfl

theorem MapFn.look {t e : TypeId} (h : MapFn P k w b n f sz) (K : Keyed P k) (ht : P.underlying t = some (.map k e)) {z : Value} (hz : (zeroValue e).run P w = .ok z w) {key : Value} {kl : Lit} (hkey : keyOf P k key = some kl) (hkl : WideAt.IsKeyLit kl) :
    (Instr.lookup t (.map (some b)) key false).run P w = .ok ((f kl).getD z) w := by
  obtain ⟨D, h1, _, h3⟩ := h
  obtain ⟨hh, ha⟩ := h3 kl hkl
  obtain ⟨v, ps, hrun, hv⟩ := h1.lookup K ht hz (zd := .held z) (zp := []) rfl hkey
  rw [hrun]
  rw [ha] at hv
  cases hf : f kl with
  | none => rw [hf] at hv; simp [vE] at hv; rw [hv.1]; rfl
  | some u => rw [hf] at hv; simp [vE] at hv; rw [hv.1]; rfl

theorem MapFn.len {t e : TypeId} (h : MapFn P k w b n f sz) (ht : P.underlying t = some (.map k e)) (ty : TypeId) : (Builtin.len_ #[t] ty #[.map (some b)]).run P w = .ok (.int .i64 sz) w := by
  obtain ⟨D, h1, h2, _⟩ := h
  rw [h1.len ht ty, h2]

theorem MapFn.store {t e : TypeId} (h : MapFn P k w b n f sz) (K : Keyed P k) (ht : P.underlying t = some (.map k e)) (hn : n < maxLen) {key val : Value} {kl : Lit} (hkey : keyOf P k key = some kl) (hkl : WideAt.IsKeyLit kl) :
    ∃ w', (Instr.mapUpdate t (.map (some b)) key val).run P w = .ok () w' ∧ MapFn P k w' b (n + 1) (putF f kl (some val)) (if (f kl).isSome then sz else sz + 1) ∧ w.mapTurned w' b := by
  obtain ⟨D, h1, rfl, h3⟩ := h
  obtain ⟨w', hrun, r1, r2⟩ := h1.store K ht hn (val := val) hkey (d := .held val) (ps := []) rfl
  refine ⟨w', hrun, ⟨_, r1, ?_, fun x hx => ?_⟩, r2⟩
  · rw [size_put (h1.tidy K), (h3 kl hkl).1]
  · by_cases e : x = kl
    · subst e
      refine ⟨?_, fun z => ?_⟩
      · rw [has_put_same h1.isMap hx, putF_same hx]; rfl
      · rw [atKey_put_same h1.isMap hx, putF_same hx]
    · refine ⟨?_, fun z => ?_⟩
      · rw [has_put_other e, (h3 x hx).1, putF_other e]
      · rw [atKey_put_other e, (h3 x hx).2, putF_other e]

theorem MapFn.drop {t e : TypeId} (h : MapFn P k w b n f sz) (K : Keyed P k) (ht : P.underlying t = some (.map k e)) {key : Value} {kl : Lit} (hkey : keyOf P k key = some kl) (hkl : WideAt.IsKeyLit kl) (ty : TypeId) :
    ∃ w', (Builtin.delete_ #[t, k] ty #[.map (some b), key]).run P w = .ok (.tuple #[]) w' ∧ MapFn P k w' b n (putF f kl none) (if (f kl).isSome then sz - 1 else sz) ∧ w.mapTurned w' b := by
  obtain ⟨D, h1, rfl, h3⟩ := h
  obtain ⟨w', hrun, r1, r2⟩ := h1.drop K ht hkey ty
  refine ⟨w', hrun, ⟨_, r1, ?_, fun x hx => ?_⟩, r2⟩
  · have := size_del (k := kl) (h1.tidy K)
    rw [(h3 kl hkl).1] at this
    split <;> simp_all <;> omega
  · by_cases e : x = kl
    · subst e
      refine ⟨?_, fun z => ?_⟩
      · rw [has_del_same, putF_same hx]; rfl
      · rw [atKey_del_same, putF_same hx]
    · refine ⟨?_, fun z => ?_⟩
      · rw [has_del_other e, (h3 x hx).1, putF_other e]
      · rw [atKey_del_other e, (h3 x hx).2, putF_other e]

end

/-! ### at the operation -/
section
variable {P : Program} (w : World) {ops : Array Oper} {rest : List Oper} {o : Oper} {a : Act} {Q : Exit → Act → World → Prop}

theorem wpList_look_ok (hg : o.guard = none) (m x : Operand) (t : TypeId) (hop : o.op = Op.lookup t m x true) (k e : TypeId) (K : Keyed P k) (ht : P.underlying t = some (.map k e)) (z : Value) (hz : (zeroValue e).run P w = .ok z w)
    (b n : Nat) (f : Lit → Option Value) (sz : Nat) (hm : a.eval m = .map (some b)) (hown : MapFn P k w b n f sz) (key : Value) (kl : Lit) (hx : a.eval x = key) (hkey : keyOf P k key = some kl) (hkl : WideAt.IsKeyLit kl) (v : Value) (ok : Bool)
    (hv : (f kl).getD z = v) (hok : (f kl).isSome = ok) (hK : wpList P ops Q rest (a.put o.dst (.tuple #[v, .bool ok])) w) : wpList P ops Q (o :: rest) a w := by
  refine wpList_plain hg fun K' hK' => ?_
  have hrun := hown.look_ok K ht hz hkey hkl
  rw [hv, hok] at hrun
  unfold Oper.wp
  simp [execOp, hop, hm, hx, hrun, Result.andThen]
  exact hK' _ _ hK

theorem wpList_look (hg : o.guard = none) (m x : Operand) (t : TypeId) (hop : o.op = Op.lookup t m x false) (k e : TypeId) (K : Keyed P k) (ht : P.underlying t = some (.map k e)) (z : Value) (hz : (zeroValue e).run P w = .ok z w)
    (b n : Nat) (f : Lit → Option Value) (sz : Nat) (hm : a.eval m = .map (some b)) (hown : MapFn P k w b n f sz) (key : Value) (kl : Lit) (hx : a.eval x = key) (hkey : keyOf P k key = some kl) (hkl : WideAt.IsKeyLit kl) (v : Value)
    (hv : (f kl).getD z = v) (hK : wpList P ops Q rest (a.put o.dst v) w) : wpList P ops Q (o :: rest) a w := by
  refine wpList_plain hg fun K' hK' => ?_
  have hrun := hown.look K ht hz hkey hkl
  rw [hv] at hrun
  unfold Oper.wp
  simp [execOp, hop, hm, hx, hrun, Result.andThen]
  exact hK' _ _ hK

theorem wpList_mlen (hg : o.guard = none) (m : Operand) (t : TypeId) (hop : o.op = Op.call { callee := Callee.builtin Builtin.len, args := #[m], argTypes := #[t] }) (k e : TypeId) (ht : P.underlying t = some (.map k e))
    (b n : Nat) (f : Lit → Option Value) (sz : Nat) (hm : a.eval m = .map (some b)) (hown : MapFn P k w b n f sz) (hK : wpList P ops Q rest (a.put o.dst (.int .i64 sz)) w) : wpList P ops Q (o :: rest) a w := by
  refine wpList_plain hg fun K' hK' => ?_
  unfold Oper.wp
  simp [execOp, hop, resolve, invoke, builtin, hm, hown.len ht o.type, Result.andThen]
  exact hK' _ _ hK

theorem wpList_mstore (hg : o.guard = none) (m x v : Operand) (t : TypeId) (hop : o.op = Op.mapUpdate t m x v) (k e : TypeId) (K : Keyed P k) (ht : P.underlying t = some (.map k e))
    (b n : Nat) (f : Lit → Option Value) (sz : Nat) (hm : a.eval m = .map (some b)) (hown : MapFn P k w b n f sz) (hn : n < maxLen) (key val : Value) (kl : Lit) (hx : a.eval x = key) (hv : a.eval v = val) (hkey : keyOf P k key = some kl) (hkl : WideAt.IsKeyLit kl)
    (hK : ∀ w', MapFn P k w' b (n + 1) (putF f kl (some val)) (if (f kl).isSome then sz else sz + 1) → w.mapTurned w' b → wpList P ops Q rest (a.put o.dst undef) w') : wpList P ops Q (o :: rest) a w := by
  refine wpList_plain hg fun K' hK' => ?_
  obtain ⟨w', hrun, r1, r2⟩ := hown.store K ht hn (val := val) hkey hkl
  unfold Oper.wp
  simp [execOp, hop, hm, hx, hv, hrun, Result.andThen]
  exact hK' _ _ (hK w' r1 r2)

theorem wpList_mdelete (hg : o.guard = none) (m x : Operand) (t k : TypeId) (hop : o.op = Op.call { callee := Callee.builtin Builtin.delete, args := #[m, x], argTypes := #[t, k] }) (e : TypeId) (K : Keyed P k) (ht : P.underlying t = some (.map k e))
    (b n : Nat) (f : Lit → Option Value) (sz : Nat) (hm : a.eval m = .map (some b)) (hown : MapFn P k w b n f sz) (key : Value) (kl : Lit) (hx : a.eval x = key) (hkey : keyOf P k key = some kl) (hkl : WideAt.IsKeyLit kl)
    (hK : ∀ w', MapFn P k w' b n (putF f kl none) (if (f kl).isSome then sz - 1 else sz) → w.mapTurned w' b → wpList P ops Q rest (a.put o.dst (.tuple #[])) w') : wpList P ops Q (o :: rest) a w := by
  refine wpList_plain hg fun K' hK' => ?_
  obtain ⟨w', hrun, r1, r2⟩ := hown.drop K ht hkey hkl o.type
  unfold Oper.wp
  simp [execOp, hop, resolve, invoke, builtin, hm, hx, hrun, Result.andThen]
  exact hK' _ _ (hK w' r1 r2)

theorem run_makeMap_hint {t k e : TypeId} (ht : P.underlying t = some (.map k e)) (n : Int) (w : World) : (Instr.makeMap t (some (.int .i64 n))).run P w = .ok (.map (some w.heap.size)) (w.alloc (.map #[] 0)) := by
  simp [Instr.makeMap, run_underlying ht, asInt, asIntOf, Result.andThen]

end

theorem turned_below {w w' : World} {b B : Nat} (h : w.mapTurned w' b) (hB : B ≤ b) (hb : b < w.heap.size) : Below B w w' :=
  (Below.refl _ _).grown h.grown (by omega) (fun k hk => by cases hk; exact hB)

theorem turned_block {w w' : World} {b c : Nat} (h : w.mapTurned w' b) (hc : c ≠ b) (hlt : c < w.heap.size) : w'.heap[c]? = w.heap[c]? := h.grown.block c hlt (fun e => hc (Option.some.inj e))

end Go.Proofs.Ybulkblzu

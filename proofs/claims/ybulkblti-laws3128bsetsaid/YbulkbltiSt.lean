import Derived.Test.YbulkbltiSetc
import Derived.Deep.MidRow
import Derived.Deep.OwnRows
namespace Go.Proofs.Ybulkblti
open Go.RowKit Go.Maps Go.WideMaps
set_option linter.unusedVariables false

/-- A string as a map's key. -/
def kS (b : ByteArray) : Lit := .string b.data.toList
theorem kS_ok (b : ByteArray) : WideAt.IsKeyLit (kS b) := trivial
theorem kS_inj {a b : ByteArray} (h : kS a = kS b) : a = b := by
  simp only [kS, Lit.string.injEq] at h
  cases a; cases b; simpa using h
theorem kS_ne {a b : ByteArray} (h : a ≠ b) : kS a ≠ kS b := fun e => h (kS_inj e)
theorem kS_key {T : ByteArray} (hT : T.size ≤ maxLen) : keyOf Yba.prog 9 (.string T) = some (kS T) := keyOf_string_mk Yba.underlying9 hT

theorem putF_none {f : Lit → Option Value} {kl : Lit} (h : f kl = none) : putF f kl none = f := by
  funext x
  by_cases e : x = kl
  · subst e; unfold putF; split
    · exact h.symm
    · rfl
  · exact putF_other e

def oldV (B : Nat) : Value := .func (.func 4) #[] #[.pointer (some ⟨B, 0, none⟩)]
def newV (clear : Bool) (b : Nat) : Value := if clear then .nilFunc else .func (.func 5) #[] #[.pointer (some ⟨b, 0, none⟩)]
def newO (clear : Bool) (b : Nat) : Option Value := if clear then none else some (.func (.func 5) #[] #[.pointer (some ⟨b, 0, none⟩)])
def szNew (clear : Bool) (o : Option Value) (n : Nat) : Nat := if clear then szDel o n else szPut o n
/-- The number in a map's entry. -/
def numO : Option Value → Int
  | some (.int .i64 n) => n
  | _ => 0
def keptO (kept : Int) (o : Option Value) : Int := if o.isSome then wrap64 (kept - numO o) else kept

/-- Every value is an int. -/
def Ints (g : Lit → Option Value) : Prop := ∀ kl, g kl = none ∨ ∃ n, g kl = some (.int .i64 n)
theorem Ints.put {g : Lit → Option Value} (h : Ints g) (kl : Lit) (n : Int) : Ints (putF g kl (some (.int .i64 n))) := by
  intro x
  unfold putF
  split
  · exact .inr ⟨n, rfl⟩
  · exact h x
theorem Ints.num {g : Lit → Option Value} (h : Ints g) (kl : Lit) : (g kl).getD (.int .i64 0) = .int .i64 (numO (g kl)) := by
  rcases h kl with e | ⟨n, e⟩ <;> rw [e] <;> rfl

theorem set_all (N cm pm nc np sc sp : Nat) (kept ver : Int) (gc gp : Lit → Option Value) (T : ByteArray) (clear : Bool) (nb : Nat) (w : World) (hT : T.size ≤ maxLen) (hIC : IC N cm pm kept ver w) (hc : MapFn Yba.prog 9 w cm nc gc sc) (hp : MapFn Yba.prog 9 w pm np gp sp)
    (d1 : N ≠ cm) (d2 : N ≠ pm) (d3 : cm ≠ pm) (hnc : nc < maxLen) (hi : Ints gp) :
    Calls Yba.prog 6 #[.pointer (some ⟨N, 0, none⟩), .string T, newV clear nb] w fun e w' => e = .returned (.tuple #[]) ∧ ∃ nc', Did N cm pm w w' (keptO kept (gp (kS T))) (IntKind.u64.wrap (ver + 1)) nc' np (putF gc (kS T) (newO clear nb)) (putF gp (kS T) none) (szNew clear (gc (kS T)) sc) (szDel (gp (kS T)) sp) := by
  rcases hi (kS T) with e | ⟨n, e⟩
  · have e1 : keptO kept (gp (kS T)) = kept := by rw [e]; rfl
    have e2 : szDel (gp (kS T)) sp = sp := by rw [e]; rfl
    have e3 : putF gp (kS T) none = gp := putF_none e
    rw [e1, e2, e3]
    cases clear with
    | true => exact (set_no_clear N cm pm nc np sc sp kept ver gc gp T w hT hIC hc hp d1 d2 d3 hnc e).mono fun e w' h => ⟨h.1, _, h.2⟩
    | false => exact (set_no_put N cm pm nc np sc sp kept ver gc gp T _ _ _ w hT hIC hc hp d1 d2 d3 hnc e).mono fun e w' h => ⟨h.1, _, h.2⟩
  · have e1 : keptO kept (gp (kS T)) = wrap64 (kept - n) := by rw [e]; rfl
    have e2 : szDel (gp (kS T)) sp = sp - 1 := by rw [e]; rfl
    rw [e1, e2]
    cases clear with
    | true => exact (set_has_clear N cm pm nc np sc sp kept ver n gc gp T w hT hIC hc hp d1 d2 d3 hnc e).mono fun e w' h => ⟨h.1, _, h.2⟩
    | false => exact (set_has_put N cm pm nc np sc sp kept ver n gc gp T _ _ _ w hT hIC hc hp d1 d2 d3 hnc e).mono fun e w' h => ⟨h.1, _, h.2⟩

/-- The law's own two counters, and all that came in. -/
structure St (B : Nat) (w x : World) (nO nN : Int) : Prop where
  size : B + 2 ≤ x.heap.size
  bel : Below B w x
  co : x.cell? ⟨B, 0, none⟩ = some (.int .i64 nO)
  cn : x.cell? ⟨B + 1, 0, none⟩ = some (.int .i64 nN)
  fo : x.frozen? ⟨B, 0, none⟩ = false
  fn : x.frozen? ⟨B + 1, 0, none⟩ = false

theorem St.start (w : World) : St w.heap.size w ((w.alloc (.cells #[.int .i64 0] 3)).alloc (.cells #[.int .i64 0] 3)) 0 0 := by
  refine ⟨by simp, ((Below.refl _ _).alloc (Nat.le_refl _) _).alloc (by simp) _, ?_, ?_, ?_, ?_⟩ <;> simp [go_sem]

theorem Below.le_of {a b : World} {L M : Nat} (h : Below L a b) (hM : M ≤ L) : Below M a b := ⟨h.os, h.tape, h.output, h.size, fun k hk => h.block k (by omega)⟩

theorem St.below {B L : Nat} {w x x' : World} {nO nN : Int} (h : St B w x nO nN) (hL : B + 2 ≤ L) (hb : Below L x x') : St B w x' nO nN := by
  have hs := h.size
  have b0 := hb.block B (by omega)
  have b1 := hb.block (B + 1) (by omega)
  refine ⟨Nat.le_trans h.size hb.size, h.bel.trans (Below.le_of hb (by omega)), ?_, ?_, ?_, ?_⟩
  · rw [World.cell?_of_block (a := ⟨B, 0, none⟩) b0]; exact h.co
  · rw [World.cell?_of_block (a := ⟨B + 1, 0, none⟩) b1]; exact h.cn
  · rw [World.frozen?_of_block (a := ⟨B, 0, none⟩) b0]; exact h.fo
  · rw [World.frozen?_of_block (a := ⟨B + 1, 0, none⟩) b1]; exact h.fn

theorem St.but {B : Nat} {w x x' : World} {nO nN : Int} {S : Nat → Prop} (h : St B w x nO nN) (hb : But S x x') (hS : ∀ c, S c → B + 2 ≤ c) : St B w x' nO nN :=
  h.below (Nat.le_refl _) (hb.below (B + 2) h.size hS)

theorem St.setO {B : Nat} {w x : World} {nO nN n' : Int} (h : St B w x nO nN) : St B w (x.setCell ⟨B, 0, none⟩ (.int .i64 n')) n' nN := by
  refine ⟨by simp [World.setCell]; exact h.size, h.bel.setCell (Nat.le_refl _) _, World.cell?_setCell_same _ _ _ h.co, ?_, ?_, ?_⟩
  · rw [World.cell?_setCell_other _ _ _ _ (fun e => by injection e with e; omega)]; exact h.cn
  · rw [World.frozen?_setCell]; exact h.fo
  · rw [World.frozen?_setCell]; exact h.fn
theorem St.setN {B : Nat} {w x : World} {nO nN n' : Int} (h : St B w x nO nN) : St B w (x.setCell ⟨B + 1, 0, none⟩ (.int .i64 n')) nO n' := by
  refine ⟨by simp [World.setCell]; exact h.size, h.bel.setCell (by show B ≤ B + 1; omega) _, ?_, World.cell?_setCell_same _ _ _ h.cn, ?_, ?_⟩
  · rw [World.cell?_setCell_other _ _ _ _ (fun e => by injection e with e; omega)]; exact h.co
  · rw [World.frozen?_setCell]; exact h.fo
  · rw [World.frozen?_setCell]; exact h.fn

/-- What stands when setCommand has answered. -/
structure Fin' (B Pb N cm pm : Nat) (w x : World) (nO nN kept ver : Int) (nc npp : Nat) (gc gp : Lit → Option Value) (sc sp : Nat) (np : Nat) (pre : Nat → Option Value) : Prop where
  st : St B w x nO nN
  ic : IC N cm pm kept ver x
  mc : MapFn Yba.prog 9 x cm nc gc sc
  mp : MapFn Yba.prog 9 x pm npp gp sp
  pr : ∀ i, i < np → x.cell? ⟨Pb, i, none⟩ = pre i
  lPb : Pb < x.heap.size

section
variable {B Pb N cm pm : Nat} {w x x' : World} {nO nN kept ver : Int} {nc npp : Nat} {gc gp : Lit → Option Value} {sc sp np : Nat} {pre : Nat → Option Value}
theorem Fin'.turn (h : Fin' B Pb N cm pm w x nO nN kept ver nc npp gc gp sc sp np pre) {nO' nN' : Int} (hst : St B w x' nO' nN') (hs : x.heap.size ≤ x'.heap.size) (hb : ∀ c, c < x.heap.size → B + 2 ≤ c → x'.heap[c]? = x.heap[c]?) (l1 : B + 2 ≤ N) (l2 : B + 2 ≤ cm) (l3 : B + 2 ≤ pm) (l4 : B + 2 ≤ Pb) :
    Fin' B Pb N cm pm w x' nO' nN' kept ver nc npp gc gp sc sp np pre :=
  ⟨hst, h.ic.of_block (hb N h.ic.lt l1), h.mc.of_block (hb cm h.mc.lt l2), h.mp.of_block (hb pm h.mp.lt l3), fun i hi => by rw [World.cell?_of_block (a := ⟨Pb, i, none⟩) (hb Pb h.lPb l4)]; exact h.pr i hi, Nat.lt_of_lt_of_le h.lPb hs⟩
end

set_option maxRecDepth 100000 in
theorem old_call (B : Nat) (w x : World) (nO nN : Int) (h : St B w x nO nN) :
    Calls Yba.prog 4 #[.pointer none, .slice none 0 0, .pointer (some ⟨B, 0, none⟩)] x fun e w' => e = .returned (.tuple #[.string ⟨#[111, 108, 100]⟩, .nilIface]) ∧ x.setCell ⟨B, 0, none⟩ (.int .i64 (wrap64 (nO + 1))) = w' := by
  have h1 := h.co
  have h2 := h.fo
  clear h
  go_enter Yba.func4, Yba.ntmps4
  go_wp2
  refine bodyPost_ret (v := .tuple #[.string ⟨#[111, 108, 100]⟩, .nilIface]) (by simp [results, Yba.results4, go_sem]) rfl ⟨rfl, rfl⟩

set_option maxRecDepth 100000 in
theorem new_call (B : Nat) (w x : World) (nO nN : Int) (h : St B w x nO nN) :
    Calls Yba.prog 5 #[.pointer none, .slice none 0 0, .pointer (some ⟨B + 1, 0, none⟩)] x fun e w' => e = .returned (.tuple #[.string ⟨#[110, 101, 119]⟩, .nilIface]) ∧ x.setCell ⟨B + 1, 0, none⟩ (.int .i64 (wrap64 (nN + 1))) = w' := by
  have h1 := h.cn
  have h2 := h.fn
  clear h
  go_enter Yba.func5, Yba.ntmps5
  go_wp2
  refine bodyPost_ret (v := .tuple #[.string ⟨#[110, 101, 119]⟩, .nilIface]) (by simp [results, Yba.results5, go_sem]) rfl ⟨rfl, rfl⟩

theorem there_of_own1 {w : World} {base g n cap : Nat} {e : TypeId} {xs : List Value} (h : w.ownsRow base e 1 (.slice (some ⟨g, 0, none⟩) n cap) n xs) : w.there g 0 n := fun j hj => by
  rw [Nat.zero_add]
  refine ⟨?_, h.frozenAt j⟩
  rw [h.cellAt j (by omega), List.getElem?_eq_getElem (by rw [h.1]; omega)]; rfl
theorem below_of_grown_none {w w' : World} (h : w.grownBy w' none) : Below w.heap.size w w' :=
  (Below.refl _ _).grown h (Nat.le_refl _) (fun k e => by cases e)
theorem there_set {w : World} {g o n : Nat} (h : w.there g o n) (a : Addr) (v : Value) : (w.setCell a v).there g o n := fun j hj => by
  obtain ⟨h1, h2⟩ := h j hj
  refine ⟨?_, ?_⟩
  · obtain ⟨u, hu⟩ := Option.isSome_iff_exists.1 h1
    by_cases e : a = ⟨g, o + j, none⟩
    · subst e; rw [World.cell?_setCell_same _ _ _ hu]; rfl
    · rw [World.cell?_setCell_other _ _ _ _ e, hu]; rfl
  · rw [World.frozen?_setCell]; exact h2
theorem there_at {w : World} {g n k : Nat} (h : w.there g 0 n) (hk : k < n) : ∃ x, w.cell? ⟨g, k, none⟩ = some x ∧ w.frozen? ⟨g, k, none⟩ = false := by
  obtain ⟨h1, h2⟩ := h k hk
  rw [Nat.zero_add] at h1 h2
  obtain ⟨x, hx⟩ := Option.isSome_iff_exists.1 h1
  exact ⟨x, hx, h2⟩

/-- While the numbers are written down. -/
structure L3 (B Pb pm nn np : Nat) (w x : World) (gc gp : Lit → Option Value) (sc sp : Nat) (PN : Nat → ByteArray) (k : Nat) : Prop where
  st : St B w x 0 0
  mc : MapFn Yba.prog 9 x (B + 2) nn gc sc
  mp : MapFn Yba.prog 9 x pm np gp sp
  th : x.there Pb 0 np
  pr : ∀ i, i < k → x.cell? ⟨Pb, i, none⟩ = gp (kS (PN i))
  lPb : Pb < x.heap.size

section
variable {B Pb pm nn np k : Nat} {w x x' : World} {gc gp : Lit → Option Value} {sc sp : Nat} {PN : Nat → ByteArray}
theorem L3.below (h : L3 B Pb pm nn np w x gc gp sc sp PN k) (hb : Below x.heap.size x x') : L3 B Pb pm nn np w x' gc gp sc sp PN k := by
  have e := hb.block Pb h.lPb
  refine ⟨h.st.below h.st.size hb, h.mc.below hb, h.mp.below hb, fun j hj => ?_, fun i hi => ?_, Nat.lt_of_lt_of_le h.lPb hb.size⟩
  · rw [World.cell?_of_block (a := ⟨Pb, 0 + j, none⟩) e, World.frozen?_of_block (a := ⟨Pb, 0 + j, none⟩) e]; exact h.th j hj
  · rw [World.cell?_of_block (a := ⟨Pb, i, none⟩) e]; exact h.pr i hi
theorem L3.put (h : L3 B Pb pm nn np w x gc gp sc sp PN k) (hk : k < np) {u : Value} (hu : gp (kS (PN k)) = some u) (l1 : B + 3 ≤ Pb) (l2 : pm ≠ Pb) : L3 B Pb pm nn np w (x.setCell ⟨Pb, k, none⟩ u) gc gp sc sp PN (k + 1) := by
  obtain ⟨y, hy, _⟩ := there_at h.th hk
  have hbl : Below (B + 2) x (x.setCell ⟨Pb, k, none⟩ u) := (Below.refl _ _).setCell (by show B + 2 ≤ Pb; omega) _
  refine ⟨h.st.below (Nat.le_refl _) hbl, h.mc.set (by show B + 2 ≠ Pb; omega) _, h.mp.set l2 _, there_set h.th _ _, fun i hi => ?_, by simp [World.setCell]; exact h.lPb⟩
  by_cases e : i = k
  · subst e; rw [World.cell?_setCell_same _ _ _ hy, hu]
  · rw [World.cell?_setCell_other _ _ _ _ (addr_ne (fun q => e q.symm))]; exact h.pr i (by omega)
end

theorem info3 : (Yba.prog.info? 3).map (fun i => (i.zero, i.size, i.bytes)) = some (some (.int .i64 0), 1, 8) := by kernel_rfl
theorem own_lt {w : World} {base g n cap size : Nat} {e : TypeId} {xs : List Value} (h : w.ownsRow base e size (.slice (some ⟨g, 0, none⟩) n cap) n xs) : g < w.heap.size := by
  rcases h.2 with ⟨h0, _⟩ | ⟨g', cap', cur, hv, hg, hh, _⟩
  · cases h0
  · cases hv; exact lt_of_block hh

theorem MapFn.pos {w : World} {b n sz : Nat} {f : Lit → Option Value} (h : MapFn Yba.prog 9 w b n f sz) {kl : Lit} (hk : WideAt.IsKeyLit kl) (hs : (f kl).isSome = true) : 1 ≤ sz := by
  obtain ⟨D, h1, rfl, h3⟩ := h
  have := size_del (k := kl) (h1.tidy law)
  rw [(h3 kl hk).1, hs] at this
  simp at this
  omega
theorem num_yes {gp : Lit → Option Value} {kl : Lit} (hi : Ints gp) (hs : (gp kl).isSome = true) : ∃ n, gp kl = some (.int .i64 n) := by
  rcases hi kl with e | e
  · rw [e] at hs; cases hs
  · exact e
theorem fin_of {B Pb pm nn np k N : Nat} {w x y z : World} {gc gp : Lit → Option Value} {sc sp : Nat} {PN : Nat → ByteArray} {kept' ver' : Int} {nc npp sc' sp' : Nat} {gc' gp' : Lit → Option Value}
    (h : L3 B Pb pm nn np w x gc gp sc sp PN k) (hk : np ≤ k) (hb : Below x.heap.size x y) (hN : x.heap.size ≤ N) (l1 : B + 3 ≤ Pb) (l2 : B + 3 ≤ pm) (l3 : pm ≠ Pb) (hD : Did N (B + 2) pm y z kept' ver' nc npp gc' gp' sc' sp') :
    Fin' B Pb N (B + 2) pm w z 0 0 kept' ver' nc npp gc' gp' sc' sp' np (fun i => gp (kS (PN i))) := by
  have h' := h.below hb
  have hs := h.st.size
  refine ⟨h'.st.but hD.but (fun c hc => by rcases hc with rfl | rfl | rfl <;> omega), hD.ic, hD.mc, hD.mp, fun i hi => ?_, Nat.lt_of_lt_of_le h'.lPb hD.but.size⟩
  have l := h.lPb
  rw [World.cell?_of_block (a := ⟨Pb, i, none⟩) (hD.but.block Pb h'.lPb (fun hc => by rcases hc with e | e | e <;> omega))]
  exact h'.pr i (by omega)

end Go.Proofs.Ybulkblti

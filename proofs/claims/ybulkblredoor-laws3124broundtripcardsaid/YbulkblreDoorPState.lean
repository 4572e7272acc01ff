import Derived.Test.YbulkblreDoorParts
import Derived.Deep.MidRow
namespace Go.Proofs.YbulkblreDoor
open Go.RowKit
set_option linter.unusedVariables false

/-- The reading's state: the result's block B, the version's block B + 1. -/
structure PS (B : Nat) (w wr : World) (L : List (List UInt8)) (c : Nat) (M : List (Nat × List UInt8)) (r : List UInt8) (nv sv : Value) : Prop where
  n0 : wr.cell? ⟨B + 1, 0, none⟩ = some nv
  n1 : wr.cell? ⟨B + 1, 1, none⟩ = some (.int .u8 c)
  n2 : wr.cell? ⟨B + 1, 2, none⟩ = some sv
  n3 : wr.cell? ⟨B + 1, 3, none⟩ = some (.string (bs r))
  fz : ∀ o, o < 4 → wr.frozen? ⟨B + 1, o, none⟩ = false
  rt : wr.there B 0 4
  own1 : wr.ownsRow (B + 2) 9 1 nv L.length (strVals L)
  own2 : wr.ownsRow (B + 2) 26 2 sv M.length (sufVals M)
  nf : (∃ g cap, nv = .slice (some ⟨g, 0, none⟩) L.length cap) ∨ (nv = .slice none 0 0 ∧ L = [])
  sf : (∃ g cap, sv = .slice (some ⟨g, 0, none⟩) M.length cap) ∨ (sv = .slice none 0 0 ∧ M = [])
  ap : ∀ g, nv.ownBlock = some g → sv.ownBlock ≠ some g
  bel : Below B w wr
  sz : B + 1 < wr.heap.size

theorem PS.start (w : World) : PS w.heap.size w ((w.alloc (.cells #[.slice none 0 0, .int .u8 0, .slice none 0 0, .string (bs [])] 28)).alloc (.cells #[.slice none 0 0, .int .u8 0, .slice none 0 0, .string (bs [])] 28)) [] 0 [] [] (.slice none 0 0) (.slice none 0 0) := by
  refine ⟨by simp [go_sem], by simp [go_sem], by simp [go_sem], by simp [go_sem], fun o ho => by simp [go_sem], fun j hj => ?_, World.ownsRow_nil _ _ _ _, World.ownsRow_nil _ _ _ _, .inr ⟨rfl, rfl⟩, .inr ⟨rfl, rfl⟩, fun g h => (by cases h), ((Below.refl _ _).alloc (Nat.le_refl _) _).alloc (by simp) _, by simp⟩
  match j, hj with
  | 0, _ => simp [go_sem]
  | 1, _ => simp [go_sem]
  | 2, _ => simp [go_sem]
  | 3, _ => simp [go_sem]

theorem own_setCell_low {w : World} {base : Nat} {e : TypeId} {size : Nat} {v : Value} {n : Nat} {xs : List Value} (h : w.ownsRow base e size v n xs) {a : Addr} (ha : a.block < base) (u : Value) : (w.setCell a u).ownsRow base e size v n xs := ownsRow_setCell_below h ha u

theorem there_set {w : World} {g o n : Nat} (h : w.there g o n) (a : Addr) (v : Value) : (w.setCell a v).there g o n := fun j hj => by
  obtain ⟨h1, h2⟩ := h j hj
  refine ⟨?_, ?_⟩
  · obtain ⟨u, hu⟩ := Option.isSome_iff_exists.1 h1
    by_cases e : a = ⟨g, o + j, none⟩
    · subst e; rw [World.cell?_setCell_same _ _ _ hu]; rfl
    · rw [World.cell?_setCell_other _ _ _ _ e, hu]; rfl
  · rw [World.frozen?_setCell]; exact h2

theorem there_of_block {w w' : World} {g o n : Nat} (h : w.there g o n) (e : w'.heap[g]? = w.heap[g]?) : w'.there g o n := fun j hj => by
  rw [World.cell?_of_block (a := ⟨g, o + j, none⟩) e, World.frozen?_of_block (a := ⟨g, o + j, none⟩) e]; exact h j hj

theorem addr_ne {b o o' : Nat} (h : o ≠ o') : (⟨b, o, none⟩ : Addr) ≠ ⟨b, o', none⟩ := fun e => h (by injection e)

theorem own_kept {w w' : World} {base : Nat} {e : TypeId} {size : Nat} {v : Value} {n : Nat} {xs : List Value} {row : Option Nat} (h : w.ownsRow base e size v n xs) (hg : w.grownBy w' row) (hne : ∀ g, v.ownBlock = some g → row ≠ some g) : w'.ownsRow base e size v n xs := by
  obtain ⟨h1, h2⟩ := h
  refine ⟨h1, ?_⟩
  rcases h2 with h2 | ⟨g, cap, cur, hv, hb, hh, r⟩
  · exact Or.inl h2
  · have hlt : g < w.heap.size := (Array.getElem?_eq_some_iff.1 hh).1
    exact Or.inr ⟨g, cap, cur, hv, hb, by rw [hg.block g hlt (fun e => hne g (by rw [hv]; rfl) e.symm)]; exact hh, r⟩

/-- The version's cells behind an append onto the numbers, or onto the suffixes. -/
theorem PS.behind {B : Nat} {w wr w1 w2 : World} {L : List (List UInt8)} {c : Nat} {M : List (Nat × List UInt8)} {r : List UInt8} {nv sv : Value} {row : Option Nat} (h : PS B w wr L c M r nv sv)
    (hB1 : Below wr.heap.size wr w1) (hg : w1.grownBy w2 row) (hrow : row = nv.ownBlock ∨ row = sv.ownBlock) :
    w2.cell? ⟨B + 1, 0, none⟩ = some nv ∧ w2.frozen? ⟨B + 1, 0, none⟩ = false ∧ w2.cell? ⟨B + 1, 2, none⟩ = some sv ∧ w2.frozen? ⟨B + 1, 2, none⟩ = false := by
  have hs := hB1.size
  have hz := h.sz
  have hBB : Below (B + 2) wr w2 := (hB1.mono (by omega)).grown hg (by omega) (fun k hk => by
    rcases hrow with e | e
    · exact (h.own1.lt k (e.symm.trans hk)).1
    · exact (h.own2.lt k (e.symm.trans hk)).1)
  exact ⟨by rw [hBB.cell (by simp)]; exact h.n0, by rw [hBB.frozen (by simp)]; exact h.fz 0 (by omega), by rw [hBB.cell (by simp)]; exact h.n2, by rw [hBB.frozen (by simp)]; exact h.fz 2 (by omega)⟩

/-- A number more. -/
theorem PS.num {B : Nat} {w wr w1 w2 : World} {L : List (List UInt8)} {c : Nat} {M : List (Nat × List UInt8)} {r : List UInt8} {nv sv : Value} {x : List UInt8} {g cap : Nat} (h : PS B w wr L c M r nv sv)
    (hB1 : Below wr.heap.size wr w1) (hg : w1.grownBy w2 nv.ownBlock) (hat : nv.ownBlock = some g ∨ wr.heap.size ≤ g)
    (hown : w2.ownsRow (B + 2) 9 1 (.slice (some ⟨g, 0, none⟩) (L.length + 1) cap) (L.length + 1) (strVals L ++ [.string (bs x)])) :
    PS B w (w2.setCell ⟨B + 1, 0, none⟩ (.slice (some ⟨g, 0, none⟩) (L.length + 1) cap)) (L ++ [x]) c M r (.slice (some ⟨g, 0, none⟩) (L.length + 1) cap) sv := by
  have hs := hB1.size
  have hs2 := hg.size
  have hz := h.sz
  have hBB : Below (B + 2) wr w2 := (hB1.mono (by omega)).grown hg (by omega) (fun k hk => (h.own1.lt k hk).1)
  have el : (L ++ [x]).length = L.length + 1 := by simp
  have ev : strVals (L ++ [x]) = strVals L ++ [.string (bs x)] := by simp [strVals]
  have k0 : w2.cell? ⟨B + 1, 0, none⟩ = some nv := by rw [hBB.cell (by simp)]; exact h.n0
  refine ⟨World.cell?_setCell_same _ _ _ k0, ?_, ?_, ?_, ?_, ?_, ?_, ?_, .inl ⟨g, cap, by rw [el]⟩, h.sf, ?_, ?_, ?_⟩
  · rw [World.cell?_setCell_other _ _ _ _ (addr_ne (by omega)), hBB.cell (by simp)]; exact h.n1
  · rw [World.cell?_setCell_other _ _ _ _ (addr_ne (by omega)), hBB.cell (by simp)]; exact h.n2
  · rw [World.cell?_setCell_other _ _ _ _ (addr_ne (by omega)), hBB.cell (by simp)]; exact h.n3
  · intro o ho; rw [World.frozen?_setCell, hBB.frozen (by simp)]; exact h.fz o ho
  · exact there_set (there_of_block h.rt (hBB.block B (by omega))) _ _
  · rw [el, ev]; exact own_setCell_low hown (by simp) _
  · refine own_setCell_low (own_kept (own_below h.own2 hB1) hg (fun g2 e e2 => h.ap g2 e2 e)) (by simp) _
  · intro g2 e e2
    have e3 : g = g2 := by have := Option.some.inj e; simpa using this
    subst e3
    rcases hat with hat | hat
    · exact h.ap g hat e2
    · have := (h.own2.lt g e2).2; omega
  · exact (h.bel.trans (hBB.mono (by omega))).setCell (by simp) _
  · simp [World.setCell]; omega

/-- A suffix more. -/
theorem PS.suf {B : Nat} {w wr w1 w2 : World} {L : List (List UInt8)} {c : Nat} {M : List (Nat × List UInt8)} {r : List UInt8} {nv sv : Value} {x : Nat × List UInt8} {g cap : Nat} (h : PS B w wr L c M r nv sv)
    (hB1 : Below wr.heap.size wr w1) (hg : w1.grownBy w2 sv.ownBlock) (hat : sv.ownBlock = some g ∨ wr.heap.size ≤ g)
    (hown : w2.ownsRow (B + 2) 26 2 (.slice (some ⟨g, 0, none⟩) (M.length + 1) cap) (M.length + 1) (sufVals M ++ [.int .i64 x.1, .string (bs x.2)])) :
    PS B w (w2.setCell ⟨B + 1, 2, none⟩ (.slice (some ⟨g, 0, none⟩) (M.length + 1) cap)) L c (M ++ [x]) r nv (.slice (some ⟨g, 0, none⟩) (M.length + 1) cap) := by
  have hs := hB1.size
  have hs2 := hg.size
  have hz := h.sz
  have hBB : Below (B + 2) wr w2 := (hB1.mono (by omega)).grown hg (by omega) (fun k hk => (h.own2.lt k hk).1)
  have el : (M ++ [x]).length = M.length + 1 := by simp
  have ev : sufVals (M ++ [x]) = sufVals M ++ [.int .i64 x.1, .string (bs x.2)] := by simp [sufVals]
  have k2 : w2.cell? ⟨B + 1, 2, none⟩ = some sv := by rw [hBB.cell (by simp)]; exact h.n2
  refine ⟨?_, ?_, World.cell?_setCell_same _ _ _ k2, ?_, ?_, ?_, ?_, ?_, h.nf, .inl ⟨g, cap, by rw [el]⟩, ?_, ?_, ?_⟩
  · rw [World.cell?_setCell_other _ _ _ _ (addr_ne (by omega)), hBB.cell (by simp)]; exact h.n0
  · rw [World.cell?_setCell_other _ _ _ _ (addr_ne (by omega)), hBB.cell (by simp)]; exact h.n1
  · rw [World.cell?_setCell_other _ _ _ _ (addr_ne (by omega)), hBB.cell (by simp)]; exact h.n3
  · intro o ho; rw [World.frozen?_setCell, hBB.frozen (by simp)]; exact h.fz o ho
  · exact there_set (there_of_block h.rt (hBB.block B (by omega))) _ _
  · refine own_setCell_low (own_kept (own_below h.own1 hB1) hg (fun g2 e e2 => h.ap g2 e e2)) (by simp) _
  · rw [el, ev]; exact own_setCell_low hown (by simp) _
  · intro g2 e e2
    have e3 : g = g2 := by have := Option.some.inj e2; simpa using this
    subst e3
    rcases hat with hat | hat
    · exact h.ap g e hat
    · have := (h.own1.lt g e).2; omega
  · exact (h.bel.trans (hBB.mono (by omega))).setCell (by simp) _
  · simp [World.setCell]; omega

/-- The letter, the revision. -/
theorem PS.letter {B : Nat} {w wr : World} {L : List (List UInt8)} {c c' : Nat} {M : List (Nat × List UInt8)} {r : List UInt8} {nv sv : Value} (h : PS B w wr L c M r nv sv) :
    PS B w (wr.setCell ⟨B + 1, 1, none⟩ (.int .u8 c')) L c' M r nv sv := by
  have hz := h.sz
  refine ⟨?_, World.cell?_setCell_same _ _ _ h.n1, ?_, ?_, ?_, there_set h.rt _ _, own_setCell_low h.own1 (by simp) _, own_setCell_low h.own2 (by simp) _, h.nf, h.sf, h.ap, h.bel.setCell (by simp) _, by simp [World.setCell]; omega⟩
  · rw [World.cell?_setCell_other _ _ _ _ (addr_ne (by omega))]; exact h.n0
  · rw [World.cell?_setCell_other _ _ _ _ (addr_ne (by omega))]; exact h.n2
  · rw [World.cell?_setCell_other _ _ _ _ (addr_ne (by omega))]; exact h.n3
  · intro o ho; rw [World.frozen?_setCell]; exact h.fz o ho

theorem PS.rev {B : Nat} {w wr : World} {L : List (List UInt8)} {c : Nat} {M : List (Nat × List UInt8)} {r r' : List UInt8} {nv sv : Value} (h : PS B w wr L c M r nv sv) :
    PS B w (wr.setCell ⟨B + 1, 3, none⟩ (.string (bs r'))) L c M r' nv sv := by
  have hz := h.sz
  refine ⟨?_, ?_, ?_, World.cell?_setCell_same _ _ _ h.n3, ?_, there_set h.rt _ _, own_setCell_low h.own1 (by simp) _, own_setCell_low h.own2 (by simp) _, h.nf, h.sf, h.ap, h.bel.setCell (by simp) _, by simp [World.setCell]; omega⟩
  · rw [World.cell?_setCell_other _ _ _ _ (addr_ne (by omega))]; exact h.n0
  · rw [World.cell?_setCell_other _ _ _ _ (addr_ne (by omega))]; exact h.n1
  · rw [World.cell?_setCell_other _ _ _ _ (addr_ne (by omega))]; exact h.n2
  · intro o ho; rw [World.frozen?_setCell]; exact h.fz o ho

theorem PS.result {B : Nat} {w wr : World} {L : List (List UInt8)} {c : Nat} {M : List (Nat × List UInt8)} {r : List UInt8} {nv sv : Value} (h : PS B w wr L c M r nv sv) (o : Nat) (u : Value) :
    PS B w (wr.setCell ⟨B, o, none⟩ u) L c M r nv sv := by
  have hz := h.sz
  have hne : ∀ o', (⟨B, o, none⟩ : Addr) ≠ ⟨B + 1, o', none⟩ := fun o' e => by injection e with e1; omega
  refine ⟨?_, ?_, ?_, ?_, ?_, there_set h.rt _ _, own_setCell_low h.own1 (by simp) _, own_setCell_low h.own2 (by simp) _, h.nf, h.sf, h.ap, h.bel.setCell (Nat.le_refl _) _, by simp [World.setCell]; omega⟩
  · rw [World.cell?_setCell_other _ _ _ _ (hne 0)]; exact h.n0
  · rw [World.cell?_setCell_other _ _ _ _ (hne 1)]; exact h.n1
  · rw [World.cell?_setCell_other _ _ _ _ (hne 2)]; exact h.n2
  · rw [World.cell?_setCell_other _ _ _ _ (hne 3)]; exact h.n3
  · intro o ho; rw [World.frozen?_setCell]; exact h.fz o ho

theorem PS.drew {B : Nat} {w wr : World} {L : List (List UInt8)} {c : Nat} {M : List (Nat × List UInt8)} {r : List UInt8} {nv sv : Value} (h : PS B w wr L c M r nv sv) : PS B w wr.drew L c M r nv sv :=
  ⟨h.n0, h.n1, h.n2, h.n3, h.fz, h.rt, h.own1, h.own2, h.nf, h.sf, h.ap, h.bel.drew, h.sz⟩

end Go.Proofs.YbulkblreDoor

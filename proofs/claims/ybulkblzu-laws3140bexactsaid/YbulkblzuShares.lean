import Derived.Test.YbulkblzuTab
namespace Go.Proofs.Ybulkblzu
open Go.RowKit Go.Maps Go.WideMaps
set_option linter.unusedVariables false

theorem own_of_block {w w' : World} {base : Nat} {e : TypeId} {size : Nat} {v : Value} {n : Nat} {xs : List Value} (h : w.ownsRow base e size v n xs) (hb : ∀ g, v.ownBlock = some g → base ≤ g → g < w.heap.size → w'.heap[g]? = w.heap[g]?) : w'.ownsRow base e size v n xs := by
  obtain ⟨h1, h2⟩ := h
  refine ⟨h1, ?_⟩
  rcases h2 with h2 | ⟨g, cap, cur, hv, hbs, hh, r⟩
  · exact Or.inl h2
  · have hlt : g < w.heap.size := (Array.getElem?_eq_some_iff.1 hh).1
    exact Or.inr ⟨g, cap, cur, hv, hbs, by rw [hb g (by rw [hv]; rfl) hbs hlt]; exact hh, r⟩
theorem own_below {w w' : World} {base : Nat} {e : TypeId} {size : Nat} {v : Value} {n : Nat} {xs : List Value} (h : w.ownsRow base e size v n xs) (hb : Below w.heap.size w w') : w'.ownsRow base e size v n xs := own_of_block h (fun g _ _ hl => hb.block g hl)

/-- The table, and the rows of its three shares when i of the entries have been taken. -/
structure T1 (E : Nat → Ent) (B L : Nat) (w x : World) (i : Nat) (F : Lit → Option Value) (Sb : Nat → Nat) (v : Nat → Value) (cs : Nat → List Value) : Prop where
  bel : Below B w x
  lL : B + 4 ≤ L
  size : L ≤ x.heap.size
  tbl : x.cell? ⟨B + 2, 32, none⟩ = some (.map (some (B + 1)))
  mp : MapFn Yba.prog 28 x (B + 1) 3 F 3
  old : ∀ s, s < 3 → F (kL s) = some (.pointer (some ⟨Sb s, 0, none⟩))
  new : F (kL 3) = none
  ss : ∀ s, s < 3 → x.cell? ⟨B + 3, s, none⟩ = some (.pointer (some ⟨Sb s, 0, none⟩))
  sh : ∀ s, s < 3 → x.cell? ⟨Sb s, 21, none⟩ = some (v s)
  sf : ∀ s, s < 3 → x.frozen? ⟨Sb s, 21, none⟩ = false
  lo : ∀ s, s < 3 → B + 4 ≤ Sb s ∧ Sb s < L
  inj : ∀ s t, s < 3 → t < 3 → s ≠ t → Sb s ≠ Sb t
  row : ∀ s, s < 3 → x.ownsRow L 62 25 (v s) (cnt E s i) (cs s)
  el : ∀ s, s < 3 → EL E s i (cs s)
  ds : ∀ s t, s < 3 → t < 3 → s ≠ t → ∀ g, (v s).ownBlock = some g → (v t).ownBlock ≠ some g

theorem T1.start {E : Nat → Ent} {B : Nat} {w x : World} {F : Lit → Option Value} {Sb : Nat → Nat} (h : T0 B w x 3 F Sb) : T1 E B x.heap.size w x 0 F Sb (fun _ => .slice none 0 0) (fun _ => []) :=
  ⟨h.bel, h.size, Nat.le_refl _, h.tbl, h.mp, h.old, h.new 3 (Nat.le_refl _) (by omega), h.ss, h.sh, h.sf, fun s hs => ⟨h.lo s hs, h.lt hs⟩, h.inj, fun s hs => ⟨rfl, Or.inl ⟨rfl, rfl⟩⟩, fun s hs => EL.zero s, fun s t _ _ _ g hg => by cases hg⟩

section
variable {E : Nat → Ent} {B L : Nat} {w x x' : World} {i : Nat} {F : Lit → Option Value} {Sb : Nat → Nat} {v : Nat → Value} {cs : Nat → List Value}
theorem T1.below (h : T1 E B L w x i F Sb v cs) (hb : Below x.heap.size x x') : T1 E B L w x' i F Sb v cs :=
  ⟨h.bel.trans (below_le hb (by have := h.size; have := h.lL; omega)), h.lL, Nat.le_trans h.size hb.size, cell_later hb h.tbl, h.mp.below hb, h.old, h.new,
    fun s hs => cell_later hb (h.ss s hs), fun s hs => cell_later hb (h.sh s hs), fun s hs => frozen_later (by have := h.lo s hs; have := h.size; omega) hb (h.sf s hs), h.lo, h.inj, fun s hs => own_below (h.row s hs) hb, h.el, h.ds⟩

/-- Behind an append onto share s's row: what the share's cell holds. -/
theorem T1.behind {x1 x2 : World} (h : T1 E B L w x i F Sb v cs) {s : Nat} (hs : s < 3) (hb : Below x.heap.size x x1) (hg : x1.grownBy x2 (v s).ownBlock) :
    x2.cell? ⟨Sb s, 21, none⟩ = some (v s) ∧ x2.frozen? ⟨Sb s, 21, none⟩ = false := by
  have h1 := h.below hb
  have e : x2.heap[Sb s]? = x1.heap[Sb s]? := hg.block (Sb s) (by have := h1.lo s hs; have := h1.size; omega) (fun e => by
    have := ((h1.row s hs).lt (Sb s) e.symm).1
    have := h1.lo s hs; omega)
  rw [World.cell?_of_block (a := ⟨Sb s, 21, none⟩) e, World.frozen?_of_block (a := ⟨Sb s, 21, none⟩) e]
  exact ⟨h1.sh s hs, h1.sf s hs⟩

theorem T1.step {x1 x2 : World} {s g cap : Nat} {p : Option Addr} (h : T1 E B L w x i F Sb v cs) (hs : s < 3) (ho : (E i).own % 3 = s) (hp : p.isSome = (E i).held) (hb : Below x.heap.size x x1) (hg : x1.grownBy x2 (v s).ownBlock)
    (hat : (v s).ownBlock = some g ∨ x.heap.size ≤ g) (hown : x2.ownsRow L 62 25 (.slice (some ⟨g, 0, none⟩) (cnt E s i + 1) cap) (cnt E s i + 1) (cs s ++ enC (E i) p)) :
    T1 E B L w (x2.setCell ⟨Sb s, 21, none⟩ (.slice (some ⟨g, 0, none⟩) (cnt E s i + 1) cap)) (i + 1) F Sb (fun t => if t = s then .slice (some ⟨g, 0, none⟩) (cnt E s i + 1) cap else v t) (fun t => if t = s then cs s ++ enC (E i) p else cs t) := by
  have h1 := h.below hb
  obtain ⟨q1, q2⟩ := h.behind hs hb hg
  have l1 := h1.lL
  have l2 := h1.size
  have hs1 := hb.size
  have hLo := h.lo
  have hrl : ∀ k, (v s).ownBlock = some k → L ≤ k := fun k hk => ((h1.row s hs).lt k hk).1
  have hBL : Below L x1 x2 := (Below.refl L x1).grown hg (by omega) (fun k hk => hrl k hk)
  have hB3 : ∀ c, c < L → c ≠ Sb s → (x2.setCell ⟨Sb s, 21, none⟩ (.slice (some ⟨g, 0, none⟩) (cnt E s i + 1) cap)).heap[c]? = x1.heap[c]? := fun c hc hne => (Below.heap_setCell _ _ _ _ hne).trans (hBL.block c hc)
  have ltL : ∀ t, t < 3 → Sb t < L := fun t ht => (hLo t ht).2
  have geL : ∀ t, t < 3 → B + 4 ≤ Sb t := fun t ht => (hLo t ht).1
  have := ltL s hs
  have := geL s hs
  refine ⟨(h1.bel.trans (below_le hBL (by omega))).setCell (by show B ≤ Sb s; omega) _, h.lL, ?_, ?_, ?_, h.old, h.new, fun t ht => ?_, fun t ht => ?_, fun t ht => ?_, h.lo, h.inj, fun t ht => ?_, fun t ht => ?_, fun t u ht hu hne k hk => ?_⟩
  · have := hg.size; simp [World.setCell]; omega
  · rw [World.cell?_of_block (a := ⟨B + 2, 32, none⟩) (hB3 (B + 2) (by omega) (by omega))]; exact h1.tbl
  · exact h1.mp.of_block (hB3 (B + 1) (by omega) (by omega))
  · rw [World.cell?_of_block (a := ⟨B + 3, t, none⟩) (hB3 (B + 3) (by omega) (by omega))]; exact h1.ss t ht
  · by_cases e : t = s
    · subst e; rw [if_pos rfl]; exact World.cell?_setCell_same _ _ _ q1
    · rw [if_neg e, World.cell?_of_block (a := ⟨Sb t, 21, none⟩) (hB3 (Sb t) (ltL t ht) (h.inj t s ht hs e))]; exact h1.sh t ht
  · by_cases e : t = s
    · subst e; rw [World.frozen?_setCell]; exact q2
    · rw [World.frozen?_of_block (a := ⟨Sb t, 21, none⟩) (hB3 (Sb t) (ltL t ht) (h.inj t s ht hs e))]; exact h1.sf t ht
  · by_cases e : t = s
    · subst e
      rw [cnt_yes ho, if_pos rfl, if_pos rfl]
      exact own_of_block hown (fun k hk hLk _ => Below.heap_setCell _ _ _ _ (by show k ≠ Sb t; omega))
    · rw [cnt_no (fun q => e (q.symm.trans ho)), if_neg e, if_neg e]
      refine own_of_block (h1.row t ht) (fun k hk hLk hlk => (Below.heap_setCell _ _ _ _ (by show k ≠ Sb s; omega)).trans (hg.block k hlk (fun q => h.ds t s ht hs e k hk q.symm)))
  · by_cases e : t = s
    · subst e; rw [if_pos rfl]; exact (h.el t ht).yes ho p hp
    · rw [if_neg e]; exact (h.el t ht).no (fun q => e (q.symm.trans ho))
  · have hlt : ∀ t, t < 3 → ∀ k, (v t).ownBlock = some k → k < x.heap.size := fun t ht k hk => ((h.row t ht).lt k hk).2
    by_cases e : t = s
    · have e2 : u ≠ s := fun q => hne (e.trans q.symm)
      rw [if_pos e] at hk
      rw [if_neg e2]
      intro hq
      have hkg : g = k := by injection hk
      subst hkg
      rcases hat with a | a
      · exact h.ds s u hs hu (fun q => e2 q.symm) _ a hq
      · have := hlt u hu _ hq; omega
    · rw [if_neg e] at hk
      by_cases e2 : u = s
      · rw [if_pos e2]
        intro hq
        have hkg : g = k := by injection hq
        subst hkg
        rcases hat with a | a
        · exact h.ds s t hs ht (fun q => e q.symm) _ a hk
        · have := hlt t ht _ hk; omega
      · rw [if_neg e2]; exact h.ds t u ht hu hne k hk
end

end Go.Proofs.Ybulkblzu

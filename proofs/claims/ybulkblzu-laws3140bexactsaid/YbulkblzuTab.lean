import Derived.Test.YbulkblzuKeys
import Derived.Deep.RegionLaw
import Derived.Deep.AppendLies
namespace Go.Proofs.Ybulkblzu
open Go.RowKit Go.Maps Go.WideMaps
set_option linter.unusedVariables false

theorem step_mstore {P : Program} {w : World} {ops : Array Oper} {o : Oper} {a : Act} {K : Act → World → Prop} {Q : Exit → Act → World → Prop} {E : Prop} (hg : o.guard = none) (m x v : Operand) (t : TypeId) (hop : o.op = Op.mapUpdate t m x v) (k e : TypeId) (Kd : Keyed P k) (ht : P.underlying t = some (.map k e))
    (b n : Nat) (f : Lit → Option Value) (sz : Nat) (hm : a.eval m = .map (some b)) (hown : MapFn P k w b n f sz) (hn : n < maxLen) (key val : Value) (kl : Lit) (hx : a.eval x = key) (hv : a.eval v = val) (hkey : keyOf P k key = some kl) (hkl : WideAt.IsKeyLit kl)
    (hK : ∀ w', MapFn P k w' b (n + 1) (putF f kl (some val)) (if (f kl).isSome then sz else sz + 1) → w.mapTurned w' b → K (a.put o.dst undef) w') :
    if Region.wanted o (yielded ops a.tmps) = true then Oper.wp P o a w K Q else E := by
  have hw : Region.wanted o (yielded ops a.tmps) = true := by simp [Region.wanted, hg]
  rw [if_pos hw]
  obtain ⟨w', hrun, r1, r2⟩ := hown.store Kd ht hn (val := val) hkey hkl
  unfold Oper.wp
  simp [execOp, hop, hm, hx, hv, hrun, Result.andThen]
  exact hK w' r1 r2

theorem there_set {w : World} {g o n : Nat} (h : w.there g o n) (a : Addr) (v : Value) : (w.setCell a v).there g o n := fun j hj => by
  obtain ⟨h1, h2⟩ := h j hj
  refine ⟨?_, ?_⟩
  · obtain ⟨u, hu⟩ := Option.isSome_iff_exists.1 h1
    by_cases e : a = ⟨g, o + j, none⟩
    · subst e; rw [World.cell?_setCell_same _ _ _ hu]; rfl
    · rw [World.cell?_setCell_other _ _ _ _ e, hu]; rfl
  · rw [World.frozen?_setCell]; exact h2
theorem there_at {w : World} {g n k : Nat} (h : w.there g 0 n) (hk : k < n) : ∃ x, w.cell? ⟨g, k, none⟩ = some x ∧ w.frozen? ⟨g, k, none⟩ = false := by
  obtain ⟨h1, h2⟩ := h k hk
  rw [Nat.zero_add] at h1 h2
  obtain ⟨x, hx⟩ := Option.isSome_iff_exists.1 h1
  exact ⟨x, hx, h2⟩
theorem there_of_block {w w' : World} {g o n : Nat} (h : w.there g o n) (e : w'.heap[g]? = w.heap[g]?) : w'.there g o n := fun j hj => by
  rw [World.cell?_of_block (a := ⟨g, o + j, none⟩) e, World.frozen?_of_block (a := ⟨g, o + j, none⟩) e]; exact h j hj
theorem addr_ne {b o o' : Nat} (h : o ≠ o') : (⟨b, o, none⟩ : Addr) ≠ ⟨b, o', none⟩ := fun e => h (by injection e)
theorem addr_ne' {b b' o o' : Nat} (h : b ≠ b') : (⟨b, o, none⟩ : Addr) ≠ ⟨b', o', none⟩ := fun e => h (by injection e)
theorem below_le {a b : World} {L M : Nat} (h : Below L a b) (hM : M ≤ L) : Below M a b := ⟨h.os, h.tape, h.output, h.size, fun k hk => h.block k (by omega)⟩
theorem cell_later {x x' : World} {b o : Nat} {v : Value} (hb : Below x.heap.size x x') (h : x.cell? ⟨b, o, none⟩ = some v) : x'.cell? ⟨b, o, none⟩ = some v := by
  have hl : b < x.heap.size := World.block_lt_of_cell? x _ h
  rw [World.cell?_of_block (a := ⟨b, o, none⟩) (hb.block b hl)]; exact h
theorem frozen_later {x x' : World} {b o : Nat} (hl : b < x.heap.size) (hb : Below x.heap.size x x') (h : x.frozen? ⟨b, o, none⟩ = false) : x'.frozen? ⟨b, o, none⟩ = false := by
  rw [World.frozen?_of_block (a := ⟨b, o, none⟩) (hb.block b hl)]; exact h

/-- The table with its first k shares. -/
structure T0 (B : Nat) (w x : World) (k : Nat) (F : Lit → Option Value) (Sb : Nat → Nat) : Prop where
  bel : Below B w x
  size : B + 4 ≤ x.heap.size
  tbl : x.cell? ⟨B + 2, 32, none⟩ = some (.map (some (B + 1)))
  mp : MapFn Yba.prog 28 x (B + 1) k F k
  old : ∀ s, s < k → F (kL s) = some (.pointer (some ⟨Sb s, 0, none⟩))
  new : ∀ s, k ≤ s → s < 4 → F (kL s) = none
  th : x.there (B + 3) 0 3
  ss : ∀ s, s < k → x.cell? ⟨B + 3, s, none⟩ = some (.pointer (some ⟨Sb s, 0, none⟩))
  sh : ∀ s, s < k → x.cell? ⟨Sb s, 21, none⟩ = some (.slice none 0 0)
  sf : ∀ s, s < k → x.frozen? ⟨Sb s, 21, none⟩ = false
  lo : ∀ s, s < k → B + 4 ≤ Sb s
  inj : ∀ s t, s < k → t < k → s ≠ t → Sb s ≠ Sb t

section
variable {B : Nat} {w x x' : World} {k : Nat} {F : Lit → Option Value} {Sb : Nat → Nat}
theorem T0.lt (h : T0 B w x k F Sb) {s : Nat} (hs : s < k) : Sb s < x.heap.size := World.block_lt_of_cell? x _ (h.sh s hs)
theorem T0.below (h : T0 B w x k F Sb) (hb : Below x.heap.size x x') : T0 B w x' k F Sb :=
  ⟨h.bel.trans (below_le hb (by have := h.size; omega)), Nat.le_trans h.size hb.size, cell_later hb h.tbl, h.mp.below hb, h.old, h.new, there_of_block h.th (hb.block (B + 3) (by have := h.size; omega)),
    fun s hs => cell_later hb (h.ss s hs), fun s hs => cell_later hb (h.sh s hs), fun s hs => frozen_later (h.lt hs) hb (h.sf s hs), h.lo, h.inj⟩

/-- A new share N is laid into the array and into the map. -/
theorem T0.step {x2 x3 : World} {N : Nat} (h : T0 B w x k F Sb) (hk : k < 3) (hN : x.heap.size ≤ N) (hc : x2.cell? ⟨N, 21, none⟩ = some (.slice none 0 0)) (hf : x2.frozen? ⟨N, 21, none⟩ = false)
    (h2 : ∀ c, c < x.heap.size → c ≠ B + 3 → x2.heap[c]? = x.heap[c]?) (hs2 : x.heap.size ≤ x2.heap.size) (hth : x2.there (B + 3) 0 3) (hold : ∀ s, s < k → x2.cell? ⟨B + 3, s, none⟩ = x.cell? ⟨B + 3, s, none⟩) (hnew : x2.cell? ⟨B + 3, k, none⟩ = some (.pointer (some ⟨N, 0, none⟩))) (hb2 : Below (B + 3) x x2)
    (hM : MapFn Yba.prog 28 x3 (B + 1) (k + 1) (putF F (kL k) (some (.pointer (some ⟨N, 0, none⟩)))) (if (F (kL k)).isSome then k else k + 1)) (ht : x2.mapTurned x3 (B + 1)) :
    T0 B w x3 (k + 1) (putF F (kL k) (some (.pointer (some ⟨N, 0, none⟩)))) (fun s => if s = k then N else Sb s) := by
  have hs := h.size
  have b23 : ∀ c, c < x2.heap.size → c ≠ B + 1 → x3.heap[c]? = x2.heap[c]? := fun c hl hne => turned_block ht hne hl
  have b13 : ∀ c, c < x.heap.size → c ≠ B + 1 → c ≠ B + 3 → x3.heap[c]? = x.heap[c]? := fun c hl h1 h3 => (b23 c (by omega) h1).trans (h2 c hl h3)
  have hNl : N < x2.heap.size := World.block_lt_of_cell? x2 _ hc
  have e0 : F (kL k) = none := h.new k (Nat.le_refl _) (by omega)
  have lt : ∀ s, s < k → Sb s < x.heap.size := fun s hs => h.lt hs
  refine ⟨h.bel.trans ((below_le hb2 (by omega)).trans (turned_below ht (by omega) (by omega))), ?_, ?_, ?_, fun s hs => ?_, fun s hs hs4 => ?_, ?_, fun s hs => ?_, fun s hs => ?_, fun s hs => ?_, fun s hs => ?_, fun s t hs ht hne => ?_⟩
  · have := ht.grown.size; omega
  · rw [World.cell?_of_block (a := ⟨B + 2, 32, none⟩) (b13 (B + 2) (by omega) (by omega) (by omega))]; exact h.tbl
  · rw [e0] at hM; exact hM
  · by_cases e : s = k
    · subst e; rw [putF_same (kL_ok _), if_pos rfl]
    · rw [putF_other (kL_ne (by omega) (by omega) e), if_neg e]; exact h.old s (by omega)
  · rw [putF_other (kL_ne hs4 (by omega) (by omega))]; exact h.new s (by omega) hs4
  · exact there_of_block hth (b23 (B + 3) (by omega) (by omega))
  · rw [World.cell?_of_block (a := ⟨B + 3, s, none⟩) (b23 (B + 3) (by omega) (by omega))]
    by_cases e : s = k
    · subst e; rw [if_pos rfl]; exact hnew
    · rw [if_neg e, hold s (by omega)]; exact h.ss s (by omega)
  · by_cases e : s = k
    · subst e; rw [if_pos rfl, World.cell?_of_block (a := ⟨N, 21, none⟩) (b23 N hNl (by omega))]; exact hc
    · have := lt s (by omega); have := h.lo s (by omega)
      rw [if_neg e, World.cell?_of_block (a := ⟨Sb s, 21, none⟩) (b13 (Sb s) (by omega) (by omega) (by omega))]; exact h.sh s (by omega)
  · by_cases e : s = k
    · subst e; rw [if_pos rfl, World.frozen?_of_block (a := ⟨N, 21, none⟩) (b23 N hNl (by omega))]; exact hf
    · have := lt s (by omega); have := h.lo s (by omega)
      rw [if_neg e, World.frozen?_of_block (a := ⟨Sb s, 21, none⟩) (b13 (Sb s) (by omega) (by omega) (by omega))]; exact h.sf s (by omega)
  · by_cases e : s = k
    · rw [if_pos e]; omega
    · rw [if_neg e]; exact h.lo s (by omega)
  · show (if s = k then N else Sb s) ≠ (if t = k then N else Sb t)
    by_cases e : s = k
    · have q : t ≠ k := fun q => hne (e.trans q.symm)
      have := lt t (by omega)
      rw [if_pos e, if_neg q]; omega
    · by_cases q : t = k
      · have := lt s (by omega)
        rw [if_neg e, if_pos q]; omega
      · rw [if_neg e, if_neg q]; exact h.inj s t (by omega) (by omega) hne

/-- The world in which the new share and its pointer lie. -/
def laid (B k : Nat) (x : World) (cs : Array Value) : World := (x.setCell ⟨B + 3, k, none⟩ (.pointer (some ⟨x.heap.size, 0, none⟩))).alloc (.cells cs 59)

theorem T0.laid_mp (h : T0 B w x k F Sb) (cs : Array Value) : MapFn Yba.prog 28 (laid B k x cs) (B + 1) k F k := by
  have hs := h.size
  exact (h.mp.of_block (w' := x.setCell ⟨B + 3, k, none⟩ (.pointer (some ⟨x.heap.size, 0, none⟩))) (Below.heap_setCell _ _ _ _ (by show B + 1 ≠ B + 3; omega))).below ((Below.refl _ _).alloc (Nat.le_refl _) _)

theorem T0.laid_step {x2 x3 : World} (h : T0 B w x k F Sb) (hk : k < 3) (cs : Array Value) (hcs : cs[21]? = some (.slice none 0 0)) (hx2 : x2.heap = (laid B k x cs).heap ∧ x2.os = (laid B k x cs).os ∧ x2.tape = (laid B k x cs).tape ∧ x2.output = (laid B k x cs).output)
    (hM : MapFn Yba.prog 28 x3 (B + 1) (k + 1) (putF F (kL k) (some (.pointer (some ⟨x.heap.size, 0, none⟩)))) (if (F (kL k)).isSome then k else k + 1)) (ht : x2.mapTurned x3 (B + 1)) :
    T0 B w x3 (k + 1) (putF F (kL k) (some (.pointer (some ⟨x.heap.size, 0, none⟩)))) (fun s => if s = k then x.heap.size else Sb s) := by
  obtain ⟨q, q1, q2, q3⟩ := hx2
  have hs := h.size
  have hsz : (x.setCell ⟨B + 3, k, none⟩ (.pointer (some ⟨x.heap.size, 0, none⟩))).heap.size = x.heap.size := by simp [World.setCell]
  have bA : ∀ c, c < x.heap.size → x2.heap[c]? = (x.setCell ⟨B + 3, k, none⟩ (.pointer (some ⟨x.heap.size, 0, none⟩))).heap[c]? := fun c hc => by
    rw [q]; exact ((Below.refl _ _).alloc (Nat.le_refl _) (.cells cs 59)).block c (by rw [hsz]; exact hc)
  have bN : x2.heap[x.heap.size]? = some (.cells cs 59 (0, 0)) := by
    rw [q, ← hsz]; exact heap_alloc_new _ _
  obtain ⟨y, hy, _⟩ := there_at h.th hk
  refine h.step hk (N := x.heap.size) (x2 := x2) (Nat.le_refl _) ?_ ?_ (fun c hc hne => (bA c hc).trans (Below.heap_setCell _ _ _ _ hne)) ?_ ?_ (fun s hs' => ?_) ?_ ?_ hM ht
  · rw [cell_of_row x2 x.heap.size 21 cs 59 (0, 0) bN]; exact hcs
  · unfold World.frozen?; rw [show x2.heap[(⟨x.heap.size, 21, none⟩ : Addr).block]? = _ from bN]; simp
  · rw [q]; show _ ≤ (World.alloc _ _).heap.size; simp [hsz]
  · exact there_of_block (there_set h.th _ _) (bA (B + 3) (by omega))
  · rw [World.cell?_of_block (a := ⟨B + 3, s, none⟩) (bA (B + 3) (by omega)), World.cell?_setCell_other _ _ _ _ (addr_ne (by omega))]
  · rw [World.cell?_of_block (a := ⟨B + 3, k, none⟩) (bA (B + 3) (by omega)), World.cell?_setCell_same _ _ _ hy]
  · exact ⟨q1, q2, q3, by rw [q]; show _ ≤ (World.alloc _ _).heap.size; simp [hsz], fun c hc => (bA c (by omega)).trans (Below.heap_setCell _ _ _ _ (by show c ≠ B + 3; omega))⟩
end

theorem al {w x : World} (h : Below w.heap.size w x) (ob : Obj) : Below w.heap.size w (x.alloc ob) := h.alloc h.size ob

theorem T0.start (w : World) (cs : Array Value) (hcs : cs[32]? = some (.map (some (w.heap.size + 1)))) :
    T0 w.heap.size w ((((w.alloc (.map #[] 0)).alloc (.map #[] 0)).alloc (.cells cs 55)).alloc (.cells #[.pointer none, .pointer none, .pointer none] 64)) 0 (fun _ => none) (fun _ => 0) := by
  have hM0 : MapFn Yba.prog 28 ((w.alloc (.map #[] 0)).alloc (.map #[] 0)) (w.heap.size + 1) 0 (fun _ => none) 0 := by
    have q := MapFn.made (w.alloc (.map #[] 0)) Yba.prog 28
    simpa using q
  obtain ⟨x, hx⟩ : ∃ x, (w.alloc (.map #[] 0)).alloc (.map #[] 0) = x := ⟨_, rfl⟩
  have hsz : x.heap.size = w.heap.size + 2 := by rw [← hx]; simp
  have hbx : Below w.heap.size w x := by rw [← hx]; exact al (al (Below.refl _ _) _) _
  rw [hx] at hM0 ⊢
  have n1 := heap_alloc_new x (.cells cs 55)
  rw [hsz] at n1
  have s1 : (x.alloc (.cells cs 55)).heap.size = w.heap.size + 3 := by simp [hsz]
  have n2 := heap_alloc_new (x.alloc (.cells cs 55)) (.cells #[.pointer none, .pointer none, .pointer none] 64)
  rw [s1] at n2
  have bl : Below (x.alloc (.cells cs 55)).heap.size (x.alloc (.cells cs 55)) ((x.alloc (.cells cs 55)).alloc (.cells #[.pointer none, .pointer none, .pointer none] 64)) := (Below.refl _ _).alloc (Nat.le_refl _) _
  have n1' := (bl.block (w.heap.size + 2) (by omega)).trans n1
  refine ⟨al (al hbx _) _, by simp [hsz], ?_, hM0.below (al (al (Below.refl _ _) _) _), fun s hs => absurd hs (Nat.not_lt_zero _), fun s _ _ => rfl, fun j hj => ?_, fun s hs => absurd hs (Nat.not_lt_zero _), fun s hs => absurd hs (Nat.not_lt_zero _), fun s hs => absurd hs (Nat.not_lt_zero _), fun s hs => absurd hs (Nat.not_lt_zero _), fun s t hs => absurd hs (Nat.not_lt_zero _)⟩
  · rw [cell_of_row _ (w.heap.size + 2) 32 cs 55 (0, 0) n1']; exact hcs
  · rw [Nat.zero_add]
    refine ⟨?_, ?_⟩
    · rw [cell_of_row _ (w.heap.size + 3) j _ 64 (0, 0) n2]
      match j, hj with
      | 0, _ => rfl
      | 1, _ => rfl
      | 2, _ => rfl
    · unfold World.frozen?; rw [show (World.heap _)[(⟨w.heap.size + 3, j, none⟩ : Addr).block]? = _ from n2]; simp

end Go.Proofs.Ybulkblzu

import Derived.Test.YbulkblsgFmtTd
import Derived.Deep.OwnRows
import Derived.Deep.RegionHeld
namespace Go.Proofs.YbulkblsgFmt
open Go.RowKit Go.Sort
set_option linter.unusedVariables false
set_option linter.unusedSimpArgs false
/-- But for block E, and what was made since, the world is as it was. -/
structure OthE (E H : Nat) (w w' : World) : Prop where
  os : w'.os = w.os
  tape : w'.tape = w.tape
  output : w'.output = w.output
  size : H ≤ w'.heap.size
  block : ∀ b, b < H → b ≠ E → w'.heap[b]? = w.heap[b]?
theorem OthE.drew {E H : Nat} {w w' : World} (h : OthE E H w w') : OthE E H w w'.drew := ⟨h.os, h.tape, h.output, h.size, h.block⟩
theorem OthE.drewN {E H : Nat} {w w' : World} (h : OthE E H w w') (n : Nat) : OthE E H w (w'.drewN n) := ⟨h.os, h.tape, h.output, h.size, h.block⟩
theorem OthE.alloc {E H : Nat} {w w' : World} (h : OthE E H w w') (o : Obj) : OthE E H w (w'.alloc o) := ⟨h.os, h.tape, h.output, by have := h.size; show H ≤ (w'.heap.push o).size; rw [Array.size_push]; omega, fun b hb hne => by
  have := h.size
  show (w'.heap.push o)[b]? = _
  rw [Array.getElem?_push, if_neg (by omega)]; exact h.block b hb hne⟩
theorem OthE.set {E H : Nat} {w w' : World} (h : OthE E H w w') (a : Addr) (v : Value) (ha : a.block = E ∨ H ≤ a.block) : OthE E H w (w'.setCell a v) := ⟨h.os, h.tape, h.output, by have := h.size; simp [World.setCell]; omega, fun b hb hne => by
  have e : b ≠ a.block := by rcases ha with ha | ha <;> omega
  have e2 : (w'.setCell a v).heap[b]? = w'.heap[b]? := by simp [World.setCell, Array.getElem?_modify, Ne.symm e]
  rw [e2]; exact h.block b hb hne⟩
theorem OthE.cell {E H : Nat} {w w' : World} (h : OthE E H w w') {a : Addr} (h1 : a.block < H) (h2 : a.block ≠ E) : w'.cell? a = w.cell? a := World.cell?_of_block (w := w) (h.block _ h1 h2)
def evE (f0 : Nat → Value) (off N : Nat) (d : Array Int) (k : Nat) : Value := if off ≤ k ∧ k < off + N then .int .i64 d[k - off]! else f0 k
/-- The worlds of the batch's sort. -/
def SB (w0 : World) (E off N cap n : Nat) (f0 : Nat → Value) (d : Array Int) (w : World) : Prop :=
  d.size = N ∧ (∀ t, t < N → ∃ x : Nat, x < n ∧ d[t]! = (x : Int)) ∧ w.rowIs E 3 cap (evE f0 off N d) ∧ OthE E w0.heap.size w0 w
theorem swp_get' (d : Array Int) (i j t : Nat) (hi : i < d.size) (hj : j < d.size) : (swp d i j)[t]! = if t = j then d[i]! else if t = i then d[j]! else d[t]! := swp_get d i j t hi hj
set_option maxRecDepth 100000 in
theorem srt_bd (w0 : World) (D E C off N cap c n : Nat) (dl : Nat → Nat) (f0 : Nat → Value) (nx pv : Nat → Int) (hD : D < w0.heap.size) (hE : E < w0.heap.size) (hC : C < w0.heap.size) (hDE : D ≠ E) (hCE : C ≠ E) (hcap : off + N ≤ cap) (hN : N < 4611686018427387904) (hn : n < 1000)
    (hb : w0.cell? ⟨D, 720, none⟩ = some (.slice (some ⟨E, off, none⟩) N c)) (hb2 : w0.cell? ⟨D, 721, none⟩ = some (.slice (some ⟨C, 0, none⟩) n n))
    (hdl : ∀ x, x < n → w0.cell? ⟨C, x * 3, none⟩ = some (.int .i64 ((dl x : Nat) : Int))) :
    Srt w0.heap.size (.pointer (some ⟨D, 720, none⟩)) N (ltD dl) (SB w0 E off N cap n f0) where
  size := fun d w h => h.1
  small := hN
  drew := fun d w h => ⟨h.1, h.2.1, h.2.2.1, h.2.2.2.drew⟩
  big := fun d w h => h.2.2.2.size
  alloc := fun d w o h => ⟨h.1, h.2.1, h.2.2.1.alloc o, h.2.2.2.alloc o⟩
  set := fun d w a v h ha => ⟨h.1, h.2.1, h.2.2.1.setOther (by omega) v, h.2.2.2.set a v (Or.inr ha)⟩
  mlen := fun w => by kernel_rfl
  mless := fun w => by kernel_rfl
  mswap := fun w => by kernel_rfl
  len := fun d w h => (len_bd D E off N c w ((h.2.2.2.cell (a := ⟨D, 720, none⟩) hD hDE).trans hb)).mono fun e w' ⟨h1, h2⟩ => ⟨h1, by rw [h2]; exact h⟩
  less := fun d w i j h hi hj => by
    obtain ⟨hs, hv, hr, ho⟩ := h
    obtain ⟨x, hx, ex⟩ := hv i hi
    obtain ⟨y, hy, ey⟩ := hv j hj
    have gi : w.cell? ⟨E, off + i, none⟩ = some (.int .i64 ((x : Nat) : Int)) := by
      rw [hr.cell (by omega)]; unfold evE; rw [if_pos (by omega), show off + i - off = i by omega, ex]
    have gj : w.cell? ⟨E, off + j, none⟩ = some (.int .i64 ((y : Nat) : Int)) := by
      rw [hr.cell (by omega)]; unfold evE; rw [if_pos (by omega), show off + j - off = j by omega, ey]
    refine (less_bd D E C off N c n i j x y (dl x) (dl y) w hi hj hx hy hN hn ((ho.cell (a := ⟨D, 720, none⟩) hD hDE).trans hb) ((ho.cell (a := ⟨D, 721, none⟩) hD hDE).trans hb2) gi gj
      ((ho.cell (a := ⟨C, x * 3, none⟩) hC hCE).trans (hdl x hx)) ((ho.cell (a := ⟨C, y * 3, none⟩) hC hCE).trans (hdl y hy))).mono ?_
    rintro e w' ⟨rfl, q, rfl⟩
    refine ⟨?_, ⟨hs, hv, hr, ho.drewN q⟩, fun a _ => ⟨rfl, rfl⟩⟩
    rw [ex, ey]
    unfold ltD
    simp only [Int.toNat_natCast, Int.ofNat_lt]
  swap := fun d w i j h hi hj => by
    obtain ⟨hs, hv, hr, ho⟩ := h
    have gi : w.cell? ⟨E, off + i, none⟩ = some (.int .i64 d[i]!) := by
      rw [hr.cell (by omega)]; unfold evE; rw [if_pos (by omega), show off + i - off = i by omega]
    have gj : w.cell? ⟨E, off + j, none⟩ = some (.int .i64 d[j]!) := by
      rw [hr.cell (by omega)]; unfold evE; rw [if_pos (by omega), show off + j - off = j by omega]
    refine (swap_any D E off N c i j d[i]! d[j]! w hi hj hN ((ho.cell (a := ⟨D, 720, none⟩) hD hDE).trans hb) hDE gi gj (hr.frozen _) (hr.frozen _)).mono ?_
    rintro e w' ⟨rfl, q, rfl⟩
    refine ⟨rfl, ⟨by rw [size_swp]; exact hs, fun t ht => ?_, ?_, ((ho.set ⟨E, off + i, none⟩ _ (Or.inl rfl)).set ⟨E, off + j, none⟩ _ (Or.inl rfl)).drewN q⟩, fun a ha => ⟨?_, ?_⟩⟩
    · rw [swp_get' _ _ _ _ (by omega) (by omega)]
      split
      · exact hv i hi
      · split
        · exact hv j hj
        · exact hv t ht
    · refine ((hr.set (off + i) _).set (off + j) _).congr fun k hk => ?_
      unfold evE
      by_cases e1 : k = off + j
      · rw [if_pos e1, if_pos (by omega), swp_get' _ _ _ _ (by omega) (by omega), if_pos (by omega)]
      · rw [if_neg e1]
        by_cases e2 : k = off + i
        · rw [if_pos e2, if_pos (by omega), swp_get' _ _ _ _ (by omega) (by omega), if_neg (by omega), if_pos (by omega)]
        · rw [if_neg e2]
          by_cases e3 : off ≤ k ∧ k < off + N
          · rw [if_pos e3, if_pos e3, swp_get' _ _ _ _ (by omega) (by omega), if_neg (by omega), if_neg (by omega)]
          · rw [if_neg e3, if_neg e3]
    · show ((w.setCell _ _).setCell _ _).cell? a = _
      rw [World.cell?_setCell_far _ _ _ _ (by show E ≠ a.block; omega), World.cell?_setCell_far _ _ _ _ (by show E ≠ a.block; omega)]
    · show ((w.setCell _ _).setCell _ _).frozen? a = _
      rw [World.frozen?_setCell, World.frozen?_setCell]
end Go.Proofs.YbulkblsgFmt

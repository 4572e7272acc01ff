import Derived.Test.YbulkblsgFmtSa
namespace Go.Proofs.YbulkblsgFmt
open Go.RowKit Go.Sort
set_option linter.unusedVariables false
set_option linter.unusedSimpArgs false
variable {H : Nat} {rv : Value} {N : Nat} {lt : Int → Int → Bool} {S : Array Int → World → Prop}
set_option maxHeartbeats 4000000 in
set_option maxRecDepth 100000 in
theorem rev_any (X : Srt H rv N lt S) (a b : Nat) (d : Array Int) (w : World) (hS : S d w) (hab : a ≤ b) (hb : b ≤ N) :
    Calls Ybaf.prog 49 #[.iface 83 rv, .int .i64 (a : Nat), .int .i64 (b : Nat)] w fun e w' => e = .returned (.tuple #[]) ∧ ∃ d', S d' w' ∧ PermIn a b d d' := by
  have hsz := X.small
  have mL := X.mless; have mS := X.mswap
  have eL := e103; have eS := e104
  have hds := X.size d w hS
  go_enter Ybaf.func49, Ybaf.ntmps49
  go_wp2
  go_loopw [6, 7] (fun vi vj wr => ∃ (i j : Int) (dk : Array Int), vi = .int .i64 i ∧ vj = .int .i64 j ∧ a ≤ i ∧ j < b ∧ i ≤ b ∧ -1 ≤ j ∧ S dk wr ∧ PermIn a b d dk) (fun vi vj _ => (intOf vj - intOf vi).toNat)
  case atStart => exact ⟨_, _, d, rfl, rfl, by omega, by omega, by omega, by omega, hS, permIn_refl _ _ _⟩
  case round =>
    obtain ⟨i, j, dk, rfl, rfl, hai, hjb, hib, hj0, hSk, hP⟩ := hrel
    clear hS
    have hdk := X.size dk wr hSk
    have HP : Hid (PermIn a b d dk) := hP
    clear hP
    go_wp2_with (first
      | (refine (X.swapI dk _ _ _ (by assumption) (by omega) (by omega) (by omega) (by omega)).mono ?_; rintro e w'' ⟨rfl, h2, -⟩))
    · exact ⟨⟨_, _, _, rfl, rfl, by omega, by omega, by omega, by omega, h2 i.toNat j.toNat (by omega) (by omega), permIn_trans _ _ _ a b HP.out (swp_permIn _ _ _ _ _ (by omega) (by omega) (by omega) (by omega) (by omega))⟩, by simp [intOf]; omega⟩
    · go_end0
      exact ⟨rfl, dk, hSk, HP.out⟩
/-- Where the scans of the partitions stop. -/
theorem swp_get (d : Array Int) (i j t : Nat) (hi : i < d.size) (hj : j < d.size) : (swp d i j)[t]! = if t = j then d[i]! else if t = i then d[j]! else d[t]! := by
  unfold swp
  by_cases ht : t < d.size
  · rw [getElem!_pos _ t (by simpa using ht), Array.getElem_setIfInBounds (by simpa using ht)]
    by_cases e1 : t = j
    · rw [if_pos e1.symm, if_pos e1]
    · rw [if_neg (fun h => e1 h.symm), if_neg e1, Array.getElem_setIfInBounds ht]
      by_cases e2 : t = i
      · rw [if_pos e2.symm, if_pos e2]
      · rw [if_neg (fun h => e2 h.symm), if_neg e2, getElem!_pos _ t ht]
  · rw [getElem!_neg _ t (by simpa using ht), if_neg (by omega), if_neg (by omega), getElem!_neg _ t ht]
theorem nf {b : Bool} (h : (!b) = false) : b = true := by simpa using h
theorem nt {b : Bool} (h : (!b) = true) : b = false := by simpa using h
/-- partition's invariant: the pivot lies at a. -/
def PI (lt : Int → Int → Bool) (a b : Nat) (v : Int) (d0 dk : Array Int) (i j : Int) : Prop :=
  PermIn a b d0 dk ∧ b ≤ d0.size ∧ (a : Int) + 1 ≤ i ∧ i ≤ j + 1 ∧ j < b ∧ (∀ t : Nat, a < t → (t : Int) < i → lt dk[t]! dk[a]! = true) ∧ (∀ t : Nat, j < (t : Int) → t < b → lt dk[t]! dk[a]! = false) ∧ dk[a]! = v
theorem PI.bds {a b : Nat} {v : Int} {d0 dk : Array Int} {i j : Int} (h : PI lt a b v d0 dk i j) : (a : Int) + 1 ≤ i ∧ i ≤ j + 1 ∧ j < b := ⟨h.2.2.1, h.2.2.2.1, h.2.2.2.2.1⟩
theorem PI.start {a b : Nat} {v : Int} {d0 dk : Array Int} (hP : PermIn a b d0 dk) (hb : b ≤ d0.size) (hab : a < b) (hv : dk[a]! = v) : PI lt a b v d0 dk ((a : Int) + 1) ((b : Int) - 1) :=
  ⟨hP, hb, by omega, by omega, by omega, fun t h1 h2 => by omega, fun t h1 h2 => by omega, hv⟩
theorem PI.up {a b : Nat} {v : Int} {d0 dk : Array Int} {i j : Int} (h : PI lt a b v d0 dk i j) (hij : i ≤ j) (hl : lt dk[i.toNat]! dk[a]! = true) : PI lt a b v d0 dk (i + 1) j := by
  obtain ⟨h1, h2, h3, h4, h5, h6, h7, h8⟩ := h
  refine ⟨h1, h2, by omega, by omega, h5, fun t ht ht' => ?_, h7, h8⟩
  by_cases e : (t : Int) < i
  · exact h6 t ht e
  · rwa [show i.toNat = t by omega] at hl
theorem PI.down {a b : Nat} {v : Int} {d0 dk : Array Int} {i j : Int} (h : PI lt a b v d0 dk i j) (hij : i ≤ j) (hl : lt dk[j.toNat]! dk[a]! = false) : PI lt a b v d0 dk i (j - 1) := by
  obtain ⟨h1, h2, h3, h4, h5, h6, h7, h8⟩ := h
  refine ⟨h1, h2, by omega, by omega, by omega, h6, fun t ht ht' => ?_, h8⟩
  by_cases e : j < (t : Int)
  · exact h7 t e ht'
  · rwa [show j.toNat = t by omega] at hl
theorem PI.swap {a b : Nat} {v : Int} {d0 dk : Array Int} {i j : Int} (h : PI lt a b v d0 dk i j) (hij : i ≤ j) (hl : lt dk[i.toNat]! dk[a]! = false) (hl2 : lt dk[j.toNat]! dk[a]! = true) : PI lt a b v d0 (swp dk i.toNat j.toNat) (i + 1) (j - 1) := by
  obtain ⟨h1, h2, h3, h4, h5, h6, h7, h8⟩ := h
  have hs : dk.size = d0.size := h1.1
  have hne : i ≠ j := fun e => by rw [e, hl2] at hl; cases hl
  have ea : (swp dk i.toNat j.toNat)[a]! = dk[a]! := by rw [swp_get _ _ _ _ (by omega) (by omega), if_neg (by omega), if_neg (by omega)]
  refine ⟨permIn_trans _ _ _ a b h1 (swp_permIn _ _ _ _ _ (by omega) (by omega) (by omega) (by omega) (by omega)), h2, by omega, by omega, by omega, fun t ht ht' => ?_, fun t ht ht' => ?_, ea.trans h8⟩
  · rw [ea, swp_get _ _ _ _ (by omega) (by omega), if_neg (by omega)]
    split
    · exact hl2
    · exact h6 t ht (by omega)
  · rw [ea, swp_get _ _ _ _ (by omega) (by omega)]
    split
    · exact hl
    · rw [if_neg (by omega)]
      exact h7 t (by omega) ht'
theorem PI.done {a b : Nat} {v : Int} {d0 dk : Array Int} {i j : Int} (h : PI lt a b v d0 dk i j) (hij : j < i) : PermIn a b d0 (swp dk j.toNat a) ∧ (a : Int) ≤ j ∧ j < b ∧
    (∀ t, a ≤ t → t < j.toNat → lt (swp dk j.toNat a)[t]! (swp dk j.toNat a)[j.toNat]! = true) ∧ (∀ t, j.toNat < t → t < b → lt (swp dk j.toNat a)[t]! (swp dk j.toNat a)[j.toNat]! = false) := by
  obtain ⟨h1, h2, h3, h4, h5, h6, h7, h8⟩ := h
  have hs : dk.size = d0.size := h1.1
  have ej : (swp dk j.toNat a)[j.toNat]! = dk[a]! := by
    rw [swp_get _ _ _ _ (by omega) (by omega)]
    split
    · rename_i e; rw [e]
    · rw [if_pos rfl]
  refine ⟨permIn_trans _ _ _ a b h1 (swp_permIn _ _ _ _ _ (by omega) (by omega) (by omega) (by omega) (by omega)), by omega, by omega, fun t ht ht' => ?_, fun t ht ht' => ?_⟩
  · rw [ej, swp_get _ _ _ _ (by omega) (by omega)]
    split
    · exact h6 _ (by omega) (by omega)
    · rw [if_neg (by omega)]
      exact h6 t (by omega) (by omega)
  · rw [ej, swp_get _ _ _ _ (by omega) (by omega), if_neg (by omega), if_neg (by omega)]
    exact h7 t (by omega) ht'
end Go.Proofs.YbulkblsgFmt

import Derived.Test.YbulkblsgFmtSd
namespace Go.Proofs.YbulkblsgFmt
open Go.RowKit Go.Sort
set_option linter.unusedVariables false
set_option linter.unusedSimpArgs false
variable {H : Nat} {rv : Value} {N : Nat} {lt : Int → Int → Bool} {S : Array Int → World → Prop}
set_option maxHeartbeats 8000000 in
set_option maxRecDepth 100000 in
theorem parteq_any (X : Srt H rv N lt S) (a b p : Nat) (d : Array Int) (w : World) (hS : S d w) (hap : a ≤ p) (hpb : p < b) (hb : b ≤ N) :
    Calls Ybaf.prog 51 #[.iface 83 rv, .int .i64 (a : Nat), .int .i64 (b : Nat), .int .i64 (p : Nat)] w fun e w' => ∃ (m : Nat), e = .returned (.int .i64 (m : Nat)) ∧ ∃ d' : Array Int, S d' w' ∧ PermIn a b d d' ∧ a < m ∧ m ≤ b ∧ d'[a]! = d[p]! ∧
      (∀ i, a < i → i < m → lt d'[a]! d'[i]! = false) ∧ (∀ i, m ≤ i → i < b → lt d'[a]! d'[i]! = true) := by
  have hsz := X.small
  have mL := X.mless; have mS := X.mswap
  have eL := e103; have eS := e104
  have hds := X.size d w hS
  obtain ⟨ltE, hE⟩ : ∃ f : Int → Int → Bool, ∀ x y, f x y = !lt y x := ⟨_, fun _ _ => rfl⟩
  have hv : (swp d a p)[a]! = d[p]! := by
    rw [swp_get _ _ _ _ (by omega) (by omega)]
    split
    · rename_i e; rw [e]
    · rw [if_pos rfl]
  have hP0 : PI ltE a b d[p]! d (swp d a p) ((a : Int) + 1) ((b : Int) - 1) := PI.start (swp_permIn _ _ _ _ _ (by omega) (by omega) (by omega) (by omega) (by omega)) (by omega) (by omega) hv
  clear hv
  revert hP0
  generalize hd1 : swp d a p = d1
  generalize d[p]! = v
  intro hP0
  go_enter Ybaf.func51, Ybaf.ntmps51
  go_wp2_with (first
      | (refine (X.swapI d _ _ _ (by assumption) (by omega) (by omega) (by omega) (by omega)).mono ?_; rintro e w2 ⟨rfl, h2, -⟩; replace h2 := h2 a p rfl rfl; rw [hd1] at h2))
  clear hS hd1
  go_loopw [9, 10] (fun vi vj wr => ∃ (i j : Int) (dk : Array Int), vi = .int .i64 i ∧ vj = .int .i64 j ∧ PI ltE a b v d dk i j ∧ S dk wr) (fun vi vj _ => (intOf vj + 1 - intOf vi).toNat)
  case atStart => exact ⟨_, _, d1, rfl, rfl, hP0, h2⟩
  case round =>
    clear h2 hP0
    obtain ⟨i3, j3, dk, rfl, rfl, hP4, hS4⟩ := hrel
    have B4 := hP4.bds
    go_wp2
    go_loopw [9] (fun vi wr => ∃ i : Int, vi = .int .i64 i ∧ PI ltE a b v d dk i j3 ∧ S dk wr ∧ i3 ≤ i) (fun vi _ => (b - intOf vi).toNat)
    case atStart => exact ⟨_, rfl, hP4, hS4, by omega⟩
    case round =>
      clear hS4
      obtain ⟨i4, rfl, hP5, hS5, hi4⟩ := hrel
      have B5 := hP5.bds
      go_wp2_with (first
        | (refine (X.lessI dk _ _ _ (by assumption) (by omega) (by omega) (by omega) (by omega)).mono ?_; rintro e w6 ⟨rfl, h6, -⟩))
      · exact ⟨⟨_, rfl, hP5.up (by assumption) (by rw [hE]; assumption), h6, by omega⟩, by simp [intOf]; omega⟩
      · have hy : Hid (i4 ≤ j3 → ltE dk[i4.toNat]! dk[a]! = false) := fun _ => by rw [hE]; assumption
        rename (!lt dk[a]! dk[i4.toNat]!) = false => hc1
        rename i4 ≤ j3 => hc2
        clear hc1 hc2
        go_loopw [10] (fun vj wr => ∃ j : Int, vj = .int .i64 j ∧ PI ltE a b v d dk i4 j ∧ S dk wr ∧ j ≤ j3) (fun vj _ => (intOf vj + 1).toNat)
        case atStart => exact ⟨_, rfl, hP5, by assumption, by omega⟩
        case round =>
          clear hS5
          obtain ⟨j4, rfl, hP6, hS6, hj4⟩ := hrel
          have B6 := hP6.bds
          go_wp2_with (first
            | (refine (X.lessI dk _ _ _ (by assumption) (by omega) (by omega) (by omega) (by omega)).mono ?_; rintro e w7 ⟨rfl, h7, -⟩)
            | (refine (X.swapI dk _ _ _ (by assumption) (by omega) (by omega) (by omega) (by omega)).mono ?_; rintro e w8 ⟨rfl, h8, -⟩))
          · rename lt dk[a]! dk[j4.toNat]! = true => q1
            exact ⟨⟨_, rfl, hP6.down (by assumption) (by rw [hE, q1]; rfl), h7, by omega⟩, by simp [intOf]; omega⟩
          · rename lt dk[a]! dk[j4.toNat]! = false => q1
            rename i4 ≤ j4 => q2
            exact ⟨⟨_, _, _, rfl, rfl, hP6.swap q2 (hy.out (Int.le_trans q2 (by omega))) (by rw [hE, q1]; rfl), h8 i4.toNat j4.toNat (by omega) (by omega)⟩, by simp [intOf]; omega⟩
          · go_ret
            rename j4 < i4 => q1
            obtain ⟨e1, -, -, -, -, e2, e3, e4⟩ := hP6
            exact ⟨i4.toNat, by rw [Int.toNat_of_nonneg (by omega)]; rfl, dk, by assumption, e1, by omega, by omega, e4, fun t h1 h2 => nt (by have := e2 t h1 (by omega); rwa [hE] at this), fun t h1 h2 => nf (by have := e3 t (by omega) h2; rwa [hE] at this)⟩
      · have hy : Hid (i4 ≤ j3 → ltE dk[i4.toNat]! dk[a]! = false) := fun _ => by omega
        go_loopw [10] (fun vj wr => ∃ j : Int, vj = .int .i64 j ∧ PI ltE a b v d dk i4 j ∧ S dk wr ∧ j ≤ j3) (fun vj _ => (intOf vj + 1).toNat)
        case atStart => exact ⟨_, rfl, hP5, by assumption, by omega⟩
        case round =>
          clear hS5
          obtain ⟨j4, rfl, hP6, hS6, hj4⟩ := hrel
          have B6 := hP6.bds
          go_wp2_with (first
            | (refine (X.lessI dk _ _ _ (by assumption) (by omega) (by omega) (by omega) (by omega)).mono ?_; rintro e w7 ⟨rfl, h7, -⟩)
            | (refine (X.swapI dk _ _ _ (by assumption) (by omega) (by omega) (by omega) (by omega)).mono ?_; rintro e w8 ⟨rfl, h8, -⟩))
          · go_ret
            rename j4 < i4 => q1
            obtain ⟨e1, -, -, -, -, e2, e3, e4⟩ := hP6
            exact ⟨i4.toNat, by rw [Int.toNat_of_nonneg (by omega)]; rfl, dk, by assumption, e1, by omega, by omega, e4, fun t h1 h2 => nt (by have := e2 t h1 (by omega); rwa [hE] at this), fun t h1 h2 => nf (by have := e3 t (by omega) h2; rwa [hE] at this)⟩
end Go.Proofs.YbulkblsgFmt

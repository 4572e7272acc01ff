import Derived.Test.YbulkblsgFmtSd
namespace Go.Proofs.YbulkblsgFmt
open Go.RowKit Go.Sort
set_option linter.unusedVariables false
set_option linter.unusedSimpArgs false
variable {H : Nat} {rv : Value} {N : Nat} {lt : Int → Int → Bool} {S : Array Int → World → Prop}
set_option maxHeartbeats 8000000 in
set_option maxRecDepth 100000 in
theorem part_any (X : Srt H rv N lt S) (a b p : Nat) (d : Array Int) (w : World) (hS : S d w) (hap : a ≤ p) (hpb : p < b) (hb : b ≤ N) :
    Calls Ybaf.prog 52 #[.iface 83 rv, .int .i64 (a : Nat), .int .i64 (b : Nat), .int .i64 (p : Nat)] w fun e w' => ∃ (m : Nat) (q : Bool), e = .returned (.tuple #[.int .i64 (m : Nat), .bool q]) ∧ ∃ (d' : Array Int), S d' w' ∧ PermIn a b d d' ∧ a ≤ m ∧ m < b ∧
      (∀ i, a ≤ i → i < m → lt d'[i]! d'[m]! = true) ∧ (∀ i, m < i → i < b → lt d'[i]! d'[m]! = false) := by
  have hsz := X.small
  have mL := X.mless; have mS := X.mswap
  have eL := e103; have eS := e104
  have hds := X.size d w hS
  have hP0 : PI lt a b (swp d a p)[a]! d (swp d a p) ((a : Int) + 1) ((b : Int) - 1) := PI.start (swp_permIn _ _ _ _ _ (by omega) (by omega) (by omega) (by omega) (by omega)) (by omega) (by omega) rfl
  revert hP0
  generalize hd1 : swp d a p = d1
  generalize d1[a]! = v
  intro hP0
  go_enter Ybaf.func52, Ybaf.ntmps52
  go_wp2_with (first
      | (refine (X.swapI d _ _ _ (by assumption) (by omega) (by omega) (by omega) (by omega)).mono ?_; rintro e w2 ⟨rfl, h2, -⟩; replace h2 := h2 a p rfl rfl; rw [hd1] at h2))
  clear hS hd1
  go_loopw [10] (fun vi wr => ∃ i : Int, vi = .int .i64 i ∧ PI lt a b v d d1 i ((b : Int) - 1) ∧ S d1 wr) (fun vi _ => (b - intOf vi).toNat)
  case atStart => exact ⟨_, rfl, hP0, h2⟩
  case round =>
    clear h2 hP0
    obtain ⟨i, rfl, hP1, hS1⟩ := hrel
    have B1 := hP1.bds
    go_wp2_with (first
      | (refine (X.lessI d1 _ _ _ (by assumption) (by omega) (by omega) (by omega) (by omega)).mono ?_; rintro e w3 ⟨rfl, h3, -⟩))
    · exact ⟨⟨_, rfl, hP1.up (by assumption) (by assumption), h3⟩, by simp [intOf]; omega⟩
    · have hx : Hid (i ≤ (b : Int) - 1 → lt d1[i.toNat]! d1[a]! = false) := fun _ => by assumption
      rename lt d1[i.toNat]! d1[a]! = false => hc1
      rename i ≤ (b : Int) - 1 => hc2
      clear hc1 hc2
      go_loopw [11] (fun vj wr => ∃ j : Int, vj = .int .i64 j ∧ PI lt a b v d d1 i j ∧ S d1 wr) (fun vj _ => (intOf vj + 1).toNat)
      case atStart => exact ⟨_, rfl, hP1, by assumption⟩
      case round =>
        clear hS1
        obtain ⟨j, rfl, hP2, hS2⟩ := hrel
        have B2 := hP2.bds
        go_wp2_with (first
          | (refine (X.lessI d1 _ _ _ (by assumption) (by omega) (by omega) (by omega) (by omega)).mono ?_; rintro e w4 ⟨rfl, h4, -⟩)
          | (refine (X.swapI d1 _ _ _ (by assumption) (by omega) (by omega) (by omega) (by omega)).mono ?_; rintro e w5 ⟨rfl, h5, -⟩))
        · exact ⟨⟨_, rfl, hP2.down (by assumption) (nt (by assumption)), h4⟩, by simp [intOf]; omega⟩
        · rename (!lt d1[j.toNat]! d1[a]!) = false => q1
          rename i ≤ j => q2
          have hP3 : PI lt a b v d (swp d1 i.toNat j.toNat) (i + 1) (j - 1) := hP2.swap q2 (hx.out (Int.le_trans q2 (by omega))) (nf q1)
          replace h5 := h5 i.toNat j.toNat (by omega) (by omega)
          revert hP3 h5
          generalize swp d1 i.toNat j.toNat = d2
          intro hP3 h5
          have B3 := hP3.bds
          clear hP2 hP1 B1 q1 q2
          rename i ≤ j => q3
          clear q3
          go_loopw [10, 11] (fun vi vj wr => ∃ (i j : Int) (dk : Array Int), vi = .int .i64 i ∧ vj = .int .i64 j ∧ PI lt a b v d dk i j ∧ S dk wr) (fun vi vj _ => (intOf vj + 1 - intOf vi).toNat)
          case atStart => exact ⟨_, _, d2, rfl, rfl, hP3, h5⟩
          case round =>
            clear h4 h5 hP3 hS2 h3
            obtain ⟨i3, j3, dk, rfl, rfl, hP4, hS4⟩ := hrel
            have B4 := hP4.bds
            go_wp2
            go_loopw [10] (fun vi wr => ∃ i : Int, vi = .int .i64 i ∧ PI lt a b v d dk i j3 ∧ S dk wr ∧ i3 ≤ i) (fun vi _ => (b - intOf vi).toNat)
            case atStart => exact ⟨_, rfl, hP4, hS4, by omega⟩
            case round =>
              clear hS4
              obtain ⟨i4, rfl, hP5, hS5, hi4⟩ := hrel
              have B5 := hP5.bds
              go_wp2_with (first
                | (refine (X.lessI dk _ _ _ (by assumption) (by omega) (by omega) (by omega) (by omega)).mono ?_; rintro e w6 ⟨rfl, h6, -⟩))
              · exact ⟨⟨_, rfl, hP5.up (by assumption) (by assumption), h6, by omega⟩, by simp [intOf]; omega⟩
              · have hy : Hid (i4 ≤ j3 → lt dk[i4.toNat]! dk[a]! = false) := fun _ => by assumption
                rename lt dk[i4.toNat]! dk[a]! = false => hc1
                rename i4 ≤ j3 => hc2
                clear hc1 hc2
                go_loopw [11] (fun vj wr => ∃ j : Int, vj = .int .i64 j ∧ PI lt a b v d dk i4 j ∧ S dk wr ∧ j ≤ j3) (fun vj _ => (intOf vj + 1).toNat)
                case atStart => exact ⟨_, rfl, hP5, by assumption, by omega⟩
                case round =>
                  clear hS5
                  obtain ⟨j4, rfl, hP6, hS6, hj4⟩ := hrel
                  have B6 := hP6.bds
                  go_wp2_with (first
                    | (refine (X.lessI dk _ _ _ (by assumption) (by omega) (by omega) (by omega) (by omega)).mono ?_; rintro e w7 ⟨rfl, h7, -⟩)
                    | (refine (X.swapI dk _ _ _ (by assumption) (by omega) (by omega) (by omega) (by omega)).mono ?_; rintro e w8 ⟨rfl, h8, -⟩))
                  · exact ⟨⟨_, rfl, hP6.down (by assumption) (nt (by assumption)), h7, by omega⟩, by simp [intOf]; omega⟩
                  · rename (!lt dk[j4.toNat]! dk[a]!) = false => q1
                    rename i4 ≤ j4 => q2
                    exact ⟨⟨_, _, _, rfl, rfl, hP6.swap q2 (hy.out (Int.le_trans q2 (by omega))) (nf q1), h8 i4.toNat j4.toNat (by omega) (by omega)⟩, by simp [intOf]; omega⟩
                  · go_ret2
                    obtain ⟨e1, e2, e3, e4, e5⟩ := hP6.done (by assumption)
                    exact ⟨j4.toNat, false, by rw [Int.toNat_of_nonneg (by omega)]; rfl, _, h8 j4.toNat a (by omega) rfl, e1, by omega, by omega, e4, e5⟩
              · have hy : Hid (i4 ≤ j3 → lt dk[i4.toNat]! dk[a]! = false) := fun _ => by omega
                go_loopw [11] (fun vj wr => ∃ j : Int, vj = .int .i64 j ∧ PI lt a b v d dk i4 j ∧ S dk wr ∧ j ≤ j3) (fun vj _ => (intOf vj + 1).toNat)
                case atStart => exact ⟨_, rfl, hP5, by assumption, by omega⟩
                case round =>
                  clear hS5
                  obtain ⟨j4, rfl, hP6, hS6, hj4⟩ := hrel
                  have B6 := hP6.bds
                  go_wp2_with (first
                    | (refine (X.lessI dk _ _ _ (by assumption) (by omega) (by omega) (by omega) (by omega)).mono ?_; rintro e w7 ⟨rfl, h7, -⟩)
                    | (refine (X.swapI dk _ _ _ (by assumption) (by omega) (by omega) (by omega) (by omega)).mono ?_; rintro e w8 ⟨rfl, h8, -⟩))
                  · go_ret2
                    obtain ⟨e1, e2, e3, e4, e5⟩ := hP6.done (by assumption)
                    exact ⟨j4.toNat, false, by rw [Int.toNat_of_nonneg (by omega)]; rfl, _, h8 j4.toNat a (by omega) rfl, e1, by omega, by omega, e4, e5⟩
        · go_ret2
          obtain ⟨e1, e2, e3, e4, e5⟩ := hP2.done (by assumption)
          exact ⟨j.toNat, true, by rw [Int.toNat_of_nonneg (by omega)]; rfl, _, h5 j.toNat a (by omega) rfl, e1, by omega, by omega, e4, e5⟩
    · have hx : Hid (i ≤ (b : Int) - 1 → lt d1[i.toNat]! d1[a]! = false) := fun _ => by omega
      go_loopw [11] (fun vj wr => ∃ j : Int, vj = .int .i64 j ∧ PI lt a b v d d1 i j ∧ S d1 wr) (fun vj _ => (intOf vj + 1).toNat)
      case atStart => exact ⟨_, rfl, hP1, by assumption⟩
      case round =>
        clear hS1
        obtain ⟨j, rfl, hP2, hS2⟩ := hrel
        have B2 := hP2.bds
        go_wp2_with (first
          | (refine (X.lessI d1 _ _ _ (by assumption) (by omega) (by omega) (by omega) (by omega)).mono ?_; rintro e w4 ⟨rfl, h4, -⟩)
          | (refine (X.swapI d1 _ _ _ (by assumption) (by omega) (by omega) (by omega) (by omega)).mono ?_; rintro e w5 ⟨rfl, h5, -⟩))
        · go_ret2
          obtain ⟨e1, e2, e3, e4, e5⟩ := hP2.done (by assumption)
          exact ⟨j.toNat, true, by rw [Int.toNat_of_nonneg (by omega)]; rfl, _, h5 j.toNat a (by omega) rfl, e1, by omega, by omega, e4, e5⟩
end Go.Proofs.YbulkblsgFmt

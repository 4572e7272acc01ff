import Derived.Test.YbulkblsgFmtSd
namespace Go.Proofs.YbulkblsgFmt
open Go.RowKit Go.Sort
set_option linter.unusedVariables false
set_option linter.unusedSimpArgs false
variable {H : Nat} {rv : Value} {N : Nat} {lt : Int → Int → Bool} {S : Array Int → World → Prop}
/-- partialInsertionSort's invariant: [a, i) is sorted. -/
def PS (lt : Int → Int → Bool) (a b : Nat) (d0 dk : Array Int) (i : Int) : Prop := PermIn a b d0 dk ∧ b ≤ d0.size ∧ Sort.Below lt a b dk ∧ SortedIn lt a i.toNat dk ∧ (a : Int) + 1 ≤ i ∧ i ≤ b
theorem PS.bds {a b : Nat} {d0 dk : Array Int} {i : Int} (h : PS lt a b d0 dk i) : (a : Int) + 1 ≤ i ∧ i ≤ b := ⟨h.2.2.2.2.1, h.2.2.2.2.2⟩
theorem PS.up (hO : SWO lt) {a b : Nat} {d0 dk : Array Int} {i : Int} (h : PS lt a b d0 dk i) (hi : i < b) (hl : lt dk[i.toNat]! dk[i.toNat - 1]! = false) : PS lt a b d0 dk (i + 1) := by
  obtain ⟨h1, h2, h3, h4, h5, h6⟩ := h
  refine ⟨h1, h2, h3, fun s t hs hst ht => ?_, by omega, by omega⟩
  by_cases e : t < i.toNat
  · exact h4 s t hs hst e
  · rw [show t = i.toNat by omega]
    by_cases e2 : s = i.toNat - 1
    · rw [e2]; exact hl
    · exact hO.ntrans _ _ _ hl (h4 s (i.toNat - 1) hs (by omega) (by omega))
theorem PS.right {a b : Nat} {d0 dk : Array Int} {i : Int} (h : PS lt a b d0 dk i) (j : Nat) (hij : i < j) (hj : j < b) : PS lt a b d0 (swp dk j (j - 1)) i := by
  obtain ⟨h1, h2, h3, h4, h5, h6⟩ := h
  have hs : dk.size = d0.size := h1.1
  have hP : PermIn a b dk (swp dk j (j - 1)) := swp_permIn _ _ _ _ _ (by omega) (by omega) (by omega) (by omega) (by omega)
  refine ⟨permIn_trans _ _ _ a b h1 hP, h2, h3.perm (by omega) hP, fun s t hs' hst ht => ?_, h5, h6⟩
  rw [swp_get _ _ _ _ (by omega) (by omega), if_neg (by omega), if_neg (by omega), swp_get _ _ _ _ (by omega) (by omega), if_neg (by omega), if_neg (by omega)]
  exact h4 s t hs' hst ht
/-- .. but for the element at j. -/
def PJ (lt : Int → Int → Bool) (a b : Nat) (i : Int) (d0 dj : Array Int) (j : Int) : Prop := PermIn a b d0 dj ∧ b ≤ d0.size ∧ Sort.Below lt a b dj ∧ (a : Int) ≤ j ∧ j < i ∧ i ≤ b ∧
  (∀ s t : Nat, a ≤ s → s < t → (t : Int) < i → (s : Int) ≠ j → (t : Int) ≠ j → lt dj[t]! dj[s]! = false) ∧ (∀ t : Nat, j < (t : Int) → (t : Int) < i → lt dj[t]! dj[j.toNat]! = false)
theorem PJ.bds {a b : Nat} {i : Int} {d0 dj : Array Int} {j : Int} (h : PJ lt a b i d0 dj j) : (a : Int) ≤ j ∧ j < i ∧ i ≤ b := ⟨h.2.2.2.1, h.2.2.2.2.1, h.2.2.2.2.2.1⟩
theorem PJ.start {a b : Nat} {d0 dk : Array Int} {i : Int} (h : PS lt a b d0 dk i) (hi : i < b) : PJ lt a b i d0 (swp dk i.toNat (i.toNat - 1)) (i - 1) := by
  obtain ⟨h1, h2, h3, h4, h5, h6⟩ := h
  have hs : dk.size = d0.size := h1.1
  have hP : PermIn a b dk (swp dk i.toNat (i.toNat - 1)) := swp_permIn _ _ _ _ _ (by omega) (by omega) (by omega) (by omega) (by omega)
  refine ⟨permIn_trans _ _ _ a b h1 hP, h2, h3.perm (by omega) hP, by omega, by omega, by omega, fun s t a1 a2 a3 a4 a5 => ?_, fun t a1 a2 => by omega⟩
  rw [swp_get _ _ _ _ (by omega) (by omega), if_neg (by omega), if_neg (by omega), swp_get _ _ _ _ (by omega) (by omega), if_neg (by omega), if_neg (by omega)]
  exact h4 s t a1 a2 (by omega)
theorem PJ.low {a b : Nat} {i : Int} {d0 dj : Array Int} {j : Int} (h : PJ lt a b i d0 dj j) (hj : 1 ≤ j) (hl : lt dj[j.toNat]! dj[j.toNat - 1]! = true) : (a : Int) < j := by
  obtain ⟨h1, h2, h3, h4, h5, h6, h7, h8⟩ := h
  by_cases e : (a : Int) < j
  · exact e
  · exfalso
    rcases h3 with h3 | h3
    · omega
    · have := h3 j.toNat (by omega) (by omega)
      rw [show a - 1 = j.toNat - 1 by omega, hl] at this
      cases this
theorem PJ.step (hO : SWO lt) {a b : Nat} {i : Int} {d0 dj : Array Int} {j : Int} (h : PJ lt a b i d0 dj j) (hj : 1 ≤ j) (hl : lt dj[j.toNat]! dj[j.toNat - 1]! = true) : PJ lt a b i d0 (swp dj j.toNat (j.toNat - 1)) (j - 1) := by
  have ha := h.low hj hl
  obtain ⟨h1, h2, h3, h4, h5, h6, h7, h8⟩ := h
  have hs : dj.size = d0.size := h1.1
  have hP : PermIn a b dj (swp dj j.toNat (j.toNat - 1)) := swp_permIn _ _ _ _ _ (by omega) (by omega) (by omega) (by omega) (by omega)
  have g : ∀ t, (swp dj j.toNat (j.toNat - 1))[t]! = if t = j.toNat - 1 then dj[j.toNat]! else if t = j.toNat then dj[j.toNat - 1]! else dj[t]! := fun t => swp_get _ _ _ _ (by omega) (by omega)
  refine ⟨permIn_trans _ _ _ a b h1 hP, h2, h3.perm (by omega) hP, by omega, by omega, by omega, fun s t a1 a2 a3 a4 a5 => ?_, fun t a1 a2 => ?_⟩
  · have et : ¬ t = j.toNat - 1 := by omega
    have es : ¬ s = j.toNat - 1 := by omega
    rw [g t, g s, if_neg et, if_neg es]
    by_cases e : t = j.toNat
    · have es2 : ¬ s = j.toNat := by omega
      rw [if_pos e, if_neg es2]
      exact h7 s (j.toNat - 1) a1 (by omega) (by omega) (by omega) (by omega)
    · rw [if_neg e]
      by_cases e2 : s = j.toNat
      · rw [if_pos e2]
        exact h7 (j.toNat - 1) t (by omega) (by omega) (by omega) (by omega) (by omega)
      · rw [if_neg e2]
        exact h7 s t a1 a2 a3 (by omega) (by omega)
  · rw [show (j - 1).toNat = j.toNat - 1 by omega, g t, g (j.toNat - 1), if_neg (by omega), if_pos rfl]
    by_cases e : t = j.toNat
    · rw [if_pos e]
      cases e3 : lt dj[j.toNat - 1]! dj[j.toNat]! with
      | false => rfl
      | true => have := hO.trans _ _ _ e3 hl; rw [hO.irrefl] at this; cases this
    · rw [if_neg e]
      exact h8 t (by omega) a2
theorem PJ.done (hO : SWO lt) {a b : Nat} {i : Int} {d0 dj : Array Int} {j : Int} (h : PJ lt a b i d0 dj j) (hl : j < 1 ∨ lt dj[j.toNat]! dj[j.toNat - 1]! = false) : PS lt a b d0 dj i := by
  obtain ⟨h1, h2, h3, h4, h5, h6, h7, h8⟩ := h
  refine ⟨h1, h2, h3, fun s t a1 a2 a3 => ?_, by omega, by omega⟩
  by_cases e : (t : Int) = j
  · rcases hl with hl | hl
    · omega
    · rw [show t = j.toNat by omega]
      by_cases e2 : s = j.toNat - 1
      · rw [e2]; exact hl
      · exact hO.ntrans _ _ _ hl (h7 s (j.toNat - 1) a1 (by omega) (by omega) (by omega) (by omega))
  · by_cases e2 : (s : Int) = j
    · have := h8 t (by omega) (by omega)
      rwa [show j.toNat = s by omega] at this
    · exact h7 s t a1 a2 (by omega) e2 e
set_option maxHeartbeats 8000000 in
set_option maxRecDepth 100000 in
theorem pis_any (X : Srt H rv N lt S) (hO : SWO lt) (a b : Nat) (d : Array Int) (w : World) (hS : S d w) (hab : a < b) (hb : b ≤ N) (hB : Sort.Below lt a b d) :
    Calls Ybaf.prog 50 #[.iface 83 rv, .int .i64 (a : Nat), .int .i64 (b : Nat)] w fun e w' => ∃ (q : Bool), e = .returned (.bool q) ∧ ∃ (d' : Array Int), S d' w' ∧ PermIn a b d d' ∧ (q = true → SortedIn lt a b d') := by
  have hsz := X.small
  have mL := X.mless; have mS := X.mswap
  have eL := e103; have eS := e104
  have hds := X.size d w hS
  have hP0 : PS lt a b d d ((a : Int) + 1) := ⟨permIn_refl _ _ _, by omega, hB, fun s t a1 a2 a3 => by omega, by omega, by omega⟩
  clear hB
  have HO : Hid (SWO lt) := hO
  clear hO
  go_enter Ybaf.func50, Ybaf.ntmps50
  go_wp2
  go_loopw [7, 8] (fun vi vc wr => ∃ (i c : Int) (dk : Array Int), vi = .int .i64 i ∧ vc = .int .i64 c ∧ c ≤ 5 ∧ 0 ≤ c ∧ PS lt a b d dk i ∧ S dk wr) (fun _ vc _ => (5 - intOf vc).toNat)
  case atStart => exact ⟨_, _, d, rfl, rfl, by omega, by omega, hP0, hS⟩
  case round =>
    clear hS hP0
    obtain ⟨i0, c, dk, rfl, rfl, hc5, hc0, hP1, hS1⟩ := hrel
    have B1 := hP1.bds
    go_wp2
    · rename c < 5 => q0
      have hc : Hid (c < 5) := q0
      clear q0
      go_loopw [7] (fun vi wr => ∃ i : Int, vi = .int .i64 i ∧ PS lt a b d dk i ∧ S dk wr) (fun vi _ => (b - intOf vi).toNat)
      case atStart => exact ⟨_, rfl, hP1, hS1⟩
      case round =>
        clear hS1 hP1
        obtain ⟨i, rfl, hP2, hS2⟩ := hrel
        have B2 := hP2.bds
        go_wp2_with (first
          | (refine (X.lessI dk _ _ _ (by assumption) (by omega) (by omega) (by omega) (by omega)).mono ?_; rintro e w6 ⟨rfl, h6, -⟩)
          | (refine (X.swapI dk _ _ _ (by assumption) (by omega) (by omega) (by omega) (by omega)).mono ?_; rintro e w8 ⟨rfl, h8, -⟩))
        · exact ⟨⟨_, rfl, hP2.up HO.out (by assumption) (nt (by assumption)), h6⟩, by simp [intOf]; omega⟩
        · go_ret
          exact ⟨false, rfl, dk, h6, hP2.1, fun h => by cases h⟩
        · rename i < (b : Int) => r1
          rename (!lt dk[i.toNat]! dk[i.toNat - 1]!) = false => r2
          rename (i == (b : Int)) = false => r3
          rename (50 : Int) ≤ (b : Int) - a => r4
          rename (2 : Int) ≤ i - a => r5
          have hJ := PJ.start hP2 r1
          have hSJ := h8 i.toNat (i.toNat - 1) (by omega) (by omega)
          have hib : Hid (i < (b : Int)) := r1
          clear r1 r2 r3 r4 r5 hP2 h6 h8 hS2
          go_loopw [9] (fun vj wr => ∃ (j : Int) (dj : Array Int), vj = .int .i64 j ∧ PJ lt a b i d dj j ∧ S dj wr) (fun vj _ => (intOf vj + 1).toNat)
          case atStart => exact ⟨_, _, rfl, hJ, hSJ⟩
          case round =>
            clear hSJ hJ
            obtain ⟨j, dj, rfl, hP3, hS3⟩ := hrel
            have B3 := hP3.bds
            go_wp2_with (first
              | (refine (X.lessI dj _ _ _ (by assumption) (by omega) (by omega) (by omega) (by omega)).mono ?_; rintro e w6 ⟨rfl, h6, -⟩)
              | (refine (X.swapI dj _ _ _ (by assumption) (by omega) (by omega) (by omega) (by omega)).mono ?_; rintro e w8 ⟨rfl, h8, -⟩))
            · rename (2 : Int) ≤ (b : Int) - i => q1
              rename 1 ≤ j => r1
              rename (!lt dj[j.toNat]! dj[j.toNat - 1]!) = true => r2
              have hR := hP3.done HO.out (Or.inr (nt r2))
              have hSR := h6
              have hib := hib.out
              clear q1 r1 r2 hP3 hS3 h6
              go_loopw [10] (fun vj wr => ∃ (j : Int) (dj : Array Int), vj = .int .i64 j ∧ i < j ∧ j ≤ b ∧ PS lt a b d dj i ∧ S dj wr) (fun vj _ => (b - intOf vj).toNat)
              case atStart => exact ⟨_, _, rfl, by omega, by omega, hR, hSR⟩
              case round =>
                clear hSR hR
                obtain ⟨j5, d5, rfl, hj5, hj5b, hP5, hS5⟩ := hrel
                have B5 := hP5.bds
                go_wp2_with (first
                  | (refine (X.lessI d5 _ _ _ (by assumption) (by omega) (by omega) (by omega) (by omega)).mono ?_; rintro e w6 ⟨rfl, h6, -⟩)
                  | (refine (X.swapI d5 _ _ _ (by assumption) (by omega) (by omega) (by omega) (by omega)).mono ?_; rintro e w8 ⟨rfl, h8, -⟩))
                · exact ⟨⟨_, _, _, rfl, rfl, by have := hc.out; omega, by omega, hP5, by assumption⟩, by have := hc.out; simp [intOf]; omega⟩
                · rename j5 < (b : Int) => q5
                  have q6 := hP5.right j5.toNat (by omega) (by omega)
                  exact ⟨⟨_, _, rfl, by omega, by omega, q6, h8 j5.toNat (j5.toNat - 1) (by omega) (by omega)⟩, by simp [intOf]; omega⟩
                · exact ⟨⟨_, _, _, rfl, rfl, by have := hc.out; omega, by omega, hP5, by assumption⟩, by have := hc.out; simp [intOf]; omega⟩
            · rename (b : Int) - i < 2 => q1
              rename 1 ≤ j => r1
              rename (!lt dj[j.toNat]! dj[j.toNat - 1]!) = true => r2
              exact ⟨⟨_, _, _, rfl, rfl, by have := hc.out; omega, by omega, hP3.done HO.out (Or.inr (nt r2)), by assumption⟩, by have := hc.out; simp [intOf]; omega⟩
            · rename (!lt dj[j.toNat]! dj[j.toNat - 1]!) = false => r2
              rename 1 ≤ j => r1
              exact ⟨⟨_, _, rfl, hP3.step HO.out r1 (nf r2), h8 j.toNat (j.toNat - 1) (by omega) (by omega)⟩, by simp [intOf]; omega⟩
            · rename (2 : Int) ≤ (b : Int) - i => q1
              rename j < 1 => r2
              have hR := hP3.done HO.out (Or.inl r2)
              have hSR := hS3
              have hib := hib.out
              clear q1 r2 hP3 hS3
              go_loopw [10] (fun vj wr => ∃ (j : Int) (dj : Array Int), vj = .int .i64 j ∧ i < j ∧ j ≤ b ∧ PS lt a b d dj i ∧ S dj wr) (fun vj _ => (b - intOf vj).toNat)
              case atStart => exact ⟨_, _, rfl, by omega, by omega, hR, hSR⟩
              case round =>
                clear hSR hR
                obtain ⟨j5, d5, rfl, hj5, hj5b, hP5, hS5⟩ := hrel
                have B5 := hP5.bds
                go_wp2_with (first
                  | (refine (X.lessI d5 _ _ _ (by assumption) (by omega) (by omega) (by omega) (by omega)).mono ?_; rintro e w6 ⟨rfl, h6, -⟩)
                  | (refine (X.swapI d5 _ _ _ (by assumption) (by omega) (by omega) (by omega) (by omega)).mono ?_; rintro e w8 ⟨rfl, h8, -⟩))
                · exact ⟨⟨_, _, _, rfl, rfl, by have := hc.out; omega, by omega, hP5, by assumption⟩, by have := hc.out; simp [intOf]; omega⟩
                · rename j5 < (b : Int) => q5
                  have q6 := hP5.right j5.toNat (by omega) (by omega)
                  exact ⟨⟨_, _, rfl, by omega, by omega, q6, h8 j5.toNat (j5.toNat - 1) (by omega) (by omega)⟩, by simp [intOf]; omega⟩
                · exact ⟨⟨_, _, _, rfl, rfl, by have := hc.out; omega, by omega, hP5, by assumption⟩, by have := hc.out; simp [intOf]; omega⟩
            · rename (b : Int) - i < 2 => q1
              rename j < 1 => r2
              exact ⟨⟨_, _, _, rfl, rfl, by have := hc.out; omega, by omega, hP3.done HO.out (Or.inl r2), by assumption⟩, by have := hc.out; simp [intOf]; omega⟩
        · rename i < (b : Int) => r1
          rename (!lt dk[i.toNat]! dk[i.toNat - 1]!) = false => r2
          rename (i == (b : Int)) = false => r3
          rename (50 : Int) ≤ (b : Int) - a => r4
          rename i - (a : Int) < 2 => r5
          rename (2 : Int) ≤ (b : Int) - i => r6
          have hR : PS lt a b d (swp dk i.toNat (i.toNat - 1)) i := by
            obtain ⟨g1, g2, g3, g4, g5, g6, g7, g8⟩ := PJ.start hP2 r1
            exact ⟨g1, g2, g3, fun s t a1 a2 a3 => by omega, by omega, by omega⟩
          have hSR := h8 i.toNat (i.toNat - 1) (by omega) (by omega)
          have hib : i < (b : Int) := r1
          clear r1 r2 r3 r4 r5 r6 hP2 h6 h8 hS2
          go_loopw [10] (fun vj wr => ∃ (j : Int) (dj : Array Int), vj = .int .i64 j ∧ i < j ∧ j ≤ b ∧ PS lt a b d dj i ∧ S dj wr) (fun vj _ => (b - intOf vj).toNat)
          case atStart => exact ⟨_, _, rfl, by omega, by omega, hR, hSR⟩
          case round =>
            clear hSR hR
            obtain ⟨j5, d5, rfl, hj5, hj5b, hP5, hS5⟩ := hrel
            have B5 := hP5.bds
            go_wp2_with (first
              | (refine (X.lessI d5 _ _ _ (by assumption) (by omega) (by omega) (by omega) (by omega)).mono ?_; rintro e w6 ⟨rfl, h6, -⟩)
              | (refine (X.swapI d5 _ _ _ (by assumption) (by omega) (by omega) (by omega) (by omega)).mono ?_; rintro e w8 ⟨rfl, h8, -⟩))
            · exact ⟨⟨_, _, _, rfl, rfl, by have := hc.out; omega, by omega, hP5, by assumption⟩, by have := hc.out; simp [intOf]; omega⟩
            · rename j5 < (b : Int) => q5
              have q6 := hP5.right j5.toNat (by omega) (by omega)
              exact ⟨⟨_, _, rfl, by omega, by omega, q6, h8 j5.toNat (j5.toNat - 1) (by omega) (by omega)⟩, by simp [intOf]; omega⟩
            · exact ⟨⟨_, _, _, rfl, rfl, by have := hc.out; omega, by omega, hP5, by assumption⟩, by have := hc.out; simp [intOf]; omega⟩
        · go_ret
          have := hP2.2.2.2.1
          rw [show i.toNat = b by omega] at this
          exact Or.inr ⟨rfl, dk, hS2, hP2.1, this⟩
    · go_ret
      exact ⟨false, rfl, dk, hS1, hP1.1, fun h => by cases h⟩
end Go.Proofs.YbulkblsgFmt

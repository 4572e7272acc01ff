import Derived.Test.YbulkblsgFmtSb
namespace Go.Proofs.YbulkblsgFmt
open Go.RowKit Go.Sort
set_option linter.unusedVariables false
set_option linter.unusedSimpArgs false
variable {H : Nat} {rv : Value} {N : Nat} {lt : Int → Int → Bool} {S : Array Int → World → Prop}
set_option maxHeartbeats 4000000 in
set_option maxRecDepth 100000 in
theorem heap_any (X : Srt H rv N lt S) (a b : Nat) (d : Array Int) (w : World) (hS : S d w) (hab : a < b) (hb : b ≤ N) :
    Calls Ybaf.prog 46 #[.iface 83 rv, .int .i64 (a : Nat), .int .i64 (b : Nat)] w fun e w' => e = .returned (.tuple #[]) ∧ S (Sort.heapSort lt d a b) w' := by
  have hsz := X.small
  have mL := X.mless; have mS := X.mswap
  have eL := e103; have eS := e104
  go_enter Ybaf.func46, Ybaf.ntmps46
  go_wp2
  go_loopw [9] (fun vi wr => ∃ (k : Nat) (dk : Array Int), vi = .int .i64 ((k : Int) - 1) ∧ k ≤ (b - a - 1) / 2 + 1 ∧ S dk wr ∧ Sort.heapBuild lt (b - a) a k dk = Sort.heapBuild lt (b - a) a ((b - a - 1) / 2 + 1) d) (fun vi _ => ((intOf vi) + 1).toNat)
  case atStart => exact ⟨(b - a - 1) / 2 + 1, d, by first | (congr 1; omega) | (rw [Int.tdiv_eq_ediv_of_nonneg (by omega)]; congr 1; omega), by omega, hS, rfl⟩
  case round =>
    obtain ⟨k, dk, rfl, hk, hSk, hO⟩ := hrel
    have HO : Hid (Sort.heapBuild lt (b - a) a k dk = Sort.heapBuild lt (b - a) a ((b - a - 1) / 2 + 1) d) := hO
    clear hO hS
    go_wp2_with (first
      | (refine (sift_any X (k - 1) (b - a) a _ _ _ dk _ (by omega) (by omega) (by omega) (by assumption) (by omega) (by omega)).mono ?_; rintro e w' ⟨rfl, h1⟩))
    · exact ⟨⟨k - 1, _, by congr 1; omega, by omega, h1, by
        obtain ⟨m, rfl⟩ : ∃ m, k = m + 1 := ⟨k - 1, by omega⟩
        exact HO.out⟩, by simp [intOf]; omega⟩
    · rename_i hh
      have HB : Hid (dk = Sort.heapBuild lt (b - a) a ((b - a - 1) / 2 + 1) d) := by
        have e := HO.out
        rw [show k = 0 by omega] at e
        exact e
      clear HO hh hk
      go_loopw [10] (fun vi wr => ∃ (k : Nat) (dj : Array Int), vi = .int .i64 ((k : Int) - 1) ∧ k ≤ b - a ∧ S dj wr ∧ Sort.heapPop lt a k dj = Sort.heapPop lt a (b - a) dk) (fun vi _ => ((intOf vi) + 1).toNat)
      case atStart => exact ⟨b - a, dk, by congr 1; omega, by omega, hSk, rfl⟩
      case round =>
        obtain ⟨k, dj, rfl, hk, hSj, hO⟩ := hrel
        have HO : Hid (Sort.heapPop lt a k dj = Sort.heapPop lt a (b - a) dk) := hO
        clear hO hSk
        go_wp2_with (first
          | (refine (X.swapI dj _ _ _ (by assumption) (by omega) (by omega) (by omega) (by omega)).mono ?_; rintro e w'' ⟨rfl, h2, -⟩; replace h2 := h2 a (a + (k - 1)) (by omega) (by omega))
          | (refine (sift_any X 0 (k - 1) a _ _ _ _ _ (by omega) (by omega) (by omega) h2 (by omega) (by omega)).mono ?_; rintro e w' ⟨rfl, h1⟩))
        · exact ⟨⟨k - 1, _, by congr 1; omega, by omega, h1, by
            obtain ⟨m, rfl⟩ : ∃ m, k = m + 1 := ⟨k - 1, by omega⟩
            exact HO.out⟩, by simp [intOf]; omega⟩
        · go_end0
          have hk0 : k = 0 := by omega
          subst hk0
          refine ⟨rfl, ?_⟩
          have e := HO.out
          rw [HB.out] at e
          unfold Sort.heapSort
          rw [← e]
          exact hSj
end Go.Proofs.YbulkblsgFmt

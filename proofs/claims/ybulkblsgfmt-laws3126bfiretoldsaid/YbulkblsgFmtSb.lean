import Derived.Test.YbulkblsgFmtSa
namespace Go.Proofs.YbulkblsgFmt
open Go.RowKit Go.Sort
set_option linter.unusedVariables false
set_option linter.unusedSimpArgs false
variable {H : Nat} {rv : Value} {N : Nat} {lt : Int → Int → Bool} {S : Array Int → World → Prop}
theorem sift_stop {hi first root : Nat} {d : Array Int} (h : hi ≤ 2 * root + 1) : Sort.siftDown lt hi first root d = d := by rw [Sort.siftDown, dif_pos h]
theorem sift_r {hi first root : Nat} {d : Array Int} (h : 2 * root + 1 + 1 < hi) (hl : lt d[first + (2 * root + 1)]! d[first + (2 * root + 1) + 1]! = true) (h2 : (!lt d[first + root]! d[first + (2 * root + 1 + 1)]!) = false) :
    Sort.siftDown lt hi first root d = Sort.siftDown lt hi first (2 * root + 1 + 1) (swp d (first + root) (first + (2 * root + 1 + 1))) := by
  rw [Sort.siftDown, dif_neg (by omega), if_pos (by simp [hl]; omega), if_neg (by simpa using h2), dif_pos h]
theorem sift_rs {hi first root : Nat} {d : Array Int} (h : 2 * root + 1 + 1 < hi) (hl : lt d[first + (2 * root + 1)]! d[first + (2 * root + 1) + 1]! = true) (h2 : (!lt d[first + root]! d[first + (2 * root + 1 + 1)]!) = true) :
    Sort.siftDown lt hi first root d = d := by
  rw [Sort.siftDown, dif_neg (by omega), if_pos (by simp [hl]; omega), if_pos (by simpa using h2)]
theorem sift_l {hi first root : Nat} {d : Array Int} (h : 2 * root + 1 < hi) (hl : ¬ (2 * root + 2 < hi) ∨ lt d[first + (2 * root + 1)]! d[first + (2 * root + 1) + 1]! = false) (h2 : (!lt d[first + root]! d[first + (2 * root + 1)]!) = false) :
    Sort.siftDown lt hi first root d = Sort.siftDown lt hi first (2 * root + 1) (swp d (first + root) (first + (2 * root + 1))) := by
  rw [Sort.siftDown, dif_neg (by omega), if_neg (by rcases hl with hl | hl <;> simp [hl] <;> omega), if_neg (by simpa using h2)]
theorem sift_ls {hi first root : Nat} {d : Array Int} (h : 2 * root + 1 < hi) (hl : ¬ (2 * root + 2 < hi) ∨ lt d[first + (2 * root + 1)]! d[first + (2 * root + 1) + 1]! = false) (h2 : (!lt d[first + root]! d[first + (2 * root + 1)]!) = true) :
    Sort.siftDown lt hi first root d = d := by
  rw [Sort.siftDown, dif_neg (by omega), if_neg (by rcases hl with hl | hl <;> simp [hl] <;> omega), if_pos (by simpa using h2)]
set_option maxHeartbeats 4000000 in
set_option maxRecDepth 100000 in
theorem sift_any (X : Srt H rv N lt S) (lo hi first : Nat) (x y z : Int) (d : Array Int) (w : World) (hx : x = (lo : Nat)) (hy : y = (hi : Nat)) (hz : z = (first : Nat)) (hS : S d w) (hb : first + hi ≤ N) (hlo : lo ≤ hi) :
    Calls Ybaf.prog 56 #[.iface 83 rv, .int .i64 x, .int .i64 y, .int .i64 z] w fun e w' => e = .returned (.tuple #[]) ∧ S (Sort.siftDown lt hi first lo d) w' := by
  subst hx hy hz
  have hsz := X.small
  have mL := X.mless; have mS := X.mswap
  have eL := e103; have eS := e104
  go_enter Ybaf.func56, Ybaf.ntmps56
  go_wp2
  go_loopw [8] (fun vi wr => ∃ (i : Nat) (dk : Array Int), vi = .int .i64 (i : Nat) ∧ i ≤ hi ∧ S dk wr ∧ Sort.siftDown lt hi first i dk = Sort.siftDown lt hi first lo d) (fun vi _ => hi - (intOf vi).toNat)
  case atStart => exact ⟨lo, d, rfl, hlo, hS, rfl⟩
  case round =>
    obtain ⟨i, dk, rfl, hai, hSk, hO⟩ := hrel
    have HO : Hid (Sort.siftDown lt hi first i dk = Sort.siftDown lt hi first lo d) := hO
    clear hO hS
    go_wp2_with (first
      | (refine (X.lessI dk _ _ _ (by assumption) (by omega) (by omega) (by omega) (by omega)).mono ?_; rintro e w' ⟨rfl, h1, -⟩)
      | (refine (X.swapI dk _ _ _ (by assumption) (by omega) (by omega) (by omega) (by omega)).mono ?_; rintro e w'' ⟨rfl, h2, -⟩))
    · go_end0; exact ⟨rfl, ((sift_stop (by omega)).symm.trans HO.out) ▸ hSk⟩
    · refine bodyPost_ret (results_none rfl _ _ _) rfl ?_; exact ⟨rfl, ((sift_rs (by omega) (by assumption) (by assumption)).symm.trans HO.out) ▸ h1⟩
    · exact ⟨⟨2 * i + 1 + 1, _, by go_num, by omega, h2 (first + i) (first + (2 * i + 1 + 1)) (by omega) (by omega), (sift_r (by omega) (by assumption) (by assumption)).symm.trans HO.out⟩, by simp [intOf]; omega⟩
    · refine bodyPost_ret (results_none rfl _ _ _) rfl ?_; exact ⟨rfl, ((sift_ls (by omega) (Or.inr (by assumption)) (by assumption)).symm.trans HO.out) ▸ h1⟩
    · exact ⟨⟨2 * i + 1, _, by go_num, by omega, h2 (first + i) (first + (2 * i + 1)) (by omega) (by omega), (sift_l (by omega) (Or.inr (by assumption)) (by assumption)).symm.trans HO.out⟩, by simp [intOf]; omega⟩
    · refine bodyPost_ret (results_none rfl _ _ _) rfl ?_; exact ⟨rfl, ((sift_ls (by omega) (Or.inl (by omega)) (by assumption)).symm.trans HO.out) ▸ h1⟩
    · exact ⟨⟨2 * i + 1, _, by go_num, by omega, h2 (first + i) (first + (2 * i + 1)) (by omega) (by omega), (sift_l (by omega) (Or.inl (by omega)) (by assumption)).symm.trans HO.out⟩, by simp [intOf]; omega⟩
end Go.Proofs.YbulkblsgFmt

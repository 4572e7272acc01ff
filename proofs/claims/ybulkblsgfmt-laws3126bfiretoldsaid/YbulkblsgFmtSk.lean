import Derived.Test.YbulkblsgFmtSc
import Derived.Test.YbulkblsgFmtSe
import Derived.Test.YbulkblsgFmtSp
import Derived.Test.YbulkblsgFmtSf
import Derived.Test.YbulkblsgFmtSh
import Derived.Test.YbulkblsgFmtSj
namespace Go.Proofs.YbulkblsgFmt
open Go.RowKit Go.Sort
set_option linter.unusedVariables false
set_option linter.unusedSimpArgs false
variable {H : Nat} {rv : Value} {N : Nat} {lt : Int → Int → Bool} {S : Array Int → World → Prop}
/-- What is left to do: [a, b) of dk; whatever sorted permutation of it comes, the whole task is done. -/
def Fin (lt : Int → Int → Bool) (a0 b0 : Nat) (d : Array Int) (a b : Nat) (dk : Array Int) : Prop :=
  b ≤ dk.size ∧ a ≤ b ∧ Sort.Below lt a b dk ∧ ∀ R, PermIn a b dk R → SortedIn lt a b R → PermIn a0 b0 d R ∧ SortedIn lt a0 b0 R
theorem Fin.perm {a0 b0 : Nat} {d : Array Int} {a b : Nat} {dk d1 : Array Int} (h : Fin lt a0 b0 d a b dk) (hp : PermIn a b dk d1) : Fin lt a0 b0 d a b d1 :=
  ⟨by rw [hp.1]; exact h.1, h.2.1, h.2.2.1.perm h.1 hp, fun R hR hs => h.2.2.2 R (permIn_trans _ _ _ a b hp hR) hs⟩
theorem Fin.eq (hO : SWO lt) {a0 b0 : Nat} {d : Array Int} {a b : Nat} {d3 d4 : Array Int} {p m : Nat} (h : Fin lt a0 b0 d a b d3) (ha0 : 0 < a) (hp1 : a ≤ p) (hp2 : p < b) (hnl : lt d3[a - 1]! d3[p]! = false)
    (hP : PermIn a b d3 d4) (h1 : a < m) (h2 : m ≤ b) (hv : d4[a]! = d3[p]!) (hle : ∀ i, a < i → i < m → lt d4[a]! d4[i]! = false) (hgt : ∀ i, m ≤ i → i < b → lt d4[a]! d4[i]! = true) : Fin lt a0 b0 d m b d4 := by
  obtain ⟨hb, hab, hB, hF⟩ := h
  have hge : ∀ i, a ≤ i → i < b → lt d3[i]! d3[p]! = false := fun i hi hi' => by
    rcases hB with h0 | hB
    · omega
    · exact hO.ntrans _ _ _ (hB i hi hi') hnl
  have hge4 := permIn_all d3 d4 a b (fun x => lt x d3[p]! = false) hb hP hge
  have hb4 : b ≤ d4.size := by rw [hP.1]; exact hb
  have hle' : ∀ i, a ≤ i → i < m → lt d3[p]! d4[i]! = false := fun i hi hi' => by
    by_cases e : i = a
    · rw [e, hv, hO.irrefl]
    · rw [← hv]; exact hle i (by omega) hi'
  rw [hv] at hgt
  refine ⟨hb4, h2, Or.inr fun i hi hi' => ?_, fun R hR hs => hF R (permIn_trans _ _ _ a b hP (permIn_mono _ _ m b a b (by omega) (Nat.le_refl _) hb4 hR)) ?_⟩
  · cases hc : lt d4[i]! d4[m - 1]! with
    | false => rfl
    | true => have := hO.trans _ _ _ (hgt i hi hi') hc; rw [hle' (m - 1) (by omega) (by omega)] at this; cases this
  · refine sorted_glue_eq hO d3[p]! hs (fun i hi hi' => ?_) (fun i hi hi' => ?_) (permIn_all d4 R m b (fun x => lt d3[p]! x = true) hb4 hR hgt)
    · rw [hR.2.1 i (Or.inl hi')]; exact hle' i hi hi'
    · rw [hR.2.1 i (Or.inl hi')]; exact hge4 i hi (by omega)
theorem Fin.left (hO : SWO lt) {a0 b0 : Nat} {d : Array Int} {a b : Nat} {d3 d4 : Array Int} {m : Nat} (h : Fin lt a0 b0 d a b d3) (hP : PermIn a b d3 d4) (h1 : a ≤ m) (h2 : m < b)
    (hlo : ∀ i, a ≤ i → i < m → lt d4[i]! d4[m]! = true) (hhi : ∀ i, m < i → i < b → lt d4[i]! d4[m]! = false) :
    Sort.Below lt a m d4 ∧ Sort.Below lt (m + 1) b d4 ∧ (∀ L, PermIn a m d4 L → SortedIn lt a m L → Fin lt a0 b0 d (m + 1) b L) ∧ (∀ L, PermIn (m + 1) b d4 L → SortedIn lt (m + 1) b L → Fin lt a0 b0 d a m L) := by
  obtain ⟨hb, hab, hB, hF⟩ := h
  have hb4 : b ≤ d4.size := by rw [hP.1]; exact hb
  have hBa : Sort.Below lt a m d4 := (hB.perm hb hP).mono (by omega)
  have hBr : Sort.Below lt (m + 1) b d4 := Or.inr fun i hi hi' => by rw [Nat.add_sub_cancel]; exact hhi i (by omega) hi'
  refine ⟨hBa, hBr, fun L hL hsL => ?_, fun L hL hsL => ?_⟩
  · have hbL : b ≤ L.size := by rw [hL.1]; exact hb4
    have eL : ∀ i, m ≤ i → L[i]! = d4[i]! := fun i hi => hL.2.1 i (Or.inr hi)
    refine ⟨hbL, by omega, Or.inr fun i hi hi' => by rw [Nat.add_sub_cancel, eL i (by omega), eL m (Nat.le_refl _)]; exact hhi i (by omega) hi', fun R hR hsR => hF R ?_ ?_⟩
    · exact permIn_trans _ _ _ a b hP (permIn_trans _ _ _ a b (permIn_mono _ _ a m a b (Nat.le_refl _) (by omega) hb4 hL) (permIn_mono _ _ (m + 1) b a b (by omega) (Nat.le_refl _) hbL hR))
    have eR : ∀ i, i ≤ m → R[i]! = L[i]! := fun i hi => hR.2.1 i (Or.inl (by omega))
    refine sorted_glue hO (hsL.congr fun i _ hi' => eR i (by omega)) hsR (fun i hi hi' => ?_) (fun i hi hi' => ?_)
    · rw [eR i (by omega), eR m (Nat.le_refl _), eL m (Nat.le_refl _)]
      exact permIn_all d4 L a m (fun x => lt x d4[m]! = true) (by omega) hL hlo i hi hi'
    · rw [eR m (Nat.le_refl _), eL m (Nat.le_refl _)]
      exact permIn_all L R (m + 1) b (fun x => lt x d4[m]! = false) hbL hR (fun k hk hk' => by rw [eL k (by omega)]; exact hhi k (by omega) hk') i (by omega) hi'
  · have hbL : b ≤ L.size := by rw [hL.1]; exact hb4
    have eL : ∀ i, i ≤ m → L[i]! = d4[i]! := fun i hi => hL.2.1 i (Or.inl (by omega))
    refine ⟨by omega, h1, ?_, fun R hR hsR => hF R ?_ ?_⟩
    · rcases hBa with h0 | hBa
      · exact Or.inl h0
      · exact Or.inr fun i hi hi' => by rw [eL i (by omega), eL (a - 1) (by omega)]; exact hBa i hi hi'
    · exact permIn_trans _ _ _ a b hP (permIn_trans _ _ _ a b (permIn_mono _ _ (m + 1) b a b (by omega) (Nat.le_refl _) hb4 hL) (permIn_mono _ _ a m a b (Nat.le_refl _) (by omega) hbL hR))
    have eR : ∀ i, m ≤ i → R[i]! = L[i]! := fun i hi => hR.2.1 i (Or.inr hi)
    refine sorted_glue hO hsR (hsL.congr fun i hi _ => eR i (by omega)) (fun i hi hi' => ?_) (fun i hi hi' => ?_)
    · rw [eR m (Nat.le_refl _), eL m (Nat.le_refl _)]
      exact permIn_all L R a m (fun x => lt x d4[m]! = true) (by omega) hR (fun k hk hk' => by rw [eL k (by omega)]; exact hlo k hk hk') i hi hi'
    · rw [eR i (by omega), eR m (Nat.le_refl _), eL m (Nat.le_refl _)]
      exact permIn_all d4 L (m + 1) b (fun x => lt x d4[m]! = false) hb4 hL (fun k hk hk' => hhi k (by omega) hk') i (by omega) hi'
end Go.Proofs.YbulkblsgFmt

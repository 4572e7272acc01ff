import Derived.Test.YbulkblreDoorPState
namespace Go.Proofs.YbulkblreDoor
set_option linter.unusedVariables false

/-- The numbers, a point between two. -/
def joinDots : List (List UInt8) → List UInt8
  | [] => []
  | [a] => a
  | a :: b :: l => a ++ 46 :: joinDots (b :: l)
def letterT (c : Nat) : List UInt8 := if c = 0 then [] else [UInt8.ofNat c]
def sufT (l : List (Nat × List UInt8)) : List UInt8 := l.flatMap fun x => nm x.1 ++ x.2
def revT (r : List UInt8) : List UInt8 := if r = [] then [] else [45, 114] ++ r
def R1 (c : Nat) (Ss : List (Nat × List UInt8)) (r : List UInt8) : List UInt8 := letterT c ++ (sufT Ss ++ revT r)
def textOf (Ns : List (List UInt8)) (c : Nat) (Ss : List (Nat × List UInt8)) (r : List UInt8) : List UInt8 := joinDots Ns ++ R1 c Ss r

/-- What may follow digits: nothing, or a byte that is no digit, no point and no r. -/
def Tail (t : List UInt8) : Prop := ∀ x, t.head? = some x → isDig x = false ∧ x ≠ 46 ∧ x ≠ 114

theorem nm_head (k : Nat) : ∃ l, nm k = 95 :: l := by
  unfold nm; split <;> exact ⟨_, rfl⟩
theorem revT_tail (r : List UInt8) : Tail (revT r) := fun x hx => by
  unfold revT at hx; split at hx
  · cases hx
  · simp at hx; subst hx; decide
theorem sufT_tail (l : List (Nat × List UInt8)) (r : List UInt8) : Tail (sufT l ++ revT r) := by
  cases l with
  | nil => exact revT_tail r
  | cons a l =>
    intro x hx
    obtain ⟨m, hm⟩ := nm_head a.1
    have : sufT (a :: l) = 95 :: (m ++ a.2 ++ sufT l) := by simp [sufT, hm]
    rw [this] at hx; simp at hx; subst hx; decide
theorem R1_head (c : Nat) (hc : c = 0 ∨ (97 ≤ c ∧ c ≤ 122)) (l : List (Nat × List UInt8)) (r : List UInt8) (x : UInt8) (hx : (R1 c l r).head? = some x) : isDig x = false ∧ x ≠ 46 := by
  unfold R1 letterT at hx
  split at hx
  · have := sufT_tail l r x (by simpa using hx); exact ⟨this.1, this.2.1⟩
  · simp at hx
    subst hx
    have h2 : (UInt8.ofNat c).toNat = c := by simp; omega
    refine ⟨?_, fun e => ?_⟩
    · cases h : isDig (UInt8.ofNat c) with
      | false => rfl
      | true => have := (isDig_iff _).1 h; rw [h2] at this; omega
    · have := congrArg UInt8.toNat e; rw [h2] at this; simp at this; omega

theorem sufT_head97 (l : List (Nat × List UInt8)) (r : List UInt8) (x : UInt8) (hx : (sufT l ++ revT r).head? = some x) : x.toNat < 97 := by
  cases l with
  | nil =>
    have hx' : (revT r).head? = some x := hx
    unfold revT at hx'; split at hx'
    · cases hx'
    · simp at hx'; subst hx'; decide
  | cons a l =>
    obtain ⟨m, hm⟩ := nm_head a.1
    simp [sufT, hm] at hx; subst hx; decide

theorem joinDots_last (a : List UInt8) : joinDots [a] = a := rfl
theorem joinDots_more (a b : List UInt8) (l : List (List UInt8)) : joinDots (a :: b :: l) = a ++ 46 :: joinDots (b :: l) := rfl

/-- The part at i, and what follows it. -/
theorem drop_at (Ns : List (List UInt8)) (i : Nat) (h : i < Ns.length) (R : List UInt8) :
    joinDots (Ns.drop i) ++ R = Ns[i] ++ (if i + 1 < Ns.length then 46 :: (joinDots (Ns.drop (i + 1)) ++ R) else R) := by
  rw [List.drop_eq_getElem_cons h]
  by_cases h2 : i + 1 < Ns.length
  · rw [if_pos h2, List.drop_eq_getElem_cons h2, joinDots_more]; simp
  · rw [if_neg h2, List.drop_eq_nil_of_le (by omega), joinDots_last]

theorem joinDots_len : ∀ (Ns : List (List UInt8)), (∀ x ∈ Ns, x.length ≤ 10) → (joinDots Ns).length ≤ 11 * Ns.length
  | [], _ => by simp [joinDots]
  | [a], h => by have := h a (by simp); simp [joinDots]; omega
  | a :: b :: l, h => by
    have h1 := h a (by simp)
    have h2 := joinDots_len (b :: l) (fun x hx => h x (by simp at hx ⊢; exact .inr hx))
    rw [joinDots_more]; simp at h2 ⊢; omega
theorem nm_len (i : Nat) : (nm i).length ≤ 6 := by unfold nm; split <;> decide
theorem sufT_len : ∀ (l : List (Nat × List UInt8)), (∀ x ∈ l, x.2.length ≤ 10) → (sufT l).length ≤ 16 * l.length
  | [], _ => by simp [sufT]
  | a :: l, h => by
    have h1 := h a (by simp)
    have h2 := sufT_len l (fun x hx => h x (by simp [hx]))
    have h3 := nm_len a.1
    have e : sufT (a :: l) = nm a.1 ++ a.2 ++ sufT l := by simp [sufT]
    rw [e]; simp; omega
theorem R1_len (c : Nat) (l : List (Nat × List UInt8)) (r : List UInt8) (h : ∀ x ∈ l, x.2.length ≤ 10) (hr : r.length ≤ 10) : (R1 c l r).length ≤ 16 * l.length + 13 := by
  have h1 := sufT_len l h
  have h2 : (letterT c).length ≤ 1 := by unfold letterT; split <;> simp
  have h3 : (revT r).length ≤ 12 := by unfold revT; split <;> simp; omega
  unfold R1; simp; omega

theorem sufT_drop (l : List (Nat × List UInt8)) (j : Nat) (h : j < l.length) (R : List UInt8) : sufT (l.drop j) ++ R = nm (l[j]).1 ++ ((l[j]).2 ++ (sufT (l.drop (j + 1)) ++ R)) := by
  have e : ∀ (a : Nat × List UInt8) (m : List (Nat × List UInt8)), sufT (a :: m) = nm a.1 ++ a.2 ++ sufT m := fun a m => by simp [sufT]
  rw [List.drop_eq_getElem_cons h, e]; simp only [List.append_assoc]

/-- No earlier name opens what begins with name k. -/
theorem nm_not (i k : Nat) (hik : i < k) (hk : k < 5) (X : List UInt8) (hX : k = 4 → ∀ x, X.head? = some x → x ≠ 114) : (nm i).isPrefixOf (nm k ++ X) = false := by
  have hk' : k = 1 ∨ k = 2 ∨ k = 3 ∨ k = 4 := by omega
  rcases hk' with rfl | rfl | rfl | rfl
  · obtain rfl : i = 0 := by omega
    rfl
  · have : i = 0 ∨ i = 1 := by omega
    rcases this with rfl | rfl <;> rfl
  · have : i = 0 ∨ i = 1 ∨ i = 2 := by omega
    rcases this with rfl | rfl | rfl <;> rfl
  · have : i = 0 ∨ i = 1 ∨ i = 2 ∨ i = 3 := by omega
    rcases this with rfl | rfl | rfl | rfl
    · rfl
    · rfl
    · cases X with
      | nil => rfl
      | cons x X =>
        have := hX rfl x rfl
        show (95 == 95 && (112 == 112 && ((114 : UInt8) == x && _))) = false
        have e : ((114 : UInt8) == x) = false := by simp; exact fun e => this e.symm
        rw [e]; simp
    · rfl
theorem nm_yes (k : Nat) (X : List UInt8) : (nm k).isPrefixOf (nm k ++ X) = true := by simp

end Go.Proofs.YbulkblreDoor

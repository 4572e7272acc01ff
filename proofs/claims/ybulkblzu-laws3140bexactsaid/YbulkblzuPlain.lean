import Derived.Test.YbulkblzuMaps
import Derived.Test.YbulkblzuRows
import Derived.ProofKit
import Derived.DeepKeys4
import Derived.Maps.Keyed
import Derived.WalkLawsBesides
import Derived.WalkSpells
import Derived.Outline
import Derived.Laws.EntriesVeiled
import Derived.Deep.QuietTactic
import Derived.BigQuiet
import Derived.WalkSmall
import Derived.Deep.MidRow
import Derived.Deep.OwnRows
namespace Go.Proofs.Ybulkblzu
open Go.RowKit Go.Maps Go.WideMaps
set_option linter.unusedVariables false

theorem hid {p : Prop} (h : p) : Hid p := h

/-- One given entry. -/
structure Ent where
  id : Nat
  host : ByteArray
  port : Nat
  held : Bool
  own : Nat

abbrev z8 : Value := .int .u8 0
/-- An address's cells. -/
def adC (e : Ent) : List Value := [.int .u8 e.id, z8, z8, z8, z8, z8, z8, z8, z8, z8, z8, z8, z8, z8, z8, z8, z8, z8, z8, z8, .string e.host, .int .u16 e.port]
/-- A reportEntry's cells. -/
def enC (e : Ent) (p : Option Addr) : List Value := [.string e.host, .int .u8 e.id, z8, z8, z8, z8, z8, z8, z8, z8, z8, z8, z8, z8, z8, z8, z8, z8, z8, z8, z8, .string e.host, .int .u16 e.port, .bool e.held, .pointer p]
theorem adC_len (e : Ent) : (adC e).length = 22 := rfl
theorem enC_len (e : Ent) (p : Option Addr) : (enC e p).length = 25 := rfl

variable (E : Nat → Ent)
/-- How many of the first n belong to share s. -/
def cnt (s : Nat) : Nat → Nat
  | 0 => 0
  | n + 1 => if (E n).own % 3 = s then cnt s n + 1 else cnt s n
def hit (s i : Nat) : Bool := decide ((E i).own % 3 = s) && (E i).held
def hc (s : Nat) : Nat → Nat
  | 0 => 0
  | n + 1 => if hit E s n then hc s n + 1 else hc s n
def hl (s : Nat) : Nat → List Value
  | 0 => []
  | n + 1 => if hit E s n then hl s n ++ adC (E n) else hl s n

variable {E}
theorem cnt_yes {s n : Nat} (h : (E n).own % 3 = s) : cnt E s (n + 1) = cnt E s n + 1 := by show (if _ then _ else _) = _; rw [if_pos h]
theorem cnt_no {s n : Nat} (h : ¬ (E n).own % 3 = s) : cnt E s (n + 1) = cnt E s n := by show (if _ then _ else _) = _; rw [if_neg h]
theorem hc_yes {s n : Nat} (h : hit E s n = true) : hc E s (n + 1) = hc E s n + 1 := by show (if _ then _ else _) = _; rw [if_pos h]
theorem hc_no {s n : Nat} (h : hit E s n = false) : hc E s (n + 1) = hc E s n := by show (if _ then _ else _) = _; rw [if_neg (by rw [h]; exact Bool.false_ne_true)]
theorem hl_yes {s n : Nat} (h : hit E s n = true) : hl E s (n + 1) = hl E s n ++ adC (E n) := by show (if _ then _ else _) = _; rw [if_pos h]
theorem hl_no {s n : Nat} (h : hit E s n = false) : hl E s (n + 1) = hl E s n := by show (if _ then _ else _) = _; rw [if_neg (by rw [h]; exact Bool.false_ne_true)]
theorem cnt_le (s n : Nat) : cnt E s n ≤ n := by
  induction n with
  | zero => exact Nat.le_refl _
  | succ n ih => by_cases h : (E n).own % 3 = s
                 · rw [cnt_yes h]; omega
                 · rw [cnt_no h]; omega
theorem hc_le (s n : Nat) : hc E s n ≤ n := by
  induction n with
  | zero => exact Nat.le_refl _
  | succ n ih => cases h : hit E s n
                 · rw [hc_no h]; omega
                 · rw [hc_yes h]; omega
theorem hl_len (s n : Nat) : (hl E s n).length = hc E s n * 22 := by
  induction n with
  | zero => rfl
  | succ n ih => cases h : hit E s n
                 · rw [hc_no h, hl_no h, ih]
                 · rw [hc_yes h, hl_yes h, List.length_append, ih, adC_len]; omega
theorem cnt_mono (s : Nat) {a b : Nat} (h : a ≤ b) : cnt E s a ≤ cnt E s b := by
  induction b with
  | zero => obtain rfl : a = 0 := by omega
            exact Nat.le_refl _
  | succ n ih =>
    by_cases e : a = n + 1
    · rw [e]; exact Nat.le_refl _
    · have := ih (by omega)
      by_cases h : (E n).own % 3 = s
      · rw [cnt_yes h]; omega
      · rw [cnt_no h]; omega
theorem hit_no {s n : Nat} (h : ¬ (E n).own % 3 = s) : hit E s n = false := by unfold hit; rw [decide_eq_false h]; rfl
theorem hit_yes {s n : Nat} (h : (E n).own % 3 = s) : hit E s n = (E n).held := by unfold hit; rw [decide_eq_true h]; rfl
theorem same_le (s : Nat) {a b : Nat} (h : a ≤ b) (e : cnt E s a = cnt E s b) : hc E s a = hc E s b ∧ hl E s a = hl E s b := by
  induction b with
  | zero => obtain rfl : a = 0 := by omega
            exact ⟨rfl, rfl⟩
  | succ n ih =>
    by_cases q : a = n + 1
    · rw [q]; exact ⟨rfl, rfl⟩
    · have m := cnt_mono (E := E) s (show a ≤ n by omega)
      by_cases h' : (E n).own % 3 = s
      · rw [cnt_yes h'] at e; omega
      · rw [cnt_no h'] at e
        rw [hc_no (hit_no h'), hl_no (hit_no h')]
        exact ih (by omega) e
theorem same (s : Nat) {a b : Nat} (e : cnt E s a = cnt E s b) : hc E s a = hc E s b ∧ hl E s a = hl E s b := by
  rcases Nat.le_total a b with h | h
  · exact same_le s h e
  · have := same_le s h e.symm
    exact ⟨this.1.symm, this.2.symm⟩
theorem cnt_inv (s : Nat) {n j : Nat} (h : j < cnt E s n) : ∃ i, i < n ∧ (E i).own % 3 = s ∧ cnt E s i = j := by
  induction n with
  | zero => exact absurd h (Nat.not_lt_zero _)
  | succ n ih =>
    by_cases h' : (E n).own % 3 = s
    · rw [cnt_yes h'] at h
      by_cases q : j = cnt E s n
      · exact ⟨n, by omega, h', q.symm⟩
      · obtain ⟨i, a, b, c⟩ := ih (by omega); exact ⟨i, by omega, b, c⟩
    · rw [cnt_no h'] at h
      obtain ⟨i, a, b, c⟩ := ih h; exact ⟨i, by omega, b, c⟩
theorem hl_at (s : Nat) {n p : Nat} (h : p < hc E s n) : ∃ i, i < n ∧ ∀ c, c < 22 → (hl E s n)[p * 22 + c]? = (adC (E i))[c]? := by
  induction n with
  | zero => exact absurd h (Nat.not_lt_zero _)
  | succ n ih =>
    cases h' : hit E s n
    · rw [hc_no h'] at h
      obtain ⟨i, a, b⟩ := ih h
      exact ⟨i, by omega, fun c hc => by rw [hl_no h']; exact b c hc⟩
    · rw [hc_yes h'] at h
      have hL := hl_len (E := E) s n
      by_cases q : p = hc E s n
      · exact ⟨n, by omega, fun c hc => by rw [hl_yes h', List.getElem?_append_right (by rw [hL]; omega), hL, q]; congr 1; omega⟩
      · obtain ⟨i, a, b⟩ := ih (by omega)
        exact ⟨i, by omega, fun c hc => by rw [hl_yes h', List.getElem?_append_left (by rw [hL]; omega)]; exact b c hc⟩

/-- The cells of share s's entries, when i of the given ones have been taken. -/
def EL (E : Nat → Ent) (s i : Nat) (cs : List Value) : Prop := cs.length = cnt E s i * 25 ∧ ∀ j, j < i → (E j).own % 3 = s → ∃ p : Option Addr, p.isSome = (E j).held ∧ ∀ c, c < 25 → cs[cnt E s j * 25 + c]? = (enC (E j) p)[c]?
theorem EL.zero (s : Nat) : EL E s 0 [] := ⟨rfl, fun j h => absurd h (Nat.not_lt_zero _)⟩
theorem EL.no {s i : Nat} {cs : List Value} (h : EL E s i cs) (hn : ¬ (E i).own % 3 = s) : EL E s (i + 1) cs := by
  refine ⟨by rw [cnt_no hn]; exact h.1, fun j hj ho => ?_⟩
  by_cases q : j = i
  · subst q; exact absurd ho hn
  · exact h.2 j (by omega) ho
theorem EL.yes {s i : Nat} {cs : List Value} (h : EL E s i cs) (hy : (E i).own % 3 = s) (p : Option Addr) (hp : p.isSome = (E i).held) : EL E s (i + 1) (cs ++ enC (E i) p) := by
  refine ⟨by rw [cnt_yes hy, List.length_append, h.1, enC_len]; omega, fun j hj ho => ?_⟩
  by_cases q : j = i
  · subst q
    exact ⟨p, hp, fun c hc => by rw [List.getElem?_append_right (by rw [h.1]; omega), h.1]; congr 1; omega⟩
  · obtain ⟨p', a, b⟩ := h.2 j (by omega) ho
    refine ⟨p', a, fun c hc => ?_⟩
    have m : cnt E s (j + 1) ≤ cnt E s i := cnt_mono s (by omega)
    rw [cnt_yes ho] at m
    rw [List.getElem?_append_left (by rw [h.1]; omega)]
    exact b c hc

end Go.Proofs.Ybulkblzu

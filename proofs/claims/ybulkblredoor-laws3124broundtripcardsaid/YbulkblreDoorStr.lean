import Derived.Test.YbulkblreDoorRows
import Derived.WalkKit
import Derived.ProofKit
import Derived.Below
import Derived.Deep.QuietTactic
import Derived.BigQuiet
import Derived.WalkLawsBesides
import Derived.WalkSpells
import Derived.Outline
import Derived.Deep.AppendLies
import Derived.WalkSmall
namespace Go.Proofs.YbulkblreDoor
open Go.RowKit
set_option linter.unusedVariables false

/-- A string by its bytes. -/
def bs (l : List UInt8) : ByteArray := ⟨l.toArray⟩
theorem bs_size (l : List UInt8) : (bs l).size = l.length := by simp [bs, ByteArray.size]
theorem bs_append (a b : List UInt8) : bs a ++ bs b = bs (a ++ b) := ByteArray.mk_append_mk a b
theorem bs_toList (l : List UInt8) : (bs l).toList = l := ByteArray.toList_mk l
theorem bs_extract (l : List UInt8) (i j : Nat) : (bs l).extract i j = bs ((l.drop i).take (j - i)) := ByteArray.extract_mk l i j
theorem bs_get (l : List UInt8) (i : Nat) (h : i < (bs l).size) : (bs l)[i] = l[i]'(by rw [bs_size] at h; exact h) := rfl

/-- Is the byte a digit? -/
def isDig (c : UInt8) : Bool := 48 ≤ c && c ≤ 57
theorem isDig_iff (c : UInt8) : isDig c = true ↔ 48 ≤ (c.toNat : Int) ∧ (c.toNat : Int) ≤ 57 := by
  simp [isDig, UInt8.le_iff_toNat_le]; omega

attribute [local go_sem] bs_size bs_append bs_toList bs_extract bs_get

set_option maxHeartbeats 400000 in
theorem lead_any (d t : List UInt8) (w : World) (hd : ∀ c ∈ d, isDig c = true) (ht : ∀ c, t.head? = some c → isDig c = false) (hl : d.length + t.length ≤ 4611686018427387904) :
    Calls Ybad.prog 11 #[.string (bs (d ++ t))] w fun e w' => e = .returned (.int .i64 d.length) ∧ w = w' := by
  go_enter Ybad.func11, Ybad.ntmps11
  go_wp2
  go_loop [3] (fun n => ∃ k : Nat, k ≤ d.length ∧ n = .int .i64 (k : Nat)) (fun n => d.length - (intOf n).toNat)
  case atStart => exact ⟨0, Nat.zero_le _, rfl⟩
  case round =>
    obtain ⟨k, hk, rfl⟩ := hrel
    by_cases hlt : k < d.length
    · have hlt2 : k < (d ++ t).length := by simp; omega
      obtain ⟨c, hc⟩ : ∃ c : UInt8, (d ++ t)[k] = c := ⟨_, rfl⟩
      obtain ⟨hb1, hb2⟩ := (isDig_iff c).1 (by rw [← hc, List.getElem_append_left hlt]; exact hd _ (List.getElem_mem hlt))
      go_wp2
      go_round
      case rel => exact ⟨k + 1, by omega, by go_num⟩
      case measure => simp [intOf]; omega
    · obtain rfl : k = d.length := by omega
      cases t with
      | nil =>
        go_wp2
        go_ret
        exact ⟨rfl, rfl⟩
      | cons c t =>
        have hc : (d ++ c :: t)[d.length]'(by simp) = c := by simp
        have hn := ht c rfl
        have hn2 : ¬ (48 ≤ (c.toNat : Int) ∧ (c.toNat : Int) ≤ 57) := fun h => by rw [(isDig_iff c).2 h] at hn; cases hn
        clear hn ht
        by_cases h48 : (48 : Int) ≤ (c.toNat : Int)
        · have h57 : ¬ (c.toNat : Int) ≤ 57 := fun h => hn2 ⟨h48, h⟩
          clear hn2
          go_wp2
          go_ret
          exact ⟨rfl, rfl⟩
        · clear hn2
          go_wp2
          go_ret
          exact ⟨rfl, rfl⟩

theorem isPrefixOf_iff (p s : List UInt8) : p.isPrefixOf s = (decide (p.length ≤ s.length) && (s.take p.length == p)) := by
  induction p generalizing s with
  | nil => simp
  | cons a p ih =>
    cases s with
    | nil => simp
    | cons b s =>
      simp only [List.isPrefixOf_cons_cons, ih, List.length_cons, List.take_succ_cons, Nat.add_le_add_iff_right]
      by_cases h : a = b
      · subst h; simp
      · have : (b :: s.take p.length == a :: p) = false := by simp; intro e; exact absurd e.symm h
        rw [this]; simp [h]

set_option maxHeartbeats 400000 in
theorem pre_lite (s p : List UInt8) (w : World) (hs : s.length ≤ 4611686018427387904) (hp : p.length ≤ 4611686018427387904) :
    Calls Ybad.prog 14 #[.string (bs s), .string (bs p)] w fun e w' => e = .returned (.bool (p.isPrefixOf s)) ∧ w' = w := by
  by_cases h : p.length ≤ s.length
  · have hd : decide ((p.length : Int) ≤ (s.length : Int)) = true := by simp; omega
    have hP : Hid (p.isPrefixOf s = (s.take p.length == p)) := by
      show p.isPrefixOf s = (s.take p.length == p)
      rw [isPrefixOf_iff]; simp [h]
    go_enter Ybad.func14, Ybad.ntmps14
    go_wp2
    go_ret
    exact ⟨by rw [hP.out]; rfl, rfl⟩
  · have hd : decide ((p.length : Int) ≤ (s.length : Int)) = false := by simp; omega
    have hP : Hid (p.isPrefixOf s = false) := by
      show p.isPrefixOf s = false
      rw [isPrefixOf_iff]; simp [h]
    go_enter Ybad.func14, Ybad.ntmps14
    go_wp2
    go_ret
    exact ⟨by rw [hP.out]; rfl, rfl⟩

theorem pre_any (s p : List UInt8) (w : World) (hs : s.length ≤ 4611686018427387904) (hp : p.length ≤ 4611686018427387904) :
    Calls Ybad.prog 12 #[.string (bs s), .string (bs p)] w fun e w' => e = .returned (.bool (p.isPrefixOf s)) ∧ w = w' := by
  go_enter Ybad.func12, Ybad.ntmps12
  go_wp2_with (go_at_call 14; refine (pre_lite s p _ hs hp).mono ?_; rintro e w1 ⟨rfl, rfl⟩)
  go_ret
  exact ⟨rfl, rfl⟩

theorem cut_yes (s p : List UInt8) (w : World) (hs : p.length + s.length ≤ 4611686018427387904) :
    Calls Ybad.prog 13 #[.string (bs (p ++ s)), .string (bs p)] w fun e w' => e = .returned (.tuple #[.string (bs s), .bool true]) ∧ w = w' := by
  have hP : Hid (p.isPrefixOf (p ++ s) = true) := by show p.isPrefixOf (p ++ s) = true; simp
  go_enter Ybad.func13, Ybad.ntmps13
  go_wp2_with (first | (go_at_call 14; refine (pre_lite (p ++ s) p _ (by simp; omega) (by omega)).mono ?_; rintro e w1 ⟨rfl, rfl⟩; rw [hP.out]) | go_in)
  go_ret2
  exact ⟨rfl, rfl⟩

theorem cut_no (s p : List UInt8) (w : World) (hs : s.length ≤ 4611686018427387904) (hp : p.length ≤ 4611686018427387904) (h : p.isPrefixOf s = false) :
    Calls Ybad.prog 13 #[.string (bs s), .string (bs p)] w fun e w' => e = .returned (.tuple #[.string (bs s), .bool false]) ∧ w = w' := by
  have hP : Hid (p.isPrefixOf s = false) := h
  clear h
  go_enter Ybad.func13, Ybad.ntmps13
  go_wp2_with (first | (go_at_call 14; refine (pre_lite s p _ hs hp).mono ?_; rintro e w1 ⟨rfl, rfl⟩; rw [hP.out]) | go_in)
  go_ret2
  exact ⟨rfl, rfl⟩

end Go.Proofs.YbulkblreDoor

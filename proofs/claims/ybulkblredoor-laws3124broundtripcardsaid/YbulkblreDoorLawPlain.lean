import Derived.Test.YbulkblreDoorParse
namespace Go.Proofs.YbulkblreDoor
open Go.RowKit
set_option linter.unusedVariables false

/-- The expected parts so far. -/
def EX (B : Nat) (w wr : World) (v : Value) (L : List (List UInt8)) : Prop :=
  wr.ownsRow B 9 1 v L.length (strVals L) ∧ Below B w wr ∧ ((∃ g cap, v = .slice (some ⟨g, 0, none⟩) L.length cap) ∨ (v = .slice none 0 0 ∧ L = [])) ∧ B ≤ wr.heap.size

theorem EX.start (w : World) : EX w.heap.size w w (.slice none 0 0) [] := ⟨World.ownsRow_nil _ _ _ _, Below.refl _ _, .inr ⟨rfl, rfl⟩, Nat.le_refl _⟩

theorem EX.below {B : Nat} {w wr w1 : World} {v : Value} {L : List (List UInt8)} (h : EX B w wr v L) (hb : Below wr.heap.size wr w1) : EX B w w1 v L :=
  ⟨own_below h.1 hb, h.2.1.trans (hb.mono h.2.2.2), h.2.2.1, Nat.le_trans h.2.2.2 hb.size⟩

theorem EX.step {B : Nat} {w wr w2 : World} {v : Value} {L : List (List UInt8)} {x : List UInt8} {o : Obj} {g cap : Nat} (h : EX B w wr v L) (hg : (wr.alloc o).grownBy w2 v.ownBlock)
    (hown : w2.ownsRow B 9 1 (.slice (some ⟨g, 0, none⟩) (L.length + 1) cap) (L.length + 1) (strVals L ++ [.string (bs x)])) :
    EX B w w2 (.slice (some ⟨g, 0, none⟩) (L.length + 1) cap) (L ++ [x]) := by
  have el : (L ++ [x]).length = L.length + 1 := by simp
  have ev : strVals (L ++ [x]) = strVals L ++ [.string (bs x)] := by simp [strVals]
  have hs := hg.size
  simp at hs
  have h4 := h.2.2.2
  refine ⟨by rw [el, ev]; exact hown, (h.2.1.alloc h4 o).grown hg (by simp; omega) (fun k hk => (h.1.lt k hk).1), .inl ⟨g, cap, by rw [el]⟩, by omega⟩

theorem joinDots_snoc : ∀ (l : List (List UInt8)) (x : List UInt8), l ≠ [] → joinDots (l ++ [x]) = joinDots l ++ 46 :: x
  | [], _, h => absurd rfl h
  | [a], x, _ => rfl
  | a :: b :: l, x, _ => by
    have := joinDots_snoc (b :: l) x (by simp)
    show a ++ 46 :: joinDots (b :: l ++ [x]) = (a ++ 46 :: joinDots (b :: l)) ++ 46 :: x
    rw [this]; simp

/-- The numbers' texts, the first k. -/
def NsTo (z : Nat → Nat) (k : Nat) : List (List UInt8) := (List.range k).map fun i => digs (z i)
theorem NsTo_succ (z : Nat → Nat) (k : Nat) : NsTo z (k + 1) = NsTo z k ++ [digs (z k)] := by simp [NsTo, List.range_succ]
theorem NsTo_len (z : Nat → Nat) (k : Nat) : (NsTo z k).length = k := by simp [NsTo]
/-- .. with "0" for none. -/
def NsF (n : Nat) (z : Nat → Nat) (k : Nat) : List (List UInt8) := if n = 0 then [[48]] else NsTo z k
theorem NsF_mem (n : Nat) (z : Nat → Nat) (k : Nat) : ∀ x ∈ NsF n z k, 0 < x.length ∧ x.length ≤ 10 ∧ ∀ y ∈ x, isDig y = true := by
  unfold NsF; split
  · intro x hx; simp at hx; subst hx; simp [isDig]
  · intro x hx; simp only [NsTo, List.mem_map] at hx; obtain ⟨i, _, rfl⟩ := hx
    exact ⟨(digs_len _).1, (digs_len _).2, digs_dig _⟩

/-- A suffix's number. -/
def sNum (ls : Nat) (s : Nat → Nat) (i : Nat) : List UInt8 := if i < ls ∧ s i ≠ 0 then digs (s i - 1) else []
def SsTo (kd : Nat → Nat) (ls : Nat) (s : Nat → Nat) (k : Nat) : List (Nat × List UInt8) := (List.range k).map fun i => (kd i % 5, sNum ls s i)
theorem SsTo_succ (kd : Nat → Nat) (ls : Nat) (s : Nat → Nat) (k : Nat) : SsTo kd ls s (k + 1) = SsTo kd ls s k ++ [(kd k % 5, sNum ls s k)] := by simp [SsTo, List.range_succ]
theorem sNum_ok (ls : Nat) (s : Nat → Nat) (i : Nat) : (sNum ls s i).length ≤ 10 ∧ ∀ y ∈ sNum ls s i, isDig y = true := by
  unfold sNum; split
  · exact ⟨(digs_len _).2, digs_dig _⟩
  · simp
theorem SsTo_mem (kd : Nat → Nat) (ls : Nat) (s : Nat → Nat) (k : Nat) : ∀ x ∈ SsTo kd ls s k, x.1 < 5 ∧ x.2.length ≤ 10 ∧ ∀ y ∈ x.2, isDig y = true := by
  intro x hx; simp only [SsTo, List.mem_map] at hx; obtain ⟨i, _, rfl⟩ := hx
  exact ⟨Nat.mod_lt _ (by omega), (sNum_ok ls s i).1, (sNum_ok ls s i).2⟩
theorem SsTo_len (kd : Nat → Nat) (ls : Nat) (s : Nat → Nat) (k : Nat) : (SsTo kd ls s k).length = k := by simp [SsTo]
theorem sufT_snoc (l : List (Nat × List UInt8)) (x : Nat × List UInt8) : sufT (l ++ [x]) = sufT l ++ (nm x.1 ++ x.2) := by simp [sufT]
theorem sufTexts_snoc (l : List (Nat × List UInt8)) (x : Nat × List UInt8) : sufTexts (l ++ [x]) = sufTexts l ++ [nm x.1 ++ x.2] := by simp [sufTexts]

/-- The letter: 0, or a to z. -/
def cOf (l : Nat) : Nat := if l % 27 = 0 then 0 else 96 + l % 27
theorem cOf_ok (l : Nat) : cOf l = 0 ∨ (97 ≤ cOf l ∧ cOf l ≤ 122) := by unfold cOf; split <;> omega
theorem cOf_no {l : Nat} (h : l % 27 = 0) : cOf l = 0 := by unfold cOf; rw [if_pos h]
theorem cOf_yes {l : Nat} (h : ¬ l % 27 = 0) : cOf l = 96 + l % 27 := by unfold cOf; rw [if_neg h]

def rOf (on : Bool) (n : Nat) : List UInt8 := if on then digs n else []
theorem rOf_ok (on : Bool) (n : Nat) : (rOf on n).length ≤ 10 ∧ ∀ y ∈ rOf on n, isDig y = true := by
  unfold rOf; split
  · exact ⟨(digs_len _).2, digs_dig _⟩
  · simp

end Go.Proofs.YbulkblreDoor

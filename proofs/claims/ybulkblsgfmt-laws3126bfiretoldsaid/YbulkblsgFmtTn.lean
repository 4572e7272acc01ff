import Derived.Test.YbulkblsgFmtTj
namespace Go.Proofs.YbulkblsgFmt
open Go.RowKit Go.Sort
set_option linter.unusedVariables false
set_option linter.unusedSimpArgs false
theorem perm_sorted_eq {α : Type} {R : α → α → Prop} (anti : ∀ x y, R x y → R y x → x = y) : ∀ (l1 l2 : List α), l1.Perm l2 → l1.Pairwise R → l2.Pairwise R → l1 = l2
  | [], l2, h, _, _ => h.nil_eq
  | x :: xs, [], h, _, _ => absurd h.length_eq (by simp)
  | x :: xs, y :: ys, h, h1, h2 => by
    have e : x = y := by
      have hx : x ∈ y :: ys := h.subset (by simp)
      have hy : y ∈ x :: xs := h.symm.subset (by simp)
      rcases List.mem_cons.1 hx with hx | hx
      · exact hx
      · rcases List.mem_cons.1 hy with hy | hy
        · exact hy.symm
        · exact anti x y ((List.pairwise_cons.1 h1).1 y hy) ((List.pairwise_cons.1 h2).1 x hx)
    subst e
    rw [perm_sorted_eq anti xs ys (List.Perm.cons_inv h) (List.pairwise_cons.1 h1).2 (List.pairwise_cons.1 h2).2]
def wl0 (pk : Nat → Bool) (T : Nat → Nat) (bd i : Nat) : List Nat := (List.range i).filter (fun x => pk x && decide (T x < bd))
theorem wl0_in {pk : Nat → Bool} {T : Nat → Nat} {bd i : Nat} (h : pk i = true) (h2 : T i < bd) : wl0 pk T bd (i + 1) = wl0 pk T bd i ++ [i] := by
  unfold wl0; rw [List.range_succ, List.filter_append, List.filter_cons, if_pos (by simp [h, h2]), List.filter_nil]
theorem wl0_out {pk : Nat → Bool} {T : Nat → Nat} {bd i : Nat} (h : ¬ (pk i = true ∧ T i < bd)) : wl0 pk T bd (i + 1) = wl0 pk T bd i := by
  unfold wl0; rw [List.range_succ, List.filter_append, List.filter_cons, if_neg (by simpa using h), List.filter_nil, List.append_nil]
theorem wl0_len {pk : Nat → Bool} {T : Nat → Nat} {bd i : Nat} : (wl0 pk T bd i).length ≤ i := by
  unfold wl0; have := List.length_filter_le (fun x => pk x && decide (T x < bd)) (List.range i); rwa [List.length_range] at this
theorem wl0_lt {pk : Nat → Bool} {T : Nat → Nat} {bd i x : Nat} (h : x ∈ wl0 pk T bd i) : x < i := by
  unfold wl0 at h; simp at h; exact h.1
theorem exd_perm (pk : Nat → Bool) (T : Nat → Nat) (bd n : Nat) : (exd T bd (lkd pk n)).Perm (wl0 pk T bd n) := by
  unfold exd lkd wl0
  refine ((List.reverse_perm _).filter _).trans ?_
  rw [List.filter_filter]
  have : (fun a => decide (T a < bd) && pk a) = (fun x => pk x && decide (T x < bd)) := by funext x; exact Bool.and_comm _ _
  rw [this]
theorem lkd_len (pk : Nat → Bool) (n : Nat) : (lkd pk n).length ≤ n := by
  unfold lkd; rw [List.length_reverse]; have := List.length_filter_le pk (List.range n); rwa [List.length_range] at this
theorem sorted_pw {lt : Int → Int → Bool} {N : Nat} {d : Array Int} (hs : d.size = N) (h : SortedIn lt 0 N d) : d.toList.Pairwise (fun x y => lt y x = false) := by
  rw [List.pairwise_iff_getElem]
  intro i j hi hj hij
  have h1 := h i j (Nat.zero_le _) hij (by simpa [hs] using hj)
  rwa [getElem!_pos d j (by simpa using hj), getElem!_pos d i (by simpa using hi)] at h1
theorem permIn_list {N : Nat} {d d' : Array Int} (hs : d.size = N) (h : PermIn 0 N d d') : d'.toList.Perm d.toList := by
  have h2 := h.2.2
  have e1 : d.extract 0 N = d := by rw [← hs]; simp
  have e2 : d'.extract 0 N = d' := by rw [← hs, ← h.1]; simp
  rwa [e1, e2] at h2
/-- Two sorted orders of the same connections are one. -/
theorem want_eq (dl : Nat → Nat) (l1 l2 : List Nat) (hp : l1.Perm l2) (d' e' : Array Int) (h1 : PermIn 0 l1.length (nats l1).toArray d') (h2 : SortedIn (ltD dl) 0 l1.length d') (h3 : PermIn 0 l2.length (nats l2).toArray e') (h4 : SortedIn (ltD dl) 0 l2.length e') : d' = e' := by
  have s1 : (nats l1).toArray.size = l1.length := by simp [nats]
  have s2 : (nats l2).toArray.size = l2.length := by simp [nats]
  have p1 := permIn_list s1 h1
  have p2 := permIn_list s2 h3
  have p3 : (nats l1).Perm (nats l2) := hp.map _
  have p : d'.toList.Perm e'.toList := p1.trans (p3.trans p2.symm)
  have := perm_sorted_eq (R := fun x y => ltD dl y x = false) (fun x y hx hy => by rw [ltD_false] at hx hy; omega) d'.toList e'.toList p (sorted_pw (h1.1.trans s1) h2) (sorted_pw (h3.1.trans s2) h4)
  exact Array.toList_inj.1 this
/-- The want loop's insertion sort: one look at two neighbours. -/
theorem ins_step {lt : Int → Int → Bool} {k : Nat} {d : Array Int} (h : lt d[k + 1]! d[k]! = true) : insInner lt 0 (k + 1) d = insInner lt 0 k (swp d (k + 1) k) := by
  rw [insInner, if_pos (by simp [h])]
theorem ins_stop {lt : Int → Int → Bool} {k : Nat} {d : Array Int} (h : lt d[k + 1]! d[k]! = false) : insInner lt 0 (k + 1) d = d := by
  rw [insInner, if_neg (by simp [h])]
theorem ins_zero {lt : Int → Int → Bool} {d : Array Int} : insInner lt 0 0 d = d := rfl
theorem ins_next {lt : Int → Int → Bool} {b i : Nat} {d : Array Int} (h : i < b) : insOuter lt 0 b i d = insOuter lt 0 b (i + 1) (insInner lt 0 i d) := by rw [insOuter, if_pos h]
theorem ins_last {lt : Int → Int → Bool} {b i : Nat} {d : Array Int} (h : ¬ i < b) : insOuter lt 0 b i d = d := by rw [insOuter, if_neg h]
end Go.Proofs.YbulkblsgFmt

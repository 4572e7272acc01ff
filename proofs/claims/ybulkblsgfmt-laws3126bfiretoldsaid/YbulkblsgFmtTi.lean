import Derived.Test.YbulkblsgFmtTf
import Derived.Sort.AssemblyPlain
namespace Go.Proofs.YbulkblsgFmt
open Go.RowKit Go.Sort
set_option linter.unusedVariables false
set_option linter.unusedSimpArgs false
/-- A list that is threaded through 'next'. -/
def Ch (nx : Nat → Int) : Int → List Nat → Prop
  | h, [] => h = -1
  | h, x :: xs => h = (x : Int) ∧ Ch nx (nx x) xs
theorem Ch.set {nx : Nat → Int} {x : Nat} {v : Int} : ∀ {h : Int} {L : List Nat}, x ∉ L → Ch nx h L → Ch (set1 nx x v) h L
  | h, [], _, hc => hc
  | h, y :: L, hx, hc => by
    simp only [List.mem_cons, not_or] at hx
    refine ⟨hc.1, ?_⟩
    have e : set1 nx x v y = nx y := by unfold set1; rw [if_neg (fun e => hx.1 e.symm)]
    rw [e]
    exact Ch.set hx.2 hc.2
theorem Ch.push {nx : Nat → Int} {x : Nat} {h : Int} {L : List Nat} (hx : x ∉ L) (hc : Ch nx h L) : Ch (set1 nx x h) (x : Int) (x :: L) := by
  refine ⟨rfl, ?_⟩
  have e : set1 nx x h x = h := by unfold set1; rw [if_pos rfl]
  rw [e]
  exact hc.set hx
theorem Ch.head {nx : Nat → Int} {h : Int} {L : List Nat} (hc : Ch nx h L) : h = -1 ∨ ∃ x : Nat, x ∈ L ∧ h = (x : Int) := by
  cases L with
  | nil => exact Or.inl hc
  | cons y L => exact Or.inr ⟨y, by simp, hc.1⟩
section
variable (T ls : Nat → Nat) (bd n : Nat)
def mvd (done : List Nat) (k : Nat) : List Nat := (done.filter (fun x => decide (bd ≤ T x) && (ls x == k))).reverse
def exd (done : List Nat) : List Nat := done.filter (fun x => decide (T x < bd))
theorem mvd_in {done : List Nat} {x k : Nat} (h1 : bd ≤ T x) (h2 : ls x = k) : mvd T ls bd (done ++ [x]) k = x :: mvd T ls bd done k := by
  unfold mvd
  rw [List.filter_append, List.filter_cons, if_pos (by simp [h1, h2]), List.filter_nil, List.reverse_append]
  rfl
theorem mvd_out {done : List Nat} {x k : Nat} (h : ¬ (bd ≤ T x ∧ ls x = k)) : mvd T ls bd (done ++ [x]) k = mvd T ls bd done k := by
  unfold mvd
  rw [List.filter_append, List.filter_cons, if_neg (by simpa using h), List.filter_nil, List.append_nil]
theorem mem_mvd {done : List Nat} {x k : Nat} : x ∈ mvd T ls bd done k ↔ x ∈ done ∧ bd ≤ T x ∧ ls x = k := by
  unfold mvd; simp [and_assoc]
theorem exd_in {done : List Nat} {x : Nat} (h : T x < bd) : exd T bd (done ++ [x]) = exd T bd done ++ [x] := by
  unfold exd; rw [List.filter_append, List.filter_cons, if_pos (by simpa using h), List.filter_nil]
theorem exd_out {done : List Nat} {x : Nat} (h : ¬ T x < bd) : exd T bd (done ++ [x]) = exd T bd done := by
  unfold exd; rw [List.filter_append, List.filter_cons, if_neg (by simpa using h), List.filter_nil, List.append_nil]
/-- fire's invariant. -/
structure FI (L0 done rem : List Nat) (c : Int) (nx pv hd : Nat → Int) : Prop where
  split : L0 = done ++ rem
  chain : Ch nx c rem
  lists : ∀ k, k ≤ 704 → Ch nx (hd k) (mvd T ls bd done k)
  arm : ∀ x, x ∈ done → bd ≤ T x → pv x ≠ -2147483648
  dis : ∀ x, x < n → (x ∉ L0 ∨ (x ∈ done ∧ T x < bd)) → pv x = -2147483648
theorem FI.gone {L0 done rem : List Nat} {x : Nat} {c : Int} {nx pv hd : Nat → Int} (h : FI T ls bd n L0 done (x :: rem) c nx pv hd) (hx : T x < bd) : FI T ls bd n L0 (done ++ [x]) rem (nx x) nx (set1 pv x (-2147483648)) hd where
  split := by rw [h.split]; simp
  chain := h.chain.2
  lists := fun k hk => by rw [mvd_out T ls bd (by omega)]; exact h.lists k hk
  arm := fun y hy hT => by
    have e : y ≠ x := fun e => by subst e; omega
    unfold set1; rw [if_neg e]
    rcases List.mem_append.1 hy with hy | hy
    · exact h.arm y hy hT
    · simp at hy; exact absurd hy e
  dis := fun y hy hor => by
    unfold set1
    by_cases e : y = x
    · rw [if_pos e]
    · rw [if_neg e]
      refine h.dis y hy ?_
      rcases hor with h1 | ⟨h1, h2⟩
      · exact Or.inl h1
      · rcases List.mem_append.1 h1 with h1 | h1
        · exact Or.inr ⟨h1, h2⟩
        · simp at h1; exact absurd h1 e
theorem FI.moved {L0 done rem : List Nat} {x : Nat} {c : Int} {nx pv hd : Nat → Int} (h : FI T ls bd n L0 done (x :: rem) c nx pv hd) (hnd : L0.Nodup) (hx : ¬ T x < bd) (hl : ls x ≤ 704) : FI T ls bd n L0 (done ++ [x]) rem (nx x) (set1 nx x (hd (ls x))) (lnk pv x (ls x) (hd (ls x))) (set1 hd (ls x) (x : Int)) := by
  have hs := h.split
  rw [hs] at hnd
  have hnd2 := List.nodup_append.1 hnd
  have hxr : x ∉ rem := (List.nodup_cons.1 hnd2.2.1).1
  have hxd : x ∉ done := fun hm => (hnd2.2.2 x hm x (by simp)) rfl
  have hhead := (h.lists (ls x) hl).head
  have hval : ∀ y, lnk pv x (ls x) (hd (ls x)) y = (if hd (ls x) ≠ -1 ∧ y = (hd (ls x)).toNat then (x : Int) else if y = x then -1 - (ls x : Int) else pv y) := fun y => by
    unfold lnk
    by_cases e : hd (ls x) = -1
    · rw [if_pos e, if_neg (by simp [e])]; rfl
    · rw [if_neg e]
      unfold set1
      by_cases e2 : y = (hd (ls x)).toNat
      · rw [if_pos e2, if_pos ⟨e, e2⟩]
      · have e3 : ¬ (hd (ls x) ≠ -1 ∧ y = (hd (ls x)).toNat) := fun hh => e2 hh.2
        rw [if_neg e2, if_neg e3]
  refine ⟨by rw [hs]; simp, h.chain.2.set hxr, fun k hk => ?_, fun y hy hT => ?_, fun y hy hor => ?_⟩
  · by_cases e : ls x = k
    · subst e
      rw [mvd_in T ls bd (by omega) rfl]
      have : set1 hd (ls x) (x : Int) (ls x) = (x : Int) := by unfold set1; rw [if_pos rfl]
      rw [this]
      exact (h.lists _ hl).push (fun hm => hxd ((mem_mvd T ls bd).1 hm).1)
    · rw [mvd_out T ls bd (fun hh => e hh.2)]
      have : set1 hd (ls x) (x : Int) k = hd k := by unfold set1; rw [if_neg (fun q => e q.symm)]
      rw [this]
      exact (h.lists k hk).set (fun hm => hxd ((mem_mvd T ls bd).1 hm).1)
  · rw [hval]
    split
    · omega
    · split
      · omega
      · rename_i e1 e2
        rcases List.mem_append.1 hy with hy | hy
        · exact h.arm y hy hT
        · simp at hy; exact absurd hy e2
  · have hyx : y ≠ x := fun e => by
      subst e
      rcases hor with h1 | ⟨h1, h2⟩
      · exact h1 (by rw [hs]; simp)
      · exact hx h2
    rw [hval, if_neg, if_neg hyx]
    · refine h.dis y hy ?_
      rcases hor with h1 | ⟨h1, h2⟩
      · exact Or.inl h1
      · rcases List.mem_append.1 h1 with h1 | h1
        · exact Or.inr ⟨h1, h2⟩
        · simp at h1; exact absurd h1 hyx
    · rintro ⟨e1, e2⟩
      rcases hhead with hh | ⟨z, hz, hh⟩
      · exact e1 hh
      · rw [hh, Int.toNat_natCast] at e2
        subst e2
        have := (mem_mvd T ls bd).1 hz
        rcases hor with h1 | ⟨h1, h2⟩
        · exact h1 (by rw [hs]; exact List.mem_append.2 (Or.inl this.1))
        · omega
end
/-- The connections that are linked, the last first. -/
def lkd (pk : Nat → Bool) (i : Nat) : List Nat := ((List.range i).filter pk).reverse
theorem mem_lkd {pk : Nat → Bool} {i x : Nat} : x ∈ lkd pk i ↔ x < i ∧ pk x = true := by unfold lkd; simp
theorem lkd_nodup (pk : Nat → Bool) (i : Nat) : (lkd pk i).Nodup := by
  unfold lkd
  exact (List.reverse_perm _).nodup_iff.2 (List.nodup_range.filter _)
theorem lkd_in {pk : Nat → Bool} {i : Nat} (h : pk i = true) : lkd pk (i + 1) = i :: lkd pk i := by
  unfold lkd; rw [List.range_succ, List.filter_append, List.filter_cons, if_pos h, List.filter_nil, List.reverse_append]; rfl
theorem lkd_out {pk : Nat → Bool} {i : Nat} (h : pk i = false) : lkd pk (i + 1) = lkd pk i := by
  unfold lkd; rw [List.range_succ, List.filter_append, List.filter_cons, if_neg (by simp [h]), List.filter_nil, List.append_nil]
/-- The building's invariant. -/
structure BI (pk : Nat → Bool) (n i : Nat) (nx pv hd : Nat → Int) : Prop where
  chain : Ch nx (hd 704) (lkd pk i)
  rest : ∀ k, k < 704 → hd k = -1
  dis : ∀ x, x < n → x ∉ lkd pk i → pv x = -2147483648
theorem BI.link {pk : Nat → Bool} {n i : Nat} {nx pv hd : Nat → Int} (h : BI pk n i nx pv hd) (hp : pk i = true) : BI pk n (i + 1) (set1 nx i (hd 704)) (lnk pv i 704 (hd 704)) (set1 hd 704 (i : Int)) := by
  have hi : i ∉ lkd pk i := fun hm => by have := (mem_lkd.1 hm).1; omega
  refine ⟨?_, fun k hk => ?_, fun x hx hn => ?_⟩
  · rw [lkd_in hp]
    have : set1 hd 704 (i : Int) 704 = (i : Int) := by unfold set1; rw [if_pos rfl]
    rw [this]
    exact h.chain.push hi
  · unfold set1; rw [if_neg (by omega)]; exact h.rest k hk
  · rw [lkd_in hp] at hn
    simp only [List.mem_cons, not_or] at hn
    unfold lnk
    by_cases e : hd 704 = -1
    · rw [if_pos e]
      unfold set1; rw [if_neg hn.1]; exact h.dis x hx hn.2
    · rw [if_neg e]
      rcases h.chain.head with hh | ⟨z, hz, hh⟩
      · exact absurd hh e
      · unfold set1
        rw [hh, Int.toNat_natCast]
        have e5 : ¬ x = z := fun e => hn.2 (by rw [e]; exact hz)
        rw [if_neg e5, if_neg hn.1]
        exact h.dis x hx hn.2
theorem BI.skip {pk : Nat → Bool} {n i : Nat} {nx pv hd : Nat → Int} (h : BI pk n i nx pv hd) (hp : pk i = false) : BI pk n (i + 1) nx pv hd := by
  refine ⟨?_, h.rest, fun x hx hn => ?_⟩
  · rw [lkd_out hp]; exact h.chain
  · rw [lkd_out hp] at hn; exact h.dis x hx hn
theorem BI.fire {pk : Nat → Bool} {n : Nat} {nx pv hd : Nat → Int} (h : BI pk n n nx pv hd) (T ls : Nat → Nat) (bd : Nat) : FI T ls bd n (lkd pk n) [] (lkd pk n) (hd 704) nx pv (set1 hd 704 (-1)) where
  split := rfl
  chain := h.chain
  lists := fun k hk => by
    show set1 hd 704 (-1) k = -1
    unfold set1
    split
    · rfl
    · exact h.rest k (by omega)
  arm := fun x hx => by simp at hx
  dis := fun x hx hor => by
    rcases hor with h1 | ⟨h1, _⟩
    · exact h.dis x hx h1
    · simp at h1
end Go.Proofs.YbulkblsgFmt

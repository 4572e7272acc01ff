import Derived.Test.YbulkblsgFmtBb
namespace Go.Proofs.YbulkblsgFmt
open Go.RowKit Go.Extern.Stop Go.Stop Go.Extern
set_option linter.unusedVariables false
set_option linter.unusedSimpArgs false
/-- What came in: the headers' fields, the tail; how many headers; the final next header; the payload length; the seed. -/
structure D where
  kd : Nat → Nat
  L : Nat → Nat
  Fr : Nat → Nat
  Z : Nat → Nat
  T : Nat → Nat
  m : Nat
  fi : Nat
  py : Nat
  seed : Nat
structure D.Ok (d : D) : Prop where
  L : ∀ i, d.L i ≤ 255
  Fr : ∀ i, d.Fr i ≤ 65535
  Z : ∀ i, d.Z i ≤ 255
  T : ∀ i, d.T i ≤ 255
  m : d.m ≤ 256
  fi : d.fi = 6 ∨ d.fi = 17
  py : d.py ≤ 65535
namespace D
variable (d : D)
def K (i : Nat) : Nat := knd (d.kd i)
def S (i : Nat) : Nat := siz (d.K i) (d.L i)
def O : Nat → Nat
  | 0 => 40
  | i + 1 => O i + d.S i
/-- The next header's number ahead of header i. -/
def N (i : Nat) : Nat := if i < d.m then d.K i else d.fi
def hd (i j : Nat) : Nat := if d.K i = 44 then (if j = 3 then d.Fr i % 256 else if j = 2 then d.Fr i / 256 else if j = 1 then d.L i else if j = 0 then d.N (i + 1) else d.Z i)
  else (if j = 1 then d.L i else if j = 0 then d.N (i + 1) else d.Z i)
def sr (j : Nat) : Nat := (d.seed + j) % 256
def ds (j : Nat) : Nat := (d.seed * 3 + j + 1) % 256
def base (k : Nat) : Nat := if k = 6 then d.N 0 else if 24 ≤ k ∧ k < 40 then d.ds (k - 24) else if 8 ≤ k ∧ k < 24 then d.sr (k - 8) else if k = 5 then d.py % 256 else if k = 4 then d.py / 256 else if k = 0 then 96 else 0
def P : Nat → Nat → Nat
  | 0 => d.base
  | i + 1 => fun k => if k < d.O i then P i k else d.hd i (k - d.O i)
def C (k : Nat) : Nat := if k < d.O d.m then d.P d.m k else d.T (k - d.O d.m)
theorem K_cases (i : Nat) : d.K i = 0 ∨ d.K i = 43 ∨ d.K i = 44 ∨ d.K i = 51 ∨ d.K i = 60 := by
  unfold K knd
  repeat' split
  all_goals omega
theorem S_ge (i : Nat) : 8 ≤ d.S i := by
  unfold S siz
  repeat' split
  all_goals omega
theorem S_le {d : D} (h : d.Ok) (i : Nat) : d.S i ≤ 2048 := by
  have := h.L i
  unfold S siz
  repeat' split
  all_goals omega
theorem O_mono (i j : Nat) : d.O i ≤ d.O (i + j) := by
  induction j with
  | zero => exact Nat.le_refl _
  | succ j ih => rw [← Nat.add_assoc]; show _ ≤ d.O (i + j) + d.S (i + j); omega
theorem O_mono' {i j : Nat} (h : i ≤ j) : d.O i ≤ d.O j := by
  have := d.O_mono i (j - i)
  rwa [show i + (j - i) = j from by omega] at this
theorem O_ge (i : Nat) : 40 + 8 * i ≤ d.O i := by
  induction i with
  | zero => exact Nat.le_refl _
  | succ i ih => have := d.S_ge i; show _ ≤ d.O i + d.S i; omega
theorem O_le {d : D} (h : d.Ok) (i : Nat) : d.O i ≤ 40 + 2048 * i := by
  induction i with
  | zero => exact Nat.le_refl _
  | succ i ih => have := S_le h i; show d.O i + d.S i ≤ _; omega
theorem P_stable (i j k : Nat) (hk : k < d.O i) : d.P (i + j) k = d.P i k := by
  induction j with
  | zero => rfl
  | succ j ih =>
    show (if k < d.O (i + j) then d.P (i + j) k else _) = _
    rw [if_pos (by have := d.O_mono i j; omega)]; exact ih
theorem C_low {k : Nat} (hk : k < 40) : d.C k = d.base k := by
  have h0 : d.O 0 = 40 := rfl
  have := d.O_mono 0 d.m
  rw [Nat.zero_add] at this
  unfold C
  rw [if_pos (by omega)]
  have := d.P_stable 0 d.m k (by omega)
  rw [Nat.zero_add] at this
  exact this
theorem C_hd {i j : Nat} (hi : i < d.m) (hj : j < d.S i) : d.C (d.O i + j) = d.hd i j := by
  have e : d.O (i + 1) = d.O i + d.S i := rfl
  have h1 := d.O_mono' (show i + 1 ≤ d.m by omega)
  unfold C
  rw [if_pos (by omega)]
  have h2 := d.P_stable (i + 1) (d.m - (i + 1)) (d.O i + j) (by omega)
  rw [show i + 1 + (d.m - (i + 1)) = d.m from by omega] at h2
  rw [h2]
  show (if d.O i + j < d.O i then _ else d.hd i (d.O i + j - d.O i)) = _
  rw [if_neg (by omega), Nat.add_sub_cancel_left]
theorem K_le (i : Nat) : d.K i ≤ 255 := by rcases d.K_cases i with h | h | h | h | h <;> omega
theorem N_le {d : D} (h : d.Ok) (i : Nat) : d.N i ≤ 255 := by
  unfold N
  split
  · exact d.K_le i
  · rcases h.fi with e | e <;> omega
theorem hd_le {d : D} (h : d.Ok) (i j : Nat) : d.hd i j ≤ 255 := by
  have := h.L i
  have := h.Fr i
  have := h.Z i
  have := N_le h (i + 1)
  unfold hd
  repeat' split
  all_goals omega
theorem base_le {d : D} (h : d.Ok) (k : Nat) : d.base k ≤ 255 := by
  have := N_le h 0
  have := h.py
  unfold base sr ds
  repeat' split
  all_goals omega
theorem P_le {d : D} (h : d.Ok) (i k : Nat) : d.P i k ≤ 255 := by
  induction i with
  | zero => exact base_le h k
  | succ i ih =>
    show (if k < d.O i then d.P i k else d.hd i (k - d.O i)) ≤ 255
    split
    · exact ih
    · exact hd_le h _ _
theorem C_le {d : D} (h : d.Ok) (k : Nat) : d.C k ≤ 255 := by
  unfold C
  split
  · exact P_le h _ _
  · exact h.T _
theorem C_src {d : D} {k : Nat} (hk : k < 16) : d.C (8 + k) = d.sr k := by
  rw [d.C_low (by omega)]
  unfold base
  rw [if_neg (by omega), if_neg (by omega), if_pos (by omega), Nat.add_sub_cancel_left]
theorem C_dst {d : D} {k : Nat} (hk : k < 16) : d.C (24 + k) = d.ds k := by
  rw [d.C_low (by omega)]
  unfold base
  rw [if_neg (by omega), if_pos (by omega), Nat.add_sub_cancel_left]
theorem C_0 : d.C 0 = 96 := by rw [d.C_low (by omega)]; rfl
theorem C_6 : d.C 6 = d.N 0 := by rw [d.C_low (by omega)]; rfl
theorem pay_C {d : D} (h : d.Ok) : pay d.C = d.py := by
  unfold pay
  rw [d.C_low (k := 4) (by omega), d.C_low (k := 5) (by omega)]
  show d.py / 256 * 256 + d.py % 256 = d.py
  omega
/-- The header's need. -/
def nd (i : Nat) : Nat := if d.K i = 44 then 8 else 2
theorem fr_eq {d : D} {i : Nat} (hi : i < d.m) (hk : d.K i = 44) : d.C (d.O i + 2) * 256 + d.C (d.O i + 3) = d.Fr i := by
  have := d.S_ge i
  rw [d.C_hd hi (by omega), d.C_hd hi (by omega)]
  unfold hd
  rw [if_pos hk, if_pos hk]
  show d.Fr i / 256 * 256 + d.Fr i % 256 = _
  omega
theorem stp_cut {l i : Nat} {fg : Bool} (hi : i < d.m) (h : l < d.O i + d.nd i) : stp l d.C (d.K i) (d.O i) fg = .cut := by
  unfold nd at h
  unfold stp
  rcases d.K_cases i with e | e | e | e | e <;> rw [e] at h ⊢ <;> simp at h ⊢ <;> omega
theorem stp_skip {l i : Nat} {fg : Bool} (hi : i < d.m) (h : ¬ l < d.O i + d.nd i) (hk : d.K i = 44) (hh : hiF (d.Fr i) = true) : stp l d.C (d.K i) (d.O i) fg = .skip := by
  unfold nd at h
  rw [if_pos hk] at h
  unfold stp
  rw [hk, if_neg (by omega), if_neg (by omega), if_pos rfl, if_neg h, fr_eq hi hk, if_pos hh]
theorem stp_go {l i : Nat} {fg : Bool} (hi : i < d.m) (h : ¬ l < d.O i + d.nd i) (hh : d.K i = 44 → hiF (d.Fr i) = false) : stp l d.C (d.K i) (d.O i) fg = .go (d.S i) (fg || (decide (d.K i = 44) && loF (d.Fr i))) := by
  have hs := d.S_ge i
  have hL : d.C (d.O i + 1) = d.L i := by
    rw [d.C_hd hi (by omega)]
    unfold hd
    split <;> rfl
  by_cases hk : d.K i = 44
  · unfold nd at h
    rw [if_pos hk] at h
    have e : d.S i = 8 := by unfold S siz; rw [if_pos hk]
    unfold stp
    rw [e, hk, if_neg (by omega), if_neg (by omega), if_pos rfl, if_neg h, fr_eq hi hk, hh hk, if_neg Bool.false_ne_true]
    simp
  · unfold nd at h
    rw [if_neg hk] at h
    rw [decide_eq_false hk, Bool.false_and, Bool.or_false]
    unfold stp
    rw [hL]
    have e : d.S i = if d.K i = 51 then (d.L i + 2) * 4 else (d.L i + 1) * 8 := by unfold S siz; rw [if_neg hk]
    rw [e]
    rcases d.K_cases i with e | e | e | e | e <;> rw [e] <;> simp [h] <;> omega
theorem N_ne {i : Nat} (hi : i < d.m) : d.N i = d.K i := by unfold N; rw [if_pos hi]
theorem K_ne6 (i : Nat) : ¬ d.K i = 6 := by rcases d.K_cases i with h | h | h | h | h <;> omega
/-- Where decodeIPv6's walk stands ahead of header i. -/
def At (l i : Nat) (fg : Bool) : Prop := lp l d.C (l + 2) (d.C 6) 40 false = lp l d.C (l + 2 - i) (d.N i) (d.O i) fg ∧ i ≤ l ∧ i ≤ d.m
theorem at_0 (l : Nat) : d.At l 0 false := ⟨by rw [d.C_6]; rfl, Nat.zero_le _, Nat.zero_le _⟩
theorem at_cut {l i : Nat} {fg : Bool} (h : d.At l i fg) (hi : i < d.m) (hl : l < d.O i + d.nd i) : lp l d.C (l + 2) (d.C 6) 40 false = .cut := by
  rw [h.1, d.N_ne hi, show l + 2 - i = (l + 1 - i) + 1 from by have := h.2.1; omega]
  exact lp_cut (d.K_ne6 i) (d.stp_cut hi hl)
theorem at_skip {l i : Nat} {fg : Bool} (h : d.At l i fg) (hi : i < d.m) (hl : ¬ l < d.O i + d.nd i) (hk : d.K i = 44) (hh : hiF (d.Fr i) = true) : lp l d.C (l + 2) (d.C 6) 40 false = .skip := by
  rw [h.1, d.N_ne hi, show l + 2 - i = (l + 1 - i) + 1 from by have := h.2.1; omega]
  exact lp_skip (d.K_ne6 i) (d.stp_skip hi hl hk hh)
theorem at_go {l i : Nat} {fg : Bool} (h : d.At l i fg) (hi : i < d.m) (hl : ¬ l < d.O i + d.nd i) (hh : d.K i = 44 → hiF (d.Fr i) = false) : d.At l (i + 1) (fg || (decide (d.K i = 44) && loF (d.Fr i))) := by
  have hs := d.S_ge i
  refine ⟨?_, ?_, hi⟩
  · rw [h.1, d.N_ne hi, show l + 2 - i = (l + 2 - (i + 1)) + 1 from by have := h.2.1; omega, lp_go (d.K_ne6 i) (d.stp_go hi hl hh)]
    have e : d.C (d.O i) = d.N (i + 1) := by
      have := d.C_hd (j := 0) hi (by omega)
      rw [Nat.add_zero] at this
      rw [this]
      unfold hd
      split <;> rfl
    rw [e]; rfl
  · have := d.O_ge i
    unfold nd at hl
    split at hl <;> omega
theorem at_end {l : Nat} {fg : Bool} (h : d.At l d.m fg) (hf : d.fi = 6) : lp l d.C (l + 2) (d.C 6) 40 false = .fin (d.O d.m) fg := by
  rw [h.1, show d.N d.m = 6 from by unfold N; rw [if_neg (by omega)]; exact hf, show l + 2 - d.m = (l + 1 - d.m) + 1 from by have := h.2.1; omega]
  exact lp_six
theorem at_udp {l : Nat} {fg : Bool} (h : d.At l d.m fg) (hf : d.fi = 17) : lp l d.C (l + 2) (d.C 6) 40 false = .skip := by
  rw [h.1, show d.N d.m = 17 from by unfold N; rw [if_neg (by omega)]; exact hf, show l + 2 - d.m = (l + 1 - d.m) + 1 from by have := h.2.1; omega]
  exact lp_skip (by omega) (by unfold stp; simp)
end D
theorem byt_app (X G : Nat → Nat) (n s : Nat) : byt X n ++ byt G s = byt (fun k => if k < n then X k else G (k - n)) (n + s) := by
  apply List.ext_getElem?
  intro k
  by_cases h : k < n
  · rw [List.getElem?_append_left (by rw [byt_len]; exact h), byt_at _ _ _ h, byt_at _ _ _ (by omega)]
    simp [h]
  · rw [List.getElem?_append_right (by rw [byt_len]; omega), byt_len]
    by_cases h2 : k < n + s
    · rw [byt_at _ _ _ (by omega), byt_at _ _ _ h2]
      simp [h]
    · rw [List.getElem?_eq_none (by rw [byt_len]; omega), List.getElem?_eq_none (by rw [byt_len]; omega)]
theorem byt_congr {X Y : Nat → Nat} {n : Nat} (h : ∀ k, k < n → X k = Y k) : byt X n = byt Y n := by
  unfold byt
  apply List.map_congr_left
  intro k hk
  rw [h k (by simpa using hk)]
end Go.Proofs.YbulkblsgFmt

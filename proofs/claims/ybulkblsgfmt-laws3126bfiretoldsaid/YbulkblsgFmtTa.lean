import Derived.Test.YbulkblsgFmtSi
import Derived.Laws.Bits64b
import Derived.Lib.ItoaNum
namespace Go.Proofs.YbulkblsgFmt
open Go.RowKit
set_option linter.unusedVariables false
set_option linter.unusedSimpArgs false
/-- The tick of a deadline. -/
def tck (dl g : Nat) : Nat := dl / g + (if dl % g = 0 then 0 else 1)
def lvl (t nx : Nat) : Nat := if t ^^^ nx = 0 then 0 else (Lib.bitLen (t ^^^ nx) - 1) / 6
/-- The list of a tick. -/
def lst (t nx : Nat) : Nat := if t < nx then 704 else lvl t nx * 64 + t / 2 ^ (lvl t nx * 6) % 64
theorem lvl_le (t nx : Nat) (ht : t < 18446744073709551616) (hn : nx < 18446744073709551616) : lvl t nx ≤ 10 := by
  unfold lvl
  split
  · omega
  · have hx : t ^^^ nx < 2 ^ 64 := Nat.xor_lt_two_pow ht hn
    have := Lib.bitLen_le (t ^^^ nx) 64 (by omega) hx
    omega
theorem lst_le (t nx : Nat) (ht : t < 18446744073709551616) (hn : nx < 18446744073709551616) : lst t nx ≤ 704 := by
  have := lvl_le t nx ht hn
  unfold lst
  split
  · omega
  · have h2 : t / 2 ^ (lvl t nx * 6) % 64 < 64 := Nat.mod_lt _ (by omega)
    omega
theorem tck_lt (dl g : Nat) (hdl : dl < 4294967296) : tck dl g < 4294967297 := by
  have := Nat.div_le_self dl g
  unfold tck
  split <;> omega
theorem qrm (dl g : Nat) (hg : 1 ≤ g) : ∃ Q R M : Nat, (dl : Int) / (g : Int) = (Q : Int) ∧ (dl : Int) % (g : Int) = (R : Int) ∧ (Q : Int) * (g : Int) = (M : Int) ∧ M + R = dl ∧ Q ≤ dl ∧ tck dl g = Q + (if R = 0 then 0 else 1) :=
  ⟨dl / g, dl % g, dl / g * g, by simp, by simp, by simp, Nat.div_add_mod' dl g, Nat.div_le_self _ _, rfl⟩
set_option maxHeartbeats 1000000 in
set_option maxRecDepth 100000 in
theorem btick_any (dl g : Nat) (hg : 1 ≤ g) (hg2 : g ≤ 1000) (hdl : dl < 4294967296) (w : World) :
    Calls Ybaf.prog 9 #[.int .u32 (dl : Nat), .int .i64 (g : Nat)] w fun e w' => e = .returned (.int .u64 ((tck dl g : Nat) : Int)) ∧ w' = w := by
  have hg0 : ¬ (g : Int) = 0 := by omega
  obtain ⟨Q, R, M, hd, hr, hm, hs, hQ, ht⟩ := qrm dl g hg
  have HT : Hid (tck dl g = Q + (if R = 0 then 0 else 1)) := ht
  clear ht hm
  generalize tck dl g = T at HT
  go_enter Ybaf.func9, Ybaf.ntmps9
  go_wp2
  · go_ret
    have := HT.out
    rename ((R : Int) != 0) = true => q
    have q2 : R ≠ 0 := fun e => by rw [e] at q; simp at q
    rw [if_neg q2] at this
    exact ⟨by rw [this]; rfl, rfl⟩
  · go_ret
    have := HT.out
    rename ((R : Int) != 0) = false => q
    have q2 : R = 0 := by simpa using q
    rw [if_pos q2] at this
    exact ⟨by rw [this]; rfl, rfl⟩
set_option maxHeartbeats 1000000 in
set_option maxRecDepth 100000 in
theorem tickOf_any (D : Nat) (dl g : Nat) (hg : 1 ≤ g) (hg2 : g ≤ 1000) (hdl : dl < 4294967296) (w : World) (hc : w.cell? ⟨D, 0, none⟩ = some (.int .i64 ((g : Nat) : Int))) :
    Calls Ybaf.prog 23 #[.pointer (some ⟨D, 0, none⟩), .int .i64 ((dl : Nat) : Int)] w fun e w' => e = .returned (.int .u64 ((tck dl g : Nat) : Int)) ∧ w' = w := by
  have hg0 : ¬ (g : Int) = 0 := by omega
  obtain ⟨Q, R, M, hd, hr, hm, hs, hQ, ht⟩ := qrm dl g hg
  have HT : Hid (tck dl g = Q + (if R = 0 then 0 else 1)) := ht
  clear ht hr
  generalize tck dl g = T at HT
  go_enter Ybaf.func23, Ybaf.ntmps23
  go_wp2
  · go_ret
    have := HT.out
    rw [if_neg (by omega)] at this
    exact ⟨by rw [this]; rfl, rfl⟩
  · go_ret
    have := HT.out
    rw [if_pos (by omega)] at this
    exact ⟨by rw [this]; rfl, rfl⟩
set_option maxHeartbeats 1000000 in
set_option maxRecDepth 100000 in
theorem slotOf_any (l t : Nat) (hl : l ≤ 10) (ht : t < 18446744073709551616) (w : World) :
    Calls Ybaf.prog 37 #[.int .i64 ((l : Nat) : Int), .int .u64 ((t : Nat) : Int)] w fun e w' => e = .returned (.int .i32 ((l * 64 + t / 2 ^ (l * 6) % 64 : Nat) : Int)) ∧ w' = w := by
  have hA : (t : Int) / 2 ^ (l * 6) = ((t / 2 ^ (l * 6) : Nat) : Int) := by simp
  generalize t / 2 ^ (l * 6) = A at hA
  have hB : ((A : Nat) : Int).tmod 64 = ((A % 64 : Nat) : Int) := by rw [Int.tmod_eq_emod_of_nonneg (by omega)]; omega
  have hB2 : A % 64 < 64 := Nat.mod_lt _ (by omega)
  generalize A % 64 = B at hB hB2
  go_enter Ybaf.func37, Ybaf.ntmps37
  go_wp2
  go_ret
  exact ⟨by rw [Int.natCast_add, Int.natCast_mul]; rfl, rfl⟩
theorem mark_any (l : Nat) (hl : l ≤ 704) (w : World) : Calls Ybaf.prog 21 #[.int .i32 ((l : Nat) : Int)] w fun e w' => e = .returned (.int .i32 (-1 - (l : Int))) ∧ w' = w := by
  go_enter Ybaf.func21, Ybaf.ntmps21
  go_wp2
  go_ret
  exact ⟨rfl, rfl⟩
theorem nz {X : Nat} (h : ((X : Int) != 0) = true) : X ≠ 0 := fun e => by rw [e] at h; simp at h
theorem zz {X : Nat} (h : ((X : Int) != 0) = false) : X = 0 := by simpa using h
theorem slotI (l t : Nat) (x : Int) (hl : l ≤ 10) (ht : t < 18446744073709551616) (w : World) (hx : x = (l : Nat)) :
    Calls Ybaf.prog 37 #[.int .i64 x, .int .u64 ((t : Nat) : Int)] w fun e w' => e = .returned (.int .i32 ((l * 64 + t / 2 ^ (l * 6) % 64 : Nat) : Int)) ∧ w' = w := by
  subst hx
  exact slotOf_any l t hl ht w
set_option maxHeartbeats 1000000 in
set_option maxRecDepth 100000 in
theorem listFor_any (D t nx : Nat) (ht : t < 18446744073709551616) (hn : nx < 18446744073709551616) (w : World) (hc : w.cell? ⟨D, 2, none⟩ = some (.int .u64 ((nx : Nat) : Int))) :
    Calls Ybaf.prog 24 #[.pointer (some ⟨D, 0, none⟩), .int .u64 ((t : Nat) : Int)] w fun e w' => e = .returned (.int .i32 ((lst t nx : Nat) : Int)) ∧ w' = w := by
  have hlv := lvl_le t nx ht hn
  have HL : Hid (lst t nx = if t < nx then 704 else lvl t nx * 64 + t / 2 ^ (lvl t nx * 6) % 64) := rfl
  have HV : Hid (lvl t nx = if t ^^^ nx = 0 then 0 else (Lib.bitLen (t ^^^ nx) - 1) / 6) := rfl
  have hX : bits .xor .u64 ((t : Nat) : Int) ((nx : Nat) : Int) = ((t ^^^ nx : Nat) : Int) := bits_xor_u64_nat _ _ ht hn
  have hX2 : t ^^^ nx < 18446744073709551616 := Nat.xor_lt_two_pow (n := 64) ht hn
  generalize lst t nx = L at HL
  generalize t ^^^ nx = X at hX hX2 HV
  have hb : Lib.bitLen X ≤ 64 := Lib.bitLen_le X 64 (by omega) hX2
  have hb1 : Hid (X ≠ 0 → 1 ≤ Lib.bitLen X) := fun h => (Lib.bitLenAux_bounds 64 X (by omega) h).1
  have hl := fun w => len64_any ((X : Nat) : Int) w (by omega) (by omega)
  simp only [Int.toNat_natCast] at hl
  generalize Lib.bitLen X = b at hl hb HV hb1
  generalize lvl t nx = V at hlv HV HL
  by_cases hX0 : X = 0
  · have q2 := HV.out
    rw [if_pos hX0] at q2
    have hX1 : (X : Int) = 0 := by omega
    go_enter Ybaf.func24, Ybaf.ntmps24
    go_wp2_with (first
      | (refine (slotI V t _ hlv ht _ (by omega)).mono ?_; rintro e w2 ⟨rfl, rfl⟩))
    · go_ret
      have q := HL.out
      rw [if_pos (by assumption)] at q
      exact ⟨by rw [q]; rfl, rfl⟩
    · go_ret
      have q := HL.out
      rw [if_neg (by omega)] at q
      exact ⟨by rw [q, q2]; simp, rfl⟩
  · have q1 := hb1.out hX0
    have q2 := HV.out
    rw [if_neg hX0] at q2
    have q3 : Hid (((b : Int) - 1) / 6 = (V : Int)) := (by omega : ((b : Int) - 1) / 6 = (V : Int))
    have hX1 : (X : Int) ≠ 0 := by omega
    clear q2 HV hb1
    go_enter Ybaf.func24, Ybaf.ntmps24
    go_wp2_with (first
      | (refine (hl _).mono ?_; rintro e w1 ⟨rfl, rfl⟩)
      | (refine (slotI V t _ hlv ht _ q3.out).mono ?_; rintro e w2 ⟨rfl, rfl⟩))
    · go_ret
      have q := HL.out
      rw [if_pos (by assumption)] at q
      exact ⟨by rw [q]; rfl, rfl⟩
    · go_ret
      have q := HL.out
      rw [if_neg (by omega)] at q
      exact ⟨by rw [q, Int.natCast_add, Int.natCast_mul]; simp, rfl⟩
set_option maxHeartbeats 1000000 in
set_option maxRecDepth 100000 in
theorem blist_any (t nx : Nat) (ht : t < 18446744073709551616) (hn : nx < 18446744073709551616) (w : World) :
    Calls Ybaf.prog 11 #[.int .u64 ((t : Nat) : Int), .int .u64 ((nx : Nat) : Int)] w fun e w' => e = .returned (.int .i32 ((lst t nx : Nat) : Int)) ∧ w' = w := by
  have hlv := lvl_le t nx ht hn
  have HL : Hid (lst t nx = if t < nx then 704 else lvl t nx * 64 + t / 2 ^ (lvl t nx * 6) % 64) := rfl
  have HV : Hid (lvl t nx = if t ^^^ nx = 0 then 0 else (Lib.bitLen (t ^^^ nx) - 1) / 6) := rfl
  have hX : bits .xor .u64 ((t : Nat) : Int) ((nx : Nat) : Int) = ((t ^^^ nx : Nat) : Int) := bits_xor_u64_nat _ _ ht hn
  have hX2 : t ^^^ nx < 18446744073709551616 := Nat.xor_lt_two_pow (n := 64) ht hn
  generalize lst t nx = L at HL
  generalize t ^^^ nx = X at hX hX2 HV
  have hb : Lib.bitLen X ≤ 64 := Lib.bitLen_le X 64 (by omega) hX2
  have hb1 : Hid (X ≠ 0 → 1 ≤ Lib.bitLen X) := fun h => (Lib.bitLenAux_bounds 64 X (by omega) h).1
  have hl := fun w => len64_any ((X : Nat) : Int) w (by omega) (by omega)
  simp only [Int.toNat_natCast] at hl
  generalize Lib.bitLen X = b at hl hb HV hb1
  generalize lvl t nx = V at hlv HV HL
  by_cases hlt : t < nx
  · go_enter Ybaf.func11, Ybaf.ntmps11
    go_wp2
    go_ret
    have q := HL.out
    rw [if_pos hlt] at q
    exact ⟨by rw [q]; rfl, rfl⟩
  have q := HL.out
  rw [if_neg hlt] at q
  clear HL
  have hA : (t : Int) / 2 ^ (V * 6) = ((t / 2 ^ (V * 6) : Nat) : Int) := by simp
  have HL : Hid (L = V * 64 + t / 2 ^ (V * 6) % 64) := q
  clear q
  generalize t / 2 ^ (V * 6) = A at hA HL
  have hB : ((A : Nat) : Int).tmod 64 = ((A % 64 : Nat) : Int) := by rw [Int.tmod_eq_emod_of_nonneg (by omega)]; omega
  have hB2 : A % 64 < 64 := Nat.mod_lt _ (by omega)
  generalize A % 64 = Bq at hB hB2 HL
  by_cases hX0 : X = 0
  · have q2 := HV.out
    rw [if_pos hX0] at q2
    subst q2
    subst hX0
    go_enter Ybaf.func11, Ybaf.ntmps11
    go_wp2
    go_ret
    have e1 : (t : Int) % 64 = (Bq : Int) := by
      have e2 := hB
      rw [Int.tmod_eq_emod_of_nonneg (by omega)] at e2
      simp at hA
      omega
    have e3 := HL.out
    exact ⟨by rw [e3, Nat.zero_mul, Nat.zero_add, ← e1]; rfl, rfl⟩
  · have q1 := hb1.out hX0
    have q2 := HV.out
    rw [if_neg hX0] at q2
    have q3 : ((b : Int) - 1) / 6 = (V : Int) := by omega
    have hX1 : (X : Int) ≠ 0 := by omega
    clear q2 HV hb1
    go_enter Ybaf.func11, Ybaf.ntmps11
    go_wp2_with (first
      | (refine (hl _).mono ?_; rintro e w1 ⟨rfl, rfl⟩))
    go_ret
    exact ⟨by rw [HL.out, Int.natCast_add, Int.natCast_mul]; rfl, rfl⟩
end Go.Proofs.YbulkblsgFmt

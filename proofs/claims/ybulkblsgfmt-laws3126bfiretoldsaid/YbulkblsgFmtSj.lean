import Derived.Test.YbulkblsgFmtSi
import Derived.Laws.Bits64b
import Derived.Lib.ItoaNum
import Derived.Sort.Row
import Derived.Deep.Draws
namespace Go.Proofs.YbulkblsgFmt
open Go.RowKit Go.Sort
set_option linter.unusedVariables false
set_option linter.unusedSimpArgs false
variable {H : Nat} {rv : Value} {N : Nat} {lt : Int → Int → Bool} {S : Array Int → World → Prop}
theorem setset (w : World) (a : Addr) (v v' : Value) (h : a.spot = none) : (w.setCell a v).setCell a v' = w.setCell a v' := by
  obtain ⟨b, o, s⟩ := a
  simp only at h
  subst h
  rw [setCell_eq, setCell_eq, mapBlock_mapBlock, setCell_eq]
  congr 1
  funext c
  simp
theorem xnext_any (B X : Nat) (hX : X < 18446744073709551616) (w : World) (hc : w.cell? ⟨B, 0, none⟩ = some (.int .u64 X)) (hf : w.frozen? ⟨B, 0, none⟩ = false) :
    Calls Ybaf.prog 58 #[.pointer (some ⟨B, 0, none⟩)] w fun e w' => ∃ Y : Nat, Y < 18446744073709551616 ∧ e = .returned (.int .u64 (Y : Nat)) ∧ w' = (w.setCell ⟨B, 0, none⟩ (.int .u64 (Y : Nat))).drewN 3 := by
  have x1 : ∀ a b : Nat, a < 18446744073709551616 → b < 18446744073709551616 → a ^^^ b < 18446744073709551616 := fun a b ha hb => Nat.xor_lt_two_pow (n := 64) ha hb
  have hA := x1 X (X * 8192 % 18446744073709551616) hX (Nat.mod_lt _ (by decide))
  have e1 : bits .xor .u64 (X : Int) (IntKind.u64.wrap ((X : Int) * 8192)) = ((X ^^^ (X * 8192 % 18446744073709551616) : Nat) : Int) := by
    rw [IntKind.wrap_u64, show ((X : Int) * 8192 % 18446744073709551616) = ((X * 8192 % 18446744073709551616 : Nat) : Int) by omega, bits_xor_u64_nat _ _ hX (by omega)]
  revert hA e1
  generalize X ^^^ (X * 8192 % 18446744073709551616) = A
  intro hA e1
  have hB := x1 A (A / 128) hA (by omega)
  have e2 : bits .xor .u64 (A : Int) ((A : Int) / 128) = ((A ^^^ (A / 128) : Nat) : Int) := by
    rw [show ((A : Int) / 128) = ((A / 128 : Nat) : Int) by omega, bits_xor_u64_nat _ _ hA (by omega)]
  revert hB e2
  generalize A ^^^ (A / 128) = C
  intro hB e2
  have hD := x1 C (C * 131072 % 18446744073709551616) hB (Nat.mod_lt _ (by decide))
  have e3 : bits .xor .u64 (C : Int) (IntKind.u64.wrap ((C : Int) * 131072)) = ((C ^^^ (C * 131072 % 18446744073709551616) : Nat) : Int) := by
    rw [IntKind.wrap_u64, show ((C : Int) * 131072 % 18446744073709551616) = ((C * 131072 % 18446744073709551616 : Nat) : Int) by omega, bits_xor_u64_nat _ _ hB (by omega)]
  revert hD e3
  generalize C ^^^ (C * 131072 % 18446744073709551616) = D
  intro hD e3
  clear x1
  have hss : ∀ v v', (w.setCell ⟨B, 0, none⟩ v).setCell ⟨B, 0, none⟩ v' = w.setCell ⟨B, 0, none⟩ v' := fun v v' => setset w _ v v' rfl
  go_enter Ybaf.func58, Ybaf.ntmps58
  go_wp2
  go_region
  all_goals go_wp2
  all_goals go_region
  all_goals go_wp2
  all_goals go_region
  all_goals go_wp2
  go_ret
  exact ⟨D, hD, rfl, rfl⟩
/-- The next power of two is at most twice the length. -/
theorem npow_any (n : Nat) (hn : n < 4611686018427387904) (h1 : 1 ≤ n) (w : World) :
    Calls Ybaf.prog 57 #[.int .i64 (n : Nat)] w fun e w' => ∃ M : Nat, e = .returned (.int .u64 (M : Nat)) ∧ 1 ≤ M ∧ M ≤ 2 * n ∧ w' = w := by
  have hl : ∀ w, Calls Ybaf.prog 38 #[.int .u64 (n : Int)] w fun e w' => e = .returned (.int .i64 (Lib.bitLen n)) ∧ w' = w := fun w => by
    have h := len_any (n : Int) w (by omega) (by omega)
    rwa [Int.toNat_natCast] at h
  have hk : Lib.bitLen n ≤ 62 := Lib.bitLen_le n 62 (by omega) (by omega)
  have hb := Lib.bitLenAux_bounds 64 n (by omega) (by omega)
  change 1 ≤ Lib.bitLen n ∧ 2 ^ (Lib.bitLen n - 1) ≤ n ∧ n < 2 ^ Lib.bitLen n at hb
  generalize Lib.bitLen n = k at hl hk hb
  have hp : IntKind.u64.wrap ((2 : Int) ^ k) = ((2 ^ k : Nat) : Int) := by
    have h : (2 : Nat) ^ k ≤ 2 ^ 62 := Nat.pow_le_pow_right (by decide) hk
    rw [IntKind.wrap_u64, show ((2 : Int) ^ k) = ((2 ^ k : Nat) : Int) by push_cast; rfl]
    generalize (2 : Nat) ^ k = p at h
    omega
  have hM : 2 ^ k ≤ 2 * n := by
    obtain ⟨m, rfl⟩ : ∃ m, k = m + 1 := ⟨k - 1, by omega⟩
    have := hb.2.1
    simp only [Nat.add_sub_cancel] at this
    rw [Nat.pow_succ]; omega
  have hM1 : 1 ≤ 2 ^ k := Nat.one_le_two_pow
  clear hb
  go_enter Ybaf.func57, Ybaf.ntmps57
  go_wp2_with (first | (refine (hl _).mono ?_; rintro e w' ⟨rfl, rfl⟩))
  go_ret
  exact ⟨2 ^ k, rfl, hM1, hM, rfl⟩
theorem Srt.drewN (X : Srt H rv N lt S) (d : Array Int) (w : World) (n : Nat) (h : S d w) : S d (w.drewN n) := by
  induction n with
  | zero => exact h
  | succ n ih => exact X.drew _ _ ih
set_option maxHeartbeats 4000000 in
set_option maxRecDepth 100000 in
theorem brk_any (X : Srt H rv N lt S) (a b : Nat) (d : Array Int) (w : World) (hS : S d w) (hab : a + 12 < b) (hb : b ≤ N) :
    Calls Ybaf.prog 47 #[.iface 83 rv, .int .i64 (a : Nat), .int .i64 (b : Nat)] w fun e w' => e = .returned (.tuple #[]) ∧ ∃ d', S d' w' ∧ PermIn a b d d' := by
  have hsz := X.small
  have hbig := X.big d w hS
  have mS := X.mswap; have eS := e104
  have hds := X.size d w hS
  go_enter Ybaf.func47, Ybaf.ntmps47
  go_wp2_with (first
    | (rw [show ((b : Int) - (a : Int)) = ((b - a : Nat) : Int) by omega]; refine (npow_any (b - a) (by omega) (by omega) _).mono ?_; rintro e w1 ⟨M, rfl, hM1, hM2, rfl⟩))
  have hS0 : S d (w.alloc (.cells #[.int .u64 ((b - a : Nat) : Int)] 141)) := X.alloc _ _ _ hS
  go_loopw [9] (fun vi wr => ∃ (i : Int) (dk : Array Int) (R : Nat), vi = .int .i64 i ∧ (a : Int) + 5 ≤ i ∧ i ≤ a + (b - a) / 4 * 2 + 2 ∧ R < 18446744073709551616 ∧ S dk wr ∧ PermIn a b d dk ∧ wr.cell? ⟨w.heap.size, 0, none⟩ = some (.int .u64 (R : Nat)) ∧ wr.frozen? ⟨w.heap.size, 0, none⟩ = false) (fun vi _ => (a + (b - a) / 4 * 2 + 3 - intOf vi).toNat)
  case atStart => exact ⟨_, d, b - a, rfl, by omega, by omega, by omega, hS0, permIn_refl _ _ _, by go_simp, by go_simp⟩
  case round =>
    clear hS0 hS
    obtain ⟨i, dk, R, rfl, hi1, hi2, hR, hSk, hP, hc, hf⟩ := hrel
    have hdk := X.size dk wr hSk
    have HP : Hid (PermIn a b d dk) := hP
    clear hP
    go_wp2_with (first
      | (refine (xnext_any _ R hR _ hc hf).mono ?_; rintro e w1 ⟨Y, hY, rfl, rfl⟩
         have hS1 := X.drewN _ _ 3 (X.set dk wr ⟨w.heap.size, 0, none⟩ (.int .u64 (Y : Nat)) hSk hbig)
         have eA : bits .and .u64 (Y : Int) ((M : Int) - 1) = ((Y &&& (M - 1) : Nat) : Int) := by
           rw [show ((M : Int) - 1) = ((M - 1 : Nat) : Int) by omega, bits_and_u64_nat _ _ hY (by omega)]
         have lA : Y &&& (M - 1) ≤ M - 1 := Nat.and_le_right
         generalize Y &&& (M - 1) = O at eA lA)
      | (refine (X.swapI dk _ _ _ hS1 (by omega) (by omega) (by omega) (by omega)).mono ?_; rintro e w8 ⟨rfl, h8, h9⟩))
    · have q1 : w8.cell? ⟨w.heap.size, 0, none⟩ = some (.int .u64 (Y : Nat)) := (h9 ⟨w.heap.size, 0, none⟩ hbig).1.trans (World.cell?_setCell_same wr ⟨w.heap.size, 0, none⟩ _ hc)
      have q2 : w8.frozen? ⟨w.heap.size, 0, none⟩ = false := (h9 ⟨w.heap.size, 0, none⟩ hbig).2.trans (by show (wr.setCell _ _).frozen? _ = false; rw [World.frozen?_setCell]; exact hf)
      exact ⟨⟨_, _, Y, rfl, by omega, by omega, hY, h8 i.toNat (a + (O - (b - a))) (by omega) (by omega), permIn_trans _ _ _ a b HP.out (swp_permIn _ _ _ _ _ (by omega) (by omega) (by omega) (by omega) (by omega)), q1, q2⟩, by simp [intOf]; omega⟩
    · have q1 : w8.cell? ⟨w.heap.size, 0, none⟩ = some (.int .u64 (Y : Nat)) := (h9 ⟨w.heap.size, 0, none⟩ hbig).1.trans (World.cell?_setCell_same wr ⟨w.heap.size, 0, none⟩ _ hc)
      have q2 : w8.frozen? ⟨w.heap.size, 0, none⟩ = false := (h9 ⟨w.heap.size, 0, none⟩ hbig).2.trans (by show (wr.setCell _ _).frozen? _ = false; rw [World.frozen?_setCell]; exact hf)
      exact ⟨⟨_, _, Y, rfl, by omega, by omega, hY, h8 i.toNat (a + O) (by omega) (by omega), permIn_trans _ _ _ a b HP.out (swp_permIn _ _ _ _ _ (by omega) (by omega) (by omega) (by omega) (by omega)), q1, q2⟩, by simp [intOf]; omega⟩
    · go_end0
      exact ⟨rfl, dk, hSk, HP.out⟩
end Go.Proofs.YbulkblsgFmt

import Derived.Test.YbulkblsgFmtReg
import Derived.Sort.AssemblyPlain
import Derived.Sort.WalkA
import Derived.Deep.LoopGhost
namespace Go.Proofs.YbulkblsgFmt
open Go.RowKit Go.Sort
set_option linter.unusedVariables false
set_option linter.unusedSimpArgs false
/-- A receiver of sort.Interface whose methods answer over a row d of N ints, in the worlds of S. Blocks from H on are the sort's own. -/
structure Srt (H : Nat) (rv : Value) (N : Nat) (lt : Int → Int → Bool) (S : Array Int → World → Prop) : Prop where
  size : ∀ d w, S d w → d.size = N
  small : N < 4611686018427387904
  drew : ∀ d w, S d w → S d w.drew
  big : ∀ d w, S d w → H ≤ w.heap.size
  alloc : ∀ d w o, S d w → S d (w.alloc o)
  set : ∀ d w (a : Addr) v, S d w → H ≤ a.block → S d (w.setCell a v)
  mlen : ∀ w, Sem.run Ybaf.prog (method (Ybaf.prog.types.size + 100) 83 rv "Len") w = .ok (102, rv) w
  mless : ∀ w, Sem.run Ybaf.prog (method (Ybaf.prog.types.size + 100) 83 rv "Less") w = .ok (103, rv) w
  mswap : ∀ w, Sem.run Ybaf.prog (method (Ybaf.prog.types.size + 100) 83 rv "Swap") w = .ok (104, rv) w
  len : ∀ d w, S d w → Calls Ybaf.prog 102 #[rv] w fun e w' => e = .returned (.int .i64 (N : Nat)) ∧ S d w'
  less : ∀ d w (i j : Nat), S d w → i < N → j < N → Calls Ybaf.prog 103 #[rv, .int .i64 (i : Nat), .int .i64 (j : Nat)] w fun e w' => e = .returned (.bool (lt d[i]! d[j]!)) ∧ S d w' ∧ ∀ a : Addr, H ≤ a.block → w'.cell? a = w.cell? a ∧ w'.frozen? a = w.frozen? a
  swap : ∀ d w (i j : Nat), S d w → i < N → j < N → Calls Ybaf.prog 104 #[rv, .int .i64 (i : Nat), .int .i64 (j : Nat)] w fun e w' => e = .returned (.tuple #[]) ∧ S (swp d i j) w' ∧ ∀ a : Addr, H ≤ a.block → w'.cell? a = w.cell? a ∧ w'.frozen? a = w.frozen? a
theorem e102 (args : Array Value) (w : World) : (callFunc 102 args).run Ybaf.prog w = .ok (.enter 102 args) w := by kernel_rfl
theorem e103 (args : Array Value) (w : World) : (callFunc 103 args).run Ybaf.prog w = .ok (.enter 103 args) w := by kernel_rfl
theorem e104 (args : Array Value) (w : World) : (callFunc 104 args).run Ybaf.prog w = .ok (.enter 104 args) w := by kernel_rfl
variable {H : Nat} {rv : Value} {N : Nat} {lt : Int → Int → Bool} {S : Array Int → World → Prop}
theorem Srt.lessI (X : Srt H rv N lt S) (d : Array Int) (w : World) (x y : Int) (h : S d w) (hx : 0 ≤ x) (hx' : x < N) (hy : 0 ≤ y) (hy' : y < N) :
    Calls Ybaf.prog 103 #[rv, .int .i64 x, .int .i64 y] w fun e w' => e = .returned (.bool (lt d[x.toNat]! d[y.toNat]!)) ∧ S d w' ∧ ∀ a : Addr, H ≤ a.block → w'.cell? a = w.cell? a ∧ w'.frozen? a = w.frozen? a := by
  have := X.less d w x.toNat y.toNat h (by omega) (by omega)
  rwa [Int.toNat_of_nonneg hx, Int.toNat_of_nonneg hy] at this
theorem Srt.swapI (X : Srt H rv N lt S) (d : Array Int) (w : World) (x y : Int) (h : S d w) (hx : 0 ≤ x) (hx' : x < N) (hy : 0 ≤ y) (hy' : y < N) :
    Calls Ybaf.prog 104 #[rv, .int .i64 x, .int .i64 y] w fun e w' => e = .returned (.tuple #[]) ∧ (∀ i j : Nat, (i : Int) = x → (j : Int) = y → S (swp d i j) w') ∧ ∀ a : Addr, H ≤ a.block → w'.cell? a = w.cell? a ∧ w'.frozen? a = w.frozen? a := by
  have := X.swap d w x.toNat y.toNat h (by omega) (by omega)
  rw [Int.toNat_of_nonneg hx, Int.toNat_of_nonneg hy] at this
  refine this.mono ?_
  rintro e w' ⟨rfl, h1, h2⟩
  exact ⟨rfl, fun i j hi hj => by rwa [show x.toNat = i by omega, show y.toNat = j by omega] at h1, h2⟩
set_option maxHeartbeats 2000000 in
set_option maxRecDepth 100000 in
theorem ins_any (X : Srt H rv N lt S) (a b : Nat) (d : Array Int) (w : World) (hS : S d w) (hab : a ≤ b) (hb : b ≤ N) :
    Calls Ybaf.prog 45 #[.iface 83 rv, .int .i64 (a : Nat), .int .i64 (b : Nat)] w fun e w' => e = .returned (.tuple #[]) ∧ S (Sort.insertionSort lt d a b) w' := by
  have hsz := X.small
  have mL := X.mless; have mS := X.mswap
  have eL := e103; have eS := e104
  go_enter Ybaf.func45, Ybaf.ntmps45
  go_wp2
  go_loopw [6] (fun vi wr => ∃ (i : Nat) (dk : Array Int), vi = .int .i64 (i : Nat) ∧ a < i ∧ i ≤ b + 1 ∧ S dk wr ∧ insOuter lt a b i dk = insOuter lt a b (a + 1) d) (fun vi _ => b + 1 - (intOf vi).toNat)
  case atStart => exact ⟨a + 1, d, by go_num, by omega, by omega, hS, rfl⟩
  case round =>
    obtain ⟨i, dk, rfl, hai, hib, hSk, hO⟩ := hrel
    have HO : Hid (insOuter lt a b i dk = insOuter lt a b (a + 1) d) := hO
    clear hO hS
    go_wp2
    · have hlt : i < b := by assumption
      go_loopw [7] (fun vj wr2 => ∃ (j : Nat) (dj : Array Int), vj = .int .i64 (j : Nat) ∧ a ≤ j ∧ j ≤ i ∧ S dj wr2 ∧ insInner lt a j dj = insInner lt a i dk) (fun vj _ => (intOf vj).toNat)
      case atStart => exact ⟨i, dk, rfl, by omega, Nat.le_refl _, hSk, rfl⟩
      case round =>
        obtain ⟨j, dj, rfl, haj, hji, hSj, hI⟩ := hrel
        have HI : Hid (insInner lt a j dj = insInner lt a i dk) := hI
        clear hI hSk
        have out : (j ≤ a ∨ lt dj[j]! dj[j - 1]! = false) → insOuter lt a b (i + 1) dj = insOuter lt a b (a + 1) d := fun hs => by
          rw [← HO.out, insOuter_go _ _ _ _ _ hlt, ← HI.out, insInner_stop _ _ _ _ hs]
        have OUT : Hid _ := out
        clear out
        by_cases hja : a < j
        · have hl := X.less dj wr j (j - 1) hSj (by omega) (by omega)
          rw [show (((j - 1 : Nat) : Int)) = (j : Int) - 1 by omega] at hl
          cases hlv : lt dj[j]! dj[j - 1]! with
          | true =>
            rw [hlv] at hl
            have hsw := fun wx h => X.swap dj wx j (j - 1) h (by omega) (by omega)
            rw [show (((j - 1 : Nat) : Int)) = (j : Int) - 1 by omega] at hsw
            go_wp2_with (first
              | (refine hl.mono ?_; rintro e w' ⟨rfl, h1, -⟩)
              | (refine (hsw _ h1).mono ?_; rintro e w'' ⟨rfl, h2, -⟩))
            go_roundw
            case rel =>
              (repeat apply Exists.intro)
              exact ⟨⟨j - 1, swp dj j (j - 1), rfl, by omega, by omega, h2, by rw [← HI.out, insInner_go lt a j dj hja hlv]⟩, by rw [decide_eq_true hlt, show ((j - 1 : Nat) : Int) = (j : Int) - 1 by omega]⟩
            case measure => simp [intOf]; omega
          | false =>
            rw [hlv] at hl
            go_wp2_with (refine hl.mono ?_; rintro e w' ⟨rfl, h1, -⟩)
            go_roundw
            case rel => exact ⟨i + 1, dj, by go_num, by omega, by omega, h1, OUT.out (Or.inr hlv)⟩
            case measure => simp [intOf]; omega
        · go_wp2
          go_roundw
          case rel => exact ⟨i + 1, dj, by go_num, by omega, by omega, hSj, OUT.out (Or.inl (by omega))⟩
          case measure => simp [intOf]; omega
    · have hge : ¬ i < b := by assumption
      go_end0
      exact ⟨rfl, by unfold Sort.insertionSort; rw [← HO.out, insOuter_stop _ _ _ _ _ hge]; exact hSk⟩
end Go.Proofs.YbulkblsgFmt

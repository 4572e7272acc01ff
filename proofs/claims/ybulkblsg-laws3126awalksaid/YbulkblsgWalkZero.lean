import Derived.Test.YbulkblsgWalk
namespace Go.Proofs.Ybulkblsg
open Go.RowKit
set_option linter.unusedVariables false

set_option maxHeartbeats 400000 in
theorem walk_long (a0 : Option Addr) (len0 cap0 : Nat) (cv lv : Value) (w : World) (h : 4096 < len0) :
    Calls Yba.prog 4 #[.slice a0 len0 cap0, cv, lv] w fun e w' => e = .returned (.bool true) ∧ Below w.heap.size w w' := by
  have h' : decide ((4096 : Int) < (len0 : Int)) = true := by simp; omega
  go_enter Yba.func4, Yba.ntmps4
  go_wp2
  go_ret
  exact ⟨rfl, Below.refl _ _⟩

set_option maxHeartbeats 400000 in
theorem walk_zero_at (ar : Option Addr) (cap : Nat) (cv : Value) (lone : Bool) (a : Option Addr) (n c : Nat) (w : World)
    (h6 : Calls Yba.prog 6 #[.slice ar 0 cap, cv, .bool lone] w fun e w' => e = .returned (.pointer (some ⟨w.heap.size, 0, none⟩)) ∧ ∃ a n c, w'.cell? ⟨w.heap.size, 0, none⟩ = some (.slice a n c) ∧ Below w.heap.size w w' ∧ n ≤ 1 ∧
      Calls Yba.prog 5 #[.pointer (some ⟨w.heap.size, 0, none⟩)] w' fun e w'' => e = .returned (.agg #[.int .i64 n, .int .i64 0]) ∧ Below w'.heap.size w' w'') :
    Calls Yba.prog 4 #[.slice ar 0 cap, cv, .bool lone] w fun e w' => e = .returned (.bool true) ∧ Below w.heap.size w w' := by
  have H6 := (show Hid _ from h6)
  clear h6
  go_enter Yba.func4, Yba.ntmps4
  go_wp2_with fail
  refine Calls.mono H6.out ?_
  rintro e w1 ⟨rfl, a, n, c, qh, hbel, hn1, h5⟩
  have H5 := (show Hid _ from h5)
  clear h5 H6
  go_wp2_with fail
  refine Calls.mono H5.out ?_
  rintro e w2 ⟨rfl, hb2⟩
  have hs2 := hb2.size
  have hN1 : w.heap.size < w1.heap.size := World.block_lt_of_cell? w1 _ qh
  have qh2 : w2.cell? ⟨w.heap.size, 0, none⟩ = some (.slice a n c) := by rw [hb2.cell (by exact hN1)]; exact qh
  have hN2 : w.heap.size < w2.heap.size := by omega
  clear H5
  go_wp2_with fail
  go_loopw [9] (fun si wr => si = .int .i64 0 ∧ wr.cell? ⟨w2.heap.size, 0, none⟩ = some (.int .i64 n) ∧ wr.cell? ⟨w2.heap.size, 1, none⟩ = some (.int .i64 0) ∧ Below w2.heap.size w2 wr) (fun _ _ => 0)
  case atStart => exact ⟨rfl, by simp, by simp, (Below.refl _ _).alloc (Nat.le_refl _) _⟩
  case round =>
    obtain ⟨rfl, q0, q1, hbw⟩ := hrel
    have hqr : w2.heap.size < wr.heap.size := World.block_lt_of_cell? wr _ q0
    have qh3 : wr.cell? ⟨w.heap.size, 0, none⟩ = some (.slice a n c) := by rw [hbw.cell (by exact hN2)]; exact qh2
    go_wp2_with fail
    refine (at_end w.heap.size a n c n 0 _ qh3 (Nat.le_refl _) (by omega)).mono ?_
    rintro e w3 ⟨rfl, hb3⟩
    have hs3 := hb3.size
    have v0 : w3.cell? ⟨w2.heap.size, 0, none⟩ = some (.int .i64 n) := by rw [hb3.cell (by exact hqr)]; exact q0
    have v1 : w3.cell? ⟨w2.heap.size, 1, none⟩ = some (.int .i64 0) := by rw [hb3.cell (by exact hqr)]; exact q1
    have hq3s : w2.heap.size < w3.heap.size := by omega
    have qh4 : w3.cell? ⟨w.heap.size, 0, none⟩ = some (.slice a n c) := by rw [hb3.cell (by show w.heap.size < wr.heap.size; omega)]; exact qh3
    have hb12 : Below w.heap.size w w3 := hbel.trans ((hb2.mono (by omega)).trans ((hbw.mono (by omega)).trans (hb3.mono (by omega))))
    have hw3 : w.heap.size ≤ w3.heap.size := by omega
    go_wp2_with fail
    go_region_with (go_at_call 9; refine (end_any w.heap.size a n c _ (by exact cell_later (((Below.refl w3.heap.size w3).alloc (Nat.le_refl _) _).drew) qh4)).mono ?_; rintro e w5 ⟨rfl, hb5⟩; have hb6 : Below w3.heap.size w3 w5 := (((Below.refl w3.heap.size w3).alloc (Nat.le_refl _) _).drew).trans (hb5.mono (by simp)); have z0 : w5.cell? ⟨w2.heap.size, 0, none⟩ = some (.int .i64 n) := (by rw [hb6.cell (by exact hq3s)]; exact v0); have z1 : w5.cell? ⟨w2.heap.size, 1, none⟩ = some (.int .i64 0) := (by rw [hb6.cell (by exact hq3s)]; exact v1); clear hb5)
    all_goals
      go_wp2
      go_ret
      exact ⟨rfl, hb12.trans (hb6.mono hw3)⟩

theorem walk_zero (ar ac : Option Addr) (cap lc cc : Nat) (lone : Bool) (w : World) :
    Calls Yba.prog 4 #[.slice ar 0 cap, .slice ac lc cc, .bool lone] w fun e w' => e = .returned (.bool true) ∧ Below w.heap.size w w' := by
  refine walk_zero_at ar cap _ lone none 0 0 w ?_
  cases lone with
  | false =>
    refine (build_none ar ac cap lc cc w).mono fun e w' ⟨he, hc, hb⟩ => ⟨he, none, 0, 0, hc, hb, by omega, ?_⟩
    exact first_nil _ none 0 0 _ hc rfl
  | true =>
    refine (build_lone ar ac cap lc cc w).mono fun e w' ⟨he, g, a1, hc, hg, hb⟩ => ⟨he, _, 1, 1, hc, hb, by omega, ?_⟩
    exact first_empty _ g 1 1 a1 4 _ hc (by omega) hg

end Go.Proofs.Ybulkblsg

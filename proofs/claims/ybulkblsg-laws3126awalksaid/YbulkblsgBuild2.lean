import Derived.Test.YbulkblsgBuild
namespace Go.Proofs.Ybulkblsg
open Go.RowKit
set_option linter.unusedVariables false

/-- No runs, not lone: no chunk. -/
theorem build_none (ar ac : Option Addr) (cap lc cc : Nat) (w : World) :
    Calls Yba.prog 6 #[.slice ar 0 cap, .slice ac lc cc, .bool false] w fun e w' => e = .returned (.pointer (some ⟨w.heap.size, 0, none⟩)) ∧ w'.cell? ⟨w.heap.size, 0, none⟩ = some (.slice none 0 0) ∧ Below w.heap.size w w' := by
  go_enter Yba.func6, Yba.ntmps6
  go_wp2
  go_ret
  exact ⟨rfl, by simp, (Below.refl _ _).alloc (Nat.le_refl _) _⟩

/-- No runs, lone: one empty chunk. -/
theorem build_lone (ar ac : Option Addr) (cap lc cc : Nat) (w : World) :
    Calls Yba.prog 6 #[.slice ar 0 cap, .slice ac lc cc, .bool true] w fun e w' => e = .returned (.pointer (some ⟨w.heap.size, 0, none⟩)) ∧
      ∃ g a1, w'.cell? ⟨w.heap.size, 0, none⟩ = some (.slice (some ⟨g, 0, none⟩) 1 1) ∧ w'.cell? ⟨g, 0, none⟩ = some (.slice a1 0 4) ∧ Below w.heap.size w w' := by
  have hmk : ∀ w, (Instr.makeSlice 27 (.int .i64 0) (.int .i64 4)).run Yba.prog w = .ok (.slice (some ⟨w.heap.size, 0, none⟩) 0 4) (w.alloc (.cells #[.int .i64 0, .int .i64 0, .int .i64 0, .int .i64 0, .int .i64 0, .int .i64 0, .int .i64 0, .int .i64 0, .int .i64 0, .int .i64 0, .int .i64 0, .int .i64 0] 29)) := fun _ => by kernel_rfl
  go_enter Yba.func6, Yba.ntmps6
  go_wp2
  go_ret
  exact ⟨rfl, w.heap.size + 1 + 1, some ⟨w.heap.size + 1, 0, none⟩, by simp [go_sem], by simp [go_sem], (((Below.refl _ _).alloc (Nat.le_refl _) _).alloc (by simp) _).alloc (by simp; omega) _⟩

set_option maxHeartbeats 400000 in
theorem build_nocuts (b off len cap cc : Nat) (ac : Option Addr) (lone : Bool) (S E V : Nat → Int) (w : World) (hl : len ≤ 4096) (hlen : 0 < len)
    (hb : b < w.heap.size)
    (hr : ∀ i, i < len → w.cell? ⟨b, off + i * 3, none⟩ = some (.int .i64 (S i)) ∧ w.cell? ⟨b, off + i * 3 + 1, none⟩ = some (.int .i64 (E i)) ∧ w.cell? ⟨b, off + i * 3 + 2, none⟩ = some (.int .i64 (V i))) :
    Calls Yba.prog 6 #[.slice (some ⟨b, off, none⟩) len cap, .slice ac 0 cc, .bool lone] w fun e w' =>
      e = .returned (.pointer (some ⟨w.heap.size, 0, none⟩)) ∧ ∃ n v cs h m st, Chunks w.heap.size w w' S E V len n v cs h m st := by
  obtain ⟨i29, hi29, hz29, hs29, hb29⟩ := info_parts Yba.info29
  obtain ⟨i27, hi27, hz27, hs27, hb27⟩ := info_parts Yba.info27
  have hl0 : ((len : Int) == 0) = false := by simp; omega
  go_enter Yba.func6, Yba.ntmps6
  go_wp2_with fail
  go_loopw [8, 9] (fun si sj wr => ∃ i j n v cs h m st, i ≤ len ∧ j ≤ i ∧ si = .int .i64 (i : Nat) ∧ sj = .int .i64 (j : Nat) ∧ n ≤ i ∧ Chunks w.heap.size w wr S E V i n v cs h m st) (fun si _ _ => len - (intOf si).toNat)
  case atStart =>
    refine ⟨0, 0, 0, .slice none 0 0, [], fun _ => 0, fun _ => 0, fun _ => 0, Nat.zero_le _, Nat.le_refl _, rfl, rfl, Nat.le_refl _, ?_⟩
    exact ⟨by simp, by simp, World.ownsRow_nil _ _ _ _, (Below.refl _ _).alloc (Nat.le_refl _) _, by simp, rfl, rfl, fun p hp => by omega⟩
  case round =>
    obtain ⟨i, j, n, v, cs, h, m, st, hi, hj, rfl, rfl, hni, hC⟩ := hrel
    have HC : Hid (Chunks w.heap.size w wr S E V i n v cs h m st) := hC
    obtain ⟨q0, f0, hown, hbel, hNr, hst0, hstn, hch⟩ := hC
    clear hst0 hstn hch
    by_cases hlt : i < len
    · obtain ⟨sz, hsz0, hsz1, hj3⟩ : ∃ sz : Nat, 0 < sz ∧ sz ≤ len - i ∧ len - i ≤ sz := ⟨len - i, by omega, by omega, by omega⟩
      have hrr : ∀ i, i < len → wr.cell? ⟨b, off + i * 3, none⟩ = some (.int .i64 (S i)) ∧ wr.cell? ⟨b, off + i * 3 + 1, none⟩ = some (.int .i64 (E i)) ∧ wr.cell? ⟨b, off + i * 3 + 2, none⟩ = some (.int .i64 (V i)) := fun i hi => by
        rw [hbel.cell (by exact hb), hbel.cell (by exact hb), hbel.cell (by exact hb)]; exact hr i hi
      have Hrr := (show Hid _ from hrr)
      clear hrr hr
      have hbr : b < wr.heap.size := by have := hbel.size; omega
      obtain ⟨wo, hwo⟩ : ∃ wo : World, wo = wr := ⟨_, rfl⟩
      subst hwo
      all_goals
        go_wp2_with (at_make; refine wpList_make_full _ rfl (.tmp 49) (.tmp 49) 27 rfl (w.heap.size + 1) 29 i29 _ 3 Yba.underlying27 hi29 hz29 hs29 .i64 .i64 _ _ sz rfl rfl (by omega) (by omega) (by rw [hb29]; omega) (by unfold maxLen; omega) (by omega) ?_; intro w1 hown1 hgrow1)
        have hbr1 := below_of_grown_none hgrow1
        have hth := there_of_own hown1
        have hlt1 := (hown1.lt wo.heap.size rfl).2
        clear hown1 hgrow1
        go_loopw [12] (fun sk wi => ∃ k : Nat, k ≤ sz ∧ sk = .int .i64 (k : Nat) ∧ Below wo.heap.size wo wi ∧ wo.heap.size < wi.heap.size ∧ Filled wi wo.heap.size sz S E V i k) (fun sk _ => sz - (intOf sk).toNat)
        case atStart => exact ⟨0, Nat.zero_le _, rfl, hbr1, hlt1, hth, fun k hk => by omega⟩
        case round =>
          obtain ⟨k, hk, rfl, hbi, hlti, hF⟩ := hrel
          by_cases hkl : k < sz
          · obtain ⟨x0, x1, x2, d0, d1, d2, g0, g1, g2⟩ := there_three hF.1 hkl
            obtain ⟨r0, r1, r2⟩ := Hrr.out (i + k) (by omega)
            have t0 : wr.cell? ⟨b, off + (i + k) * 3, none⟩ = some (.int .i64 (S (i + k))) := by rw [hbi.cell (by exact hbr)]; exact r0
            have t1 : wr.cell? ⟨b, off + (i + k) * 3 + 1, none⟩ = some (.int .i64 (E (i + k))) := by rw [hbi.cell (by exact hbr)]; exact r1
            have t2 : wr.cell? ⟨b, off + (i + k) * 3 + 2, none⟩ = some (.int .i64 (V (i + k))) := by rw [hbi.cell (by exact hbr)]; exact r2
            have HF : Hid (Filled wr wo.heap.size sz S E V i k) := hF
            clear r0 r1 r2 hF
            go_wp2
            go_roundw
            case rel => exact ⟨k + 1, by omega, by go_num, (((hbi.setCell (Nat.le_refl _) _).setCell (Nat.le_refl _) _).setCell (Nat.le_refl _) _).alloc (by simp [World.setCell]; omega) _, by simp [World.setCell]; omega, (HF.out.step hkl).alloc _⟩
            case measure => simp [intOf]; omega
          · obtain rfl : k = sz := by omega
            have hq : wr.cell? ⟨w.heap.size, 0, none⟩ = some v := by rw [hbi.cell hNr]; exact q0
            have hf : wr.frozen? ⟨w.heap.size, 0, none⟩ = false := by rw [hbi.frozen hNr]; exact f0
            have hNr2 : w.heap.size < wr.heap.size := by omega
            have HF : Hid (Filled wr wo.heap.size k S E V i k) := hF
            clear hF
            go_wp2_with (at_builtin; refine wpList_append_lies _ rfl (.tmp 76) (.tmp 78) 24 rfl (w.heap.size + 1) 27 i27 (.slice none 0 0) 1 24 Yba.underlying24 hi27 hz27 hs27 hb27 rfl (by decide) v n cs rfl ((own_below hown hbi).alloc _) ⟨wr.heap.size, 0, none⟩ 1 1 [.slice (some ⟨wo.heap.size, 0, none⟩) k k] rfl rfl (cell_one_new _ _ _) (by intro u hu; simp at hu; subst hu; rfl) (by omega) (by unfold maxLen; omega) (by omega) (by simp; omega) (wr.heap.size + 1) (by simp) ?_; intro g cap2 w2 hown2 hgrow2 hat2 hlt2; obtain ⟨e1, e2, e3, e4⟩ := set_behind (own_below hown hbi) hgrow2 hNr2; have R := (show Hid _ from chunks_step HC.out hbi HF.out hlti hsz0 hgrow2 hat2 hown2); rw [hq] at e1; rw [hf] at e2; clear hown2 hgrow2 hat2 hlt2 hown)
            go_roundw
            case rel =>
              obtain ⟨h', m', st', R'⟩ := R.out
              exact ⟨i + k, j + 1, n + 1, _, _, h', m', st', by omega, by omega, by go_num, by go_num, by omega, R'⟩
            case measure => simp [intOf]; omega
    · obtain rfl : i = len := by omega
      go_wp2
      go_ret
      exact ⟨rfl, n, v, cs, h, m, st, HC.out⟩

end Go.Proofs.Ybulkblsg

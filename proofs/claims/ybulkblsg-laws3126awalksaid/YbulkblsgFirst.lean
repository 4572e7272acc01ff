import Derived.Test.YbulkblsgCalls
import Derived.Deep.AppendLies
import Derived.OpenShut
import Derived.Deep.MidRow
import Derived.WalkSmall
namespace Go.Proofs.Ybulkblsg
open Go.RowKit
set_option linter.unusedVariables false

theorem Yba.info29 : (Yba.prog.info? 29).map (fun i => (i.zero, i.size, i.bytes)) = some (some (.agg #[.int .i64 0, .int .i64 0, .int .i64 0]), 3, 24) := by kernel_rfl
theorem Yba.info27 : (Yba.prog.info? 27).map (fun i => (i.zero, i.size, i.bytes)) = some (some (.slice none 0 0), 1, 24) := by kernel_rfl

theorem own_below {w w' : World} {base : Nat} {e : TypeId} {size : Nat} {v : Value} {n : Nat} {xs : List Value} (h : w.ownsRow base e size v n xs) (hb : Below w.heap.size w w') : w'.ownsRow base e size v n xs := by
  obtain ⟨h1, h2⟩ := h
  refine ⟨h1, ?_⟩
  rcases h2 with h2 | ⟨g, cap, cur, hv, hg, hh, r⟩
  · exact Or.inl h2
  · have hlt : g < w.heap.size := (Array.getElem?_eq_some_iff.1 hh).1
    exact Or.inr ⟨g, cap, cur, hv, hg, by rw [hb.block g hlt]; exact hh, r⟩

/-- What the first loop keeps: the set at block N holds v, which owns the chunks cs, the first k of the sizes' lengths. -/
def Built (N : Nat) (sz : Nat → Nat) (w wr : World) (k : Nat) (v : Value) (cs : List Value) : Prop :=
  wr.cell? ⟨N, 0, none⟩ = some v ∧ wr.frozen? ⟨N, 0, none⟩ = false ∧ wr.ownsRow (N + 1) 27 1 v k cs ∧ (∀ j, j < k → ∃ a c, cs[j]? = some (.slice a (sz j) c)) ∧ Below N w wr ∧ N < wr.heap.size


/-- A made row of n elements of three cells is there. -/
theorem there_of_own {w : World} {base g n cap : Nat} {xs : List Value} (h : w.ownsRow base 29 3 (.slice (some ⟨g, 0, none⟩) n cap) n xs) : w.there g 0 (n * 3) := fun j hj => by
  rw [Nat.zero_add]
  refine ⟨?_, h.frozenAt j⟩
  rw [h.cellAt j hj, List.getElem?_eq_getElem (by rw [h.1]; exact hj)]; rfl

theorem below_of_grown_none {w w' : World} (h : w.grownBy w' none) : Below w.heap.size w w' :=
  (Below.refl _ _).grown h (Nat.le_refl _) (fun k e => by cases e)

theorem there_three {w : World} {g n m : Nat} (h : w.there g 0 (n * 3)) (hm : m < n) : ∃ x y z, w.cell? ⟨g, m * 3, none⟩ = some x ∧ w.cell? ⟨g, m * 3 + 1, none⟩ = some y ∧ w.cell? ⟨g, m * 3 + 2, none⟩ = some z ∧
    w.frozen? ⟨g, m * 3, none⟩ = false ∧ w.frozen? ⟨g, m * 3 + 1, none⟩ = false ∧ w.frozen? ⟨g, m * 3 + 2, none⟩ = false := by
  have h0 := h (m * 3) (by omega)
  have h1 := h (m * 3 + 1) (by omega)
  have h2 := h (m * 3 + 2) (by omega)
  simp only [Nat.zero_add] at h0 h1 h2
  obtain ⟨x, hx⟩ := Option.isSome_iff_exists.1 h0.1
  obtain ⟨y, hy⟩ := Option.isSome_iff_exists.1 h1.1
  obtain ⟨z, hz⟩ := Option.isSome_iff_exists.1 h2.1
  exact ⟨x, y, z, hx, hy, hz, h0.2, h1.2, h2.2⟩

theorem there_setCell {w : World} {g o n : Nat} (h : w.there g o n) (a : Addr) (v : Value) : (w.setCell a v).there g o n := fun j hj => by
  obtain ⟨h1, h2⟩ := h j hj
  refine ⟨?_, ?_⟩
  · obtain ⟨u, hu⟩ := Option.isSome_iff_exists.1 h1
    by_cases e : a = ⟨g, o + j, none⟩
    · subst e; rw [World.cell?_setCell_same _ _ _ hu]; rfl
    · rw [World.cell?_setCell_other _ _ _ _ e, hu]; rfl
  · rw [World.frozen?_setCell]; exact h2


theorem set_behind {wr w2 : World} {N k : Nat} {v : Value} {cs : List Value} {o : Obj} (hown : wr.ownsRow (N + 1) 27 1 v k cs) (hg : (wr.alloc o).grownBy w2 v.ownBlock) (hN : N < wr.heap.size) :
    w2.cell? ⟨N, 0, none⟩ = wr.cell? ⟨N, 0, none⟩ ∧ w2.frozen? ⟨N, 0, none⟩ = wr.frozen? ⟨N, 0, none⟩ ∧ Below (N + 1) wr w2 ∧ N < w2.heap.size := by
  have hne : some N ≠ v.ownBlock := fun e => by have := (hown.lt N e.symm).1; omega
  have hs := hg.size
  simp at hs
  refine ⟨?_, ?_, ?_, by omega⟩
  · rw [hg.cell_far ⟨N, 0, none⟩ (by simp; omega) hne, World.cell?_alloc_lt _ _ _ (by exact hN)]
  · rw [hg.frozen_far ⟨N, 0, none⟩ (by simp; omega) hne, World.frozen?_alloc_past _ _ _ (by exact hN)]
  · exact ((Below.refl _ _).alloc (by omega) o).grown hg (by simp; omega) (fun k hk => (hown.lt k hk).1)

theorem built_step {wo wr w2 w : World} {N k : Nat} {sz : Nat → Nat} {v : Value} {cs : List Value} {o : Obj} {a1 : Option Addr} {c1 g cap : Nat} (hB : Built N sz w wo k v cs) (hbi : Below wo.heap.size wo wr)
    (hg : (wr.alloc o).grownBy w2 v.ownBlock)
    (hown2 : w2.ownsRow (N + 1) 27 1 (.slice (some ⟨g, 0, none⟩) (k + 1) cap) (k + 1) (cs ++ [.slice a1 (sz k) c1])) :
    Built N sz w (w2.setCell ⟨N, 0, none⟩ (.slice (some ⟨g, 0, none⟩) (k + 1) cap)) (k + 1) (.slice (some ⟨g, 0, none⟩) (k + 1) cap) (cs ++ [.slice a1 (sz k) c1]) := by
  obtain ⟨q0, f0, hown, hcs, hbel, hN⟩ := hB
  have hs := hbi.size
  have hownr := own_below hown hbi
  obtain ⟨e1, e2, e3, e4⟩ := set_behind hownr hg (by omega)
  have hq : w2.cell? ⟨N, 0, none⟩ = some v := by rw [e1, hbi.cell hN]; exact q0
  have hf : w2.frozen? ⟨N, 0, none⟩ = false := by rw [e2, hbi.frozen hN]; exact f0
  have hl : cs.length = k := by have := hown.1; omega
  refine ⟨World.cell?_setCell_same _ _ _ hq, by rw [World.frozen?_setCell]; exact hf, ownsRow_setCell_below hown2 (by simp) _, ?_, ?_, by simp [World.setCell]; exact e4⟩
  · intro j hj
    by_cases e : j < k
    · obtain ⟨a, c, h⟩ := hcs j e
      exact ⟨a, c, by rw [List.getElem?_append_left (by omega)]; exact h⟩
    · obtain rfl : j = k := by omega
      exact ⟨a1, c1, by rw [List.getElem?_append_right (by omega), hl]; simp⟩
  · exact (hbel.trans ((hbi.mono (by omega)).trans (e3.mono (by omega)))).setCell (Nat.le_refl _) _

set_option maxHeartbeats 400000 in
theorem first_walk (b off len cap : Nat) (z : Nat → Nat) (w : World) (hl : len ≤ 1024) (hz : ∀ j, z j ≤ 255) (hlen : 0 < len)
    (hcell : ∀ i, i < len → w.cell? ⟨b, off + i, none⟩ = some (.int .u8 (z i))) (hb : b < w.heap.size) :
    Calls Yba.prog 3 #[.slice (some ⟨b, off, none⟩) len cap] w fun e w' => e = .returned (.bool true) ∧ Below w.heap.size w w' := by
  obtain ⟨i29, hi29, hz29, hs29, hb29⟩ := info_parts Yba.info29
  obtain ⟨i27, hi27, hz27, hs27, hb27⟩ := info_parts Yba.info27
  go_enter Yba.func3, Yba.ntmps3
  go_wp2_with fail
  go_loopw [4] (fun i wr => ∃ (k : Nat) (v : Value) (cs : List Value), k ≤ len ∧ i = .int .i64 k ∧ Built w.heap.size (fun j => z j % 4) w wr k v cs) (fun i _ => len - (intOf i).toNat)
  case atStart => 
    refine ⟨0, .slice none 0 0, [], Nat.zero_le _, rfl, ?_⟩
    exact ⟨by simp, by simp, World.ownsRow_nil _ _ _ _, fun j hj => by omega, (Below.refl _ _).alloc (Nat.le_refl _) _, by simp⟩
  case round =>
    obtain ⟨k, v, cs, hk, rfl, hB⟩ := hrel
    have HB : Hid (Built w.heap.size (fun j => z j % 4) w wr k v cs) := hB
    obtain ⟨q0, f0, hown, hcs, hbel, hNr⟩ := hB
    by_cases hlt : k < len
    · have hck : wr.cell? ⟨b, off + k, none⟩ = some (.int .u8 (z k)) := by rw [hbel.cell (by exact hb)]; exact hcell k hlt
      have hzk := hz k
      go_wp2_with (at_make; refine wpList_make_full _ rfl (.tmp 28) (.tmp 28) 27 rfl (w.heap.size + 1) 29 i29 _ 3 Yba.underlying27 hi29 hz29 hs29 .i64 .i64 _ _ (z k % 4) rfl rfl (by omega) (by omega) (by rw [hb29]; omega) (by unfold maxLen; omega) (by omega) ?_; intro w1 hown1 hgrow1)
      have hbr := below_of_grown_none hgrow1
      have hth := there_of_own hown1
      clear hown1 hgrow1
      obtain ⟨wo, hwo⟩ : ∃ wo : World, wo = wr := ⟨_, rfl⟩
      subst hwo
      go_loopw [7] (fun j wi => ∃ m : Nat, m ≤ z k % 4 ∧ j = .int .i64 m ∧ Below wo.heap.size wo wi ∧ wi.there wo.heap.size 0 (z k % 4 * 3)) (fun j _ => z k % 4 - (intOf j).toNat)
      case atStart => exact ⟨0, Nat.zero_le _, rfl, hbr, hth⟩
      case round =>
        obtain ⟨m, hm, rfl, hbi, hti⟩ := hrel
        by_cases hml : m < z k % 4
        · obtain ⟨x0, x1, x2, c0, c1, c2, g0, g1, g2⟩ := there_three hti hml
          go_wp2
          go_roundw
          case rel => exact ⟨m + 1, by omega, by go_num, ((hbi.setCell (Nat.le_refl _) _).setCell (Nat.le_refl _) _).setCell (Nat.le_refl _) _, there_setCell (there_setCell (there_setCell hti _ _) _ _) _ _⟩
          case measure => simp [intOf]; omega
        · have hq : wr.cell? ⟨w.heap.size, 0, none⟩ = some v := by rw [hbi.cell hNr]; exact q0
          have hf : wr.frozen? ⟨w.heap.size, 0, none⟩ = false := by rw [hbi.frozen hNr]; exact f0
          have hsz := hbi.size
          clear hti
          go_wp2_with (at_builtin; refine wpList_append_lies _ rfl (.tmp 49) (.tmp 51) 24 rfl (w.heap.size + 1) 27 i27 (.slice none 0 0) 1 24 Yba.underlying24 hi27 hz27 hs27 hb27 rfl (by decide) v k cs rfl ((own_below hown hbi).alloc _) ⟨wr.heap.size, 0, none⟩ 1 1 [.slice (some ⟨wo.heap.size, 0, none⟩) (z k % 4) (z k % 4)] rfl rfl (cell_one_new _ _ _) (by intro u hu; simp at hu; subst hu; rfl) (by omega) (by unfold maxLen; omega) (by omega) (by simp; omega) (wr.heap.size + 1) (by simp) ?_; intro g cap2 w2 hown2 hgrow2 hat2 hlt2; obtain ⟨e1, e2, e3, e4⟩ := set_behind (own_below hown hbi) hgrow2 (by omega); have R := built_step HB.out hbi hgrow2 hown2; rw [hq] at e1; rw [hf] at e2; clear hown2 hgrow2 hat2 hlt2 hown)
          go_roundw
          case rel => exact ⟨k + 1, _, _, by omega, by go_num, R⟩
          case measure => simp [intOf]; omega
    · obtain rfl : k = len := by omega
      clear HB
      obtain ⟨wo, hwo⟩ : ∃ wo : World, wo = wr := ⟨_, rfl⟩
      subst hwo
      obtain ⟨g, cap3, rfl, hg1, hg2⟩ := hown.form hlen
      obtain ⟨a1, c1, hcs0⟩ := hcs 0 hlen
      have hcg : wo.cell? ⟨g, 0, none⟩ = some (.slice a1 (z 0 % 4) c1) := by rw [hown.cellAt 0 (by omega)]; exact hcs0
      have hcb : wo.cell? ⟨b, off, none⟩ = some (.int .u8 (z 0)) := by rw [hbel.cell (by exact hb)]; simpa using hcell 0 hlen
      have hbr : b < wo.heap.size := by have := hbel.size; omega
      have hz0 := hz 0
      have hl0 : ((k : Int) == 0) = false := by simp; omega
      by_cases hz4 : z 0 % 4 = 0
      · have hz5 : (((z 0 : Nat) : Int) % 4 == 0) = true := by simp; omega
        rw [hz4] at hcg
        have HZ : Hid (z 0 % 4 = 0) := hz4
        clear hz4 hcs0
        go_wp2_with fail
        refine (first_empty w.heap.size g k cap3 a1 c1 _ (by rw [World.cell?_alloc_lt _ _ _ (by exact hNr)]; exact q0) hlen (by rw [World.cell?_alloc_lt _ _ _ (by exact hg2)]; exact hcg)).mono ?_
        rintro e w3 ⟨rfl, hb3⟩
        have hs3 := hb3.size
        obtain ⟨p0, p1, r0, r1, hlt3, hb4⟩ := two_behind hb3
        have qN : w3.cell? ⟨w.heap.size, 0, none⟩ = some (.slice (some ⟨g, 0, none⟩) k cap3) := by rw [hb4.cell (by exact hNr)]; exact q0
        have hN3 : w.heap.size < w3.heap.size := by omega
        clear hb3
        go_wp2_with fail
        go_loopw [10] (fun i wl => ∃ m : Nat, m ≤ k ∧ i = .int .i64 m ∧ Below w3.heap.size w3 wl) (fun i _ => k - (intOf i).toNat)
        case atStart => exact ⟨0, Nat.zero_le _, rfl, (Below.refl _ _).alloc (Nat.le_refl _) _⟩
        case round =>
          obtain ⟨m, hm, rfl, hbl⟩ := hrel
          by_cases hml : m < k
          · obtain ⟨am, cm, hcm⟩ := hcs m hml
            have qm : wr.cell? ⟨g, m, none⟩ = some (.slice am (z m % 4) cm) := by rw [hbl.cell (by show g < w3.heap.size; omega), hb4.cell (by exact hg2), hown.cellAt m (by omega)]; exact hcm
            have qb : wr.cell? ⟨b, off + m, none⟩ = some (.int .u8 (z m)) := by rw [hbl.cell (by show b < w3.heap.size; omega), hb4.cell (by exact hbr), hbel.cell (by exact hb)]; exact hcell m hml
            have qN' : wr.cell? ⟨w.heap.size, 0, none⟩ = some (.slice (some ⟨g, 0, none⟩) k cap3) := by rw [hbl.cell (by show w.heap.size < w3.heap.size; omega)]; exact qN
            have hzm := hz m
            have hml' : (m : Int) < (k : Int) := by omega
            have hm0 : (0 : Int) ≤ (m : Int) := by omega
            have heq : ((((z m % 4 : Nat)) : Int) != ((z m : Nat) : Int) % 4) = false := by simp
            clear hcm
            go_wp2
            go_quiet (fail)
            go_wp2
            go_roundw
            case rel => exact ⟨m + 1, by omega, by go_num, below_drewN hbl _⟩
            case measure => simp [intOf]; omega
          · go_wp2
            go_ret
            exact ⟨rfl, hbel.trans ((hb4.trans (hbl.mono (by omega))).mono (by omega))⟩

      · have hz5 : (((z 0 : Nat) : Int) % 4 == 0) = false := by simp; omega
        have HZ : Hid (¬ z 0 % 4 = 0) := hz4
        clear hz4 hcs0
        go_wp2_with fail
        refine (first_some w.heap.size g k cap3 a1 (z 0 % 4) c1 _ (by rw [World.cell?_alloc_lt _ _ _ (by exact hNr)]; exact q0) hlen (by rw [World.cell?_alloc_lt _ _ _ (by exact hg2)]; exact hcg) (by have := HZ.out; omega)).mono ?_
        rintro e w3 ⟨rfl, hb3⟩
        have hs3 := hb3.size
        obtain ⟨p0, p1, r0, r1, hlt3, hb4⟩ := two_behind hb3
        have qN : w3.cell? ⟨w.heap.size, 0, none⟩ = some (.slice (some ⟨g, 0, none⟩) k cap3) := by rw [hb4.cell (by exact hNr)]; exact q0
        have hN3 : w.heap.size < w3.heap.size := by omega
        clear hb3
        go_wp2_with fail
        go_loopw [10] (fun i wl => ∃ m : Nat, m ≤ k ∧ i = .int .i64 m ∧ Below w3.heap.size w3 wl) (fun i _ => k - (intOf i).toNat)
        case atStart => exact ⟨0, Nat.zero_le _, rfl, (Below.refl _ _).alloc (Nat.le_refl _) _⟩
        case round =>
          obtain ⟨m, hm, rfl, hbl⟩ := hrel
          by_cases hml : m < k
          · obtain ⟨am, cm, hcm⟩ := hcs m hml
            have qm : wr.cell? ⟨g, m, none⟩ = some (.slice am (z m % 4) cm) := by rw [hbl.cell (by show g < w3.heap.size; omega), hb4.cell (by exact hg2), hown.cellAt m (by omega)]; exact hcm
            have qb : wr.cell? ⟨b, off + m, none⟩ = some (.int .u8 (z m)) := by rw [hbl.cell (by show b < w3.heap.size; omega), hb4.cell (by exact hbr), hbel.cell (by exact hb)]; exact hcell m hml
            have qN' : wr.cell? ⟨w.heap.size, 0, none⟩ = some (.slice (some ⟨g, 0, none⟩) k cap3) := by rw [hbl.cell (by show w.heap.size < w3.heap.size; omega)]; exact qN
            have hzm := hz m
            have hml' : (m : Int) < (k : Int) := by omega
            have hm0 : (0 : Int) ≤ (m : Int) := by omega
            have heq : ((((z m % 4 : Nat)) : Int) != ((z m : Nat) : Int) % 4) = false := by simp
            clear hcm
            go_wp2
            go_quiet (fail)
            go_wp2
            go_roundw
            case rel => exact ⟨m + 1, by omega, by go_num, below_drewN hbl _⟩
            case measure => simp [intOf]; omega
          · go_wp2
            go_ret
            exact ⟨rfl, hbel.trans ((hb4.trans (hbl.mono (by omega))).mono (by omega))⟩


end Go.Proofs.Ybulkblsg

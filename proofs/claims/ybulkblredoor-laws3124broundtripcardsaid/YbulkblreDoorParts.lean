import Derived.Test.YbulkblreDoorSmall
import Derived.Deep.RegionHeld3
import Derived.Deep.DrawnRows
namespace Go.Proofs.YbulkblreDoor
open Go.RowKit
set_option linter.unusedVariables false
attribute [local go_sem] bs_size bs_append bs_toList bs_extract bs_get
attribute [local go_sem ↓] Go.wp_at_zero Go.wp_at_succ

theorem hid {p : Prop} (h : p) : Hid p := h

/-- suffixKinds, as it lies. -/
structure IsKinds (kb ko kc : Nat) (w : World) : Prop where
  head : w.cell? ⟨0, 0, none⟩ = some (.slice (some ⟨kb, ko, none⟩) 5 kc)
  cell : ∀ i, i < 5 → w.cell? ⟨kb, ko + i, none⟩ = some (.string (bs (nm i)))

theorem IsKinds.below {kb ko kc : Nat} {w w' : World} (h : IsKinds kb ko kc w) (hb : Below w.heap.size w w') : IsKinds kb ko kc w' :=
  ⟨by rw [hb.cell (World.block_lt_of_cell? w _ h.head)]; exact h.head, fun i hi => by rw [hb.cell (World.block_lt_of_cell? w _ (h.cell i hi))]; exact h.cell i hi⟩

/-- A suffix as cells. -/
def sufVals (l : List (Nat × List UInt8)) : List Value := l.flatMap fun x => [.int .i64 x.1, .string (bs x.2)]
theorem sufVals_len (l : List (Nat × List UInt8)) : (sufVals l).length = l.length * 2 := by induction l with | nil => rfl | cons a l ih => simp [sufVals] at ih ⊢; omega
theorem sufVals_get : ∀ (l : List (Nat × List UInt8)) (j : Nat) (h : j < l.length), (sufVals l)[j * 2]? = some (.int .i64 l[j].1) ∧ (sufVals l)[j * 2 + 1]? = some (.string (bs l[j].2))
  | a :: l, 0, _ => by simp [sufVals]
  | a :: l, j + 1, h => by
    have := sufVals_get l j (by simpa using h)
    have e : sufVals (a :: l) = .int .i64 a.1 :: .string (bs a.2) :: sufVals l := rfl
    rw [e, show (j + 1) * 2 = j * 2 + 1 + 1 by omega]
    simpa using this

def sufTexts (l : List (Nat × List UInt8)) : List (List UInt8) := l.map fun x => nm x.1 ++ x.2
def letterL (c : Nat) : List (List UInt8) := if c = 0 then [] else [[UInt8.ofNat c]]
def revL (r : List UInt8) : List (List UInt8) := if r = [] then [] else [[45, 114] ++ r]

theorem encode_ascii (c : Nat) (h : c < 128) : Utf8.encode (c : Int) = bs [UInt8.ofNat c] := by
  have hv : Utf8.valid (c : Int) = true := by simp [Utf8.valid]; omega
  unfold Utf8.encode
  simp [hv, h, bs]


/-- What parts keeps while it goes on: L: the parts so far. -/
def PartsSo (B : Nat) (w wr : World) (sa : Option Addr) (sn sc : Nat) (r : List UInt8) (v : Value) (L : List (List UInt8)) : Prop :=
  (∃ g cap, v = .slice (some ⟨g, 0, none⟩) L.length cap ∧ B < g) ∧ wr.ownsRow B 9 1 v L.length (strVals L) ∧ Below B w wr ∧ B < wr.heap.size ∧
    wr.cell? ⟨B, 2, none⟩ = some (.slice sa sn sc) ∧ wr.cell? ⟨B, 3, none⟩ = some (.string (bs r))

/-- One append more, behind a block laid. -/
theorem PartsSo.step {B : Nat} {w wr w1 w2 : World} {sa : Option Addr} {sn sc : Nat} {r : List UInt8} {v : Value} {L : List (List UInt8)} {x : List UInt8} {g cap : Nat} (h : PartsSo B w wr sa sn sc r v L)
    (hB1 : Below wr.heap.size wr w1) (hg : w1.grownBy w2 v.ownBlock) (hat : v.ownBlock = some g ∨ wr.heap.size ≤ g)
    (hown : w2.ownsRow B 9 1 (.slice (some ⟨g, 0, none⟩) (L.length + 1) cap) (L.length + 1) (strVals L ++ [.string (bs x)])) :
    PartsSo B w w2 sa sn sc r (.slice (some ⟨g, 0, none⟩) (L.length + 1) cap) (L ++ [x]) := by
  obtain ⟨⟨g0, cap0, rfl, hg0⟩, h2, h3, h4, h5, h6⟩ := h
  have hs := hB1.size
  have hs2 := hg.size
  have hne : some B ≠ (Value.slice (some ⟨g0, 0, none⟩) L.length cap0).ownBlock := fun e => by have := Option.some.inj e; simp at this; omega
  have hBB : Below (B + 1) wr w2 := (hB1.mono (by omega)).grown hg (by omega) (fun k hk => by have := Option.some.inj hk; simp at this; omega)
  have el : (L ++ [x]).length = L.length + 1 := by simp
  have ev : strVals (L ++ [x]) = strVals L ++ [.string (bs x)] := by simp [strVals]
  refine ⟨⟨g, cap, by rw [el], ?_⟩, by rw [el, ev]; exact hown, h3.trans (hBB.mono (by omega)), by omega, by rw [hBB.cell (by simp)]; exact h5, by rw [hBB.cell (by simp)]; exact h6⟩
  rcases hat with hat | hat
  · have := Option.some.inj hat; simp at this; omega
  · omega

theorem two_alloc_heap (w : World) (A O : Obj) : ((w.alloc A).alloc O).drew.heap[w.heap.size + 1]? = some O := by
  have h := heap_alloc_new (w.alloc A) O
  rw [World.size_alloc] at h
  exact h
theorem sufTexts_take (Ss : List (Nat × List UInt8)) (k : Nat) (h : k < Ss.length) : sufTexts (Ss.take (k + 1)) = sufTexts (Ss.take k) ++ [nm (Ss[k]).1 ++ (Ss[k]).2] := by
  unfold sufTexts; rw [List.take_succ_eq_append_getElem h, List.map_append]; rfl
theorem parts_len (Ns : List (List UInt8)) (Ss : List (Nat × List UInt8)) (c k : Nat) (h1 : Ns.length ≤ 5000) (h2 : Ss.length ≤ 5000) : (Ns ++ letterL c ++ sufTexts (Ss.take k)).length ≤ 10001 := by
  have h3 : (letterL c).length ≤ 1 := by unfold letterL; split <;> simp
  simp [sufTexts]; omega

set_option maxHeartbeats 1000000 in
theorem parts_any (Ns : List (List UInt8)) (Ss : List (Nat × List UInt8)) (c : Nat) (r : List UInt8) (a ca ba bs' : Nat) (sa : Option Addr) (sc : Nat) (kb ko kc : Nat) (w : World)
    (hN : 0 < Ns.length) (hNl : Ns.length ≤ 5000) (hSl : Ss.length ≤ 5000) (hc : c < 128) (hr : r.length ≤ 1000)
    (hk : ∀ x ∈ Ss, x.1 < 5 ∧ x.2.length ≤ 1000)
    (h1 : w.ownsRow ba 9 1 (.slice (some ⟨a, 0, none⟩) Ns.length ca) Ns.length (strVals Ns))
    (hs0 : ∀ k, k < Ss.length → ∃ g, sa = some ⟨g, 0, none⟩)
    (h2 : w.ownsRow bs' 26 2 (.slice sa Ss.length sc) Ss.length (sufVals Ss)) (hK : IsKinds kb ko kc w) :
    Calls Ybad.prog 5 #[.agg #[.slice (some ⟨a, 0, none⟩) Ns.length ca, .int .u8 c, .slice sa Ss.length sc, .string (bs r)]] w fun e w' => ∃ g cap, e = .returned (.slice (some ⟨g, 0, none⟩) (Ns ++ letterL c ++ sufTexts Ss ++ revL r).length cap) ∧
      w'.ownsRow w.heap.size 9 1 (.slice (some ⟨g, 0, none⟩) (Ns ++ letterL c ++ sufTexts Ss ++ revL r).length cap) (Ns ++ letterL c ++ sufTexts Ss ++ revL r).length (strVals (Ns ++ letterL c ++ sufTexts Ss ++ revL r)) ∧ Below w.heap.size w w' := by
  obtain ⟨i9, hi9, hz9, hs9, hb9⟩ := info_parts Ybad.info9
  have hnm : ∀ i, (nm i).length ≤ 6 := fun i => by unfold nm; split <;> decide
  go_enter Ybad.func5, Ybad.ntmps5
  go_wp2_with fail
  refine (clone_any Ns a ca ba (w.heap.size + 1) _ (by omega) hN (by simp) (h1.alloc _)).mono ?_
  rintro e w1 ⟨v1, rfl, hown1, hb1⟩
  obtain ⟨g1, cap1, rfl, hg1, hg1'⟩ := hown1.form hN
  have hs1 := hb1.size
  have q0 : w1.cell? ⟨w.heap.size, 1, none⟩ = some (.int .u8 c) := by rw [hb1.cell (by simp)]; simp
  have q1 : w1.cell? ⟨w.heap.size, 2, none⟩ = some (.slice sa Ss.length sc) := by rw [hb1.cell (by simp)]; simp
  have q2 : w1.cell? ⟨w.heap.size, 3, none⟩ = some (.string (bs r)) := by rw [hb1.cell (by simp)]; simp
  have hP1 : PartsSo w.heap.size w w1 sa Ss.length sc r (.slice (some ⟨g1, 0, none⟩) Ns.length cap1) Ns :=
    ⟨⟨g1, cap1, rfl, by omega⟩, ⟨hown1.1, by
      rcases hown1.2 with h | ⟨g, cap, cur, e1, e2, e3⟩
      · exact .inl h
      · exact .inr ⟨g, cap, cur, e1, by omega, e3⟩⟩, ((Below.refl _ _).alloc (Nat.le_refl _) _).trans (hb1.mono (by simp)), by simp at hs1; omega, q1, q2⟩
  have HP1 := hid hP1
  have hownP := hP1.2.1
  clear hP1 hown1
  by_cases hc0 : c = 0
  · have hc1 : ((c : Int) != 0) = false := by simp; omega
    have HP : Hid (PartsSo w.heap.size w w1 sa Ss.length sc r (.slice (some ⟨g1, 0, none⟩) Ns.length cap1) (Ns ++ letterL c)) := by
      show PartsSo _ _ _ _ _ _ _ _ _
      have e : Ns ++ letterL c = Ns := by unfold letterL; rw [if_pos hc0]; simp
      rw [e]; exact HP1.out
    clear hc0 HP1 hownP hb1
    go_wp2_with fail
    have HP0 : PartsSo w.heap.size w w1 sa Ss.length sc r (.slice (some ⟨g1, 0, none⟩) Ns.length cap1) (Ns ++ letterL c ++ sufTexts (Ss.take 0)) := by simpa [sufTexts] using HP.out
    go_loopw [3, 21] (fun v i wr => ∃ k : Nat, k ≤ Ss.length ∧ i = .int .i64 (k : Nat) ∧ PartsSo w.heap.size w wr sa Ss.length sc r v (Ns ++ letterL c ++ sufTexts (Ss.take k))) (fun _ i _ => Ss.length - (intOf i).toNat)
    case atStart => exact ⟨0, Nat.zero_le _, rfl, HP0⟩
    case round =>
      obtain ⟨k, hkl, rfl, hP⟩ := hrel
      have hLl : (Ns ++ letterL c ++ sufTexts (Ss.take k)).length ≤ 10001 := parts_len Ns Ss c k (by omega) (by omega)
      obtain ⟨L, hL⟩ : ∃ L, Ns ++ letterL c ++ sufTexts (Ss.take k) = L := ⟨_, rfl⟩
      rw [hL] at hP hLl
      have HL := hid hL
      clear hL
      have HPr := hid hP
      obtain ⟨⟨g, cap, rfl, hgB⟩, hownr, hbelr, hwlr, qr1, qr2⟩ := hP
      have HK := hid (hK.below hbelr)
      have H2 := hid (own_below h2 hbelr)
      by_cases hlt : k < Ss.length
      · obtain ⟨sg, rfl⟩ := hs0 k hlt
        obtain ⟨hx1, hx2⟩ := hk (Ss[k]) (List.getElem_mem hlt)
        have hTk := hid (sufTexts_take Ss k hlt)
        obtain ⟨x1, x2⟩ := sufVals_get Ss k hlt
        rw [← H2.out.cellAt (k * 2) (by omega)] at x1
        rw [← H2.out.cellAt (k * 2 + 1) (by omega)] at x2
        generalize (Ss[k]).1 = kk at *
        generalize (Ss[k]).2 = d at *
        have kh := HK.out.head
        have kc1 := HK.out.cell kk hx1
        have n0 := World.block_lt_of_cell? wr _ kh
        have n1 := World.block_lt_of_cell? wr _ kc1
        have n2 := World.block_lt_of_cell? wr _ x1
        have i0 : (0 : Int) ≤ (kk : Int) := by omega
        have i1 : (kk : Int) < 5 := by omega
        have i2 : (k : Int) < (Ss.length : Int) := by omega
        have hnk := hnm kk
        have hadd : ¬ (9223372036854775807 < (nm kk).length + d.length) := by omega
        have hg3 : g < wr.heap.size := (hownr.lt g rfl).2
        have m0 := World.block_lt_of_cell? w _ hK.head
        have m1 := World.block_lt_of_cell? w _ (hK.cell kk hx1)
        simp only at n0 n1 n2 m0 m1
        have a0 : (Value.slice (some ⟨g, 0, none⟩) L.length cap).ownBlock ≠ some 0 := fun e => by have := Option.some.inj e; simp at this; omega
        have a1 : (Value.slice (some ⟨g, 0, none⟩) L.length cap).ownBlock ≠ some kb := fun e => by have := Option.some.inj e; simp at this; omega
        have a2 : (Value.slice (some ⟨g, 0, none⟩) L.length cap).ownBlock ≠ some wr.heap.size := fun e => by have := Option.some.inj e; simp at this; omega
        go_wp2_with fail
        go_region_held3 (fun w' => w'.cell? ⟨0, 0, none⟩ = some (.slice (some ⟨kb, ko, none⟩) 5 kc) ∧ w'.cell? ⟨kb, ko + kk, none⟩ = some (.string (bs (nm kk))) ∧ w'.cell? ⟨wr.heap.size, 0, none⟩ = some (.int .i64 kk) ∧ w'.cell? ⟨wr.heap.size, 1, none⟩ = some (.string (bs d)))
          (first
            | go_keep
            | (go_split_ands
               refine ⟨?_, ?_, ?_, ?_⟩
               · (rw [hgrow2.cell_far _ (by simp <;> omega) (Ne.symm a0)]; assumption)
               · (rw [hgrow2.cell_far _ (by simp <;> omega) (Ne.symm a1)]; assumption)
               · (rw [hgrow2.cell_far _ (by simp <;> omega) (Ne.symm a2)]; assumption)
               · (rw [hgrow2.cell_far _ (by simp <;> omega) (Ne.symm a2)]; assumption)))
          ((refine step_append_lies _ (by rfl) _ _ _ (by rfl) w.heap.size 9 i9 (.string ByteArray.empty) 1 16 Ybad.underlying22 hi9 hz9 hs9 hb9 rfl (by omega) _ L.length (strVals L) (by rfl) (((hownr.alloc _).alloc _).drew) ⟨wr.heap.size + 1, 0, none⟩ 1 1 [.string (bs (nm kk ++ d))] (by rfl) (by rfl) (World.news_of_block (cs := #[.string (bs (nm kk ++ d))]) (t := 9) (fr := (0, 0)) (two_alloc_heap wr _ _)) (by simp [Value.oneCell']) (by omega) (by unfold maxLen; omega) (by omega) (by simp; omega) (wr.heap.size + 1 + 1) (by simp) ?_; intro g2 cap2 w2 hown2 hgrow2 hat2 hlt2))
        have R := hid (HPr.out.step (((Below.refl _ _).alloc (Nat.le_refl _) _).alloc (by simp) _).drew hgrow2 (Or.elim hat2 Or.inl (fun e => Or.inr (by omega))) hown2)
        clear hown2 hgrow2 hat2 hlt2
        go_wp2
        go_roundw
        case rel =>
          refine ⟨k + 1, by omega, by go_num, ?_⟩
          rw [hTk.out, ← List.append_assoc, HL.out]
          exact R.out
        case measure => simp [intOf]; omega
      · obtain rfl : k = Ss.length := by omega
        rw [List.take_length] at HL
        by_cases hr0 : r = []
        · have hr1 : r.isEmpty = true := by simp [hr0]
          have HR : Hid (revL r = []) := by show revL r = []; unfold revL; rw [if_pos hr0]
          clear hr0
          go_wp2
          go_ret
          obtain ⟨_, o1, o2, _⟩ := HPr.out
          rw [HL.out, HR.out, List.append_nil]
          exact ⟨g, cap, rfl, o1, o2⟩
        · have hr1 : r.isEmpty = false := by simp [hr0]
          have HR : Hid (revL r = [[45, 114] ++ r]) := by show revL r = [[45, 114] ++ r]; unfold revL; rw [if_neg hr0]
          clear hr0
          have hadd : ¬ (9223372036854775807 < 2 + r.length) := by omega
          go_wp2_with (at_builtin; refine wpList_append_lies _ rfl (.tmp 40) (.tmp 44) 22 rfl w.heap.size 9 i9 (.string ByteArray.empty) 1 16 Ybad.underlying22 hi9 hz9 hs9 hb9 rfl (by decide) _ L.length (strVals L) rfl (hownr.alloc _) ⟨wr.heap.size, 0, none⟩ 1 1 [.string (bs ([45, 114] ++ r))] rfl rfl (cell_one_new _ _ _) (by intro u hu; simp at hu; subst hu; rfl) (by omega) (by unfold maxLen; omega) (by omega) (by simp; omega) (wr.heap.size + 1) (by simp) ?_; intro g2 cap2 w2 hown2 hgrow2 hat2 hlt2; have R := hid (HPr.out.step ((Below.refl _ _).alloc (Nat.le_refl _) _) hgrow2 (Or.elim hat2 Or.inl (fun e => Or.inr (by omega))) hown2); clear hown2 hgrow2 hat2 hlt2)
          go_ret
          obtain ⟨_, o1, o2, _⟩ := R.out
          rw [HL.out, HR.out]
          have e : (L ++ [[45, 114] ++ r]).length = L.length + 1 := by simp
          rw [e] at o1 ⊢
          exact ⟨g2, cap2, rfl, o1, o2⟩
  · have hc1 : ((c : Int) != 0) = true := by simp; omega
    have henc := encode_ascii c hc
    have hwlt : w.heap.size < w1.heap.size := by simp at hs1; omega
    go_wp2_with (at_builtin; refine wpList_append_lies _ rfl (.tmp 12) (.tmp 16) 22 rfl w.heap.size 9 i9 (.string ByteArray.empty) 1 16 Ybad.underlying22 hi9 hz9 hs9 hb9 rfl (by decide) _ Ns.length (strVals Ns) rfl (hownP.alloc _) ⟨w1.heap.size, 0, none⟩ 1 1 [.string (bs [UInt8.ofNat c])] rfl rfl (cell_one_new _ _ _) (by intro u hu; simp at hu; subst hu; rfl) (by omega) (by unfold maxLen; omega) (by omega) (by simp; omega) (w1.heap.size + 1) (by simp) ?_; intro g2 cap2 w2 hown2 hgrow2 hat2 hlt2; have hR := HP1.out.step ((Below.refl _ _).alloc (Nat.le_refl _) _) hgrow2 (Or.elim hat2 Or.inl (fun e => Or.inr (by omega))) hown2; have q3 := hR.2.2.2.2.1; have hwl2 := hR.2.2.2.1; have HP := hid hR; clear hR hown2 hgrow2 hat2 hlt2)
    have HP0 : PartsSo w.heap.size w w2 sa Ss.length sc r (.slice (some ⟨g2, 0, none⟩) (Ns.length + 1) cap2) (Ns ++ letterL c ++ sufTexts (Ss.take 0)) := by
      have e : Ns ++ letterL c ++ sufTexts (Ss.take 0) = Ns ++ [[UInt8.ofNat c]] := by unfold letterL; rw [if_neg hc0]; simp [sufTexts]
      rw [e]; exact HP.out
    go_loopw [3, 21] (fun v i wr => ∃ k : Nat, k ≤ Ss.length ∧ i = .int .i64 (k : Nat) ∧ PartsSo w.heap.size w wr sa Ss.length sc r v (Ns ++ letterL c ++ sufTexts (Ss.take k))) (fun _ i _ => Ss.length - (intOf i).toNat)
    case atStart => exact ⟨0, Nat.zero_le _, rfl, HP0⟩
    case round =>
      obtain ⟨k, hkl, rfl, hP⟩ := hrel
      have hLl : (Ns ++ letterL c ++ sufTexts (Ss.take k)).length ≤ 10001 := parts_len Ns Ss c k (by omega) (by omega)
      obtain ⟨L, hL⟩ : ∃ L, Ns ++ letterL c ++ sufTexts (Ss.take k) = L := ⟨_, rfl⟩
      rw [hL] at hP hLl
      have HL := hid hL
      clear hL
      have HPr := hid hP
      obtain ⟨⟨g, cap, rfl, hgB⟩, hownr, hbelr, hwlr, qr1, qr2⟩ := hP
      have HK := hid (hK.below hbelr)
      have H2 := hid (own_below h2 hbelr)
      by_cases hlt : k < Ss.length
      · obtain ⟨sg, rfl⟩ := hs0 k hlt
        obtain ⟨hx1, hx2⟩ := hk (Ss[k]) (List.getElem_mem hlt)
        have hTk := hid (sufTexts_take Ss k hlt)
        obtain ⟨x1, x2⟩ := sufVals_get Ss k hlt
        rw [← H2.out.cellAt (k * 2) (by omega)] at x1
        rw [← H2.out.cellAt (k * 2 + 1) (by omega)] at x2
        generalize (Ss[k]).1 = kk at *
        generalize (Ss[k]).2 = d at *
        have kh := HK.out.head
        have kc1 := HK.out.cell kk hx1
        have n0 := World.block_lt_of_cell? wr _ kh
        have n1 := World.block_lt_of_cell? wr _ kc1
        have n2 := World.block_lt_of_cell? wr _ x1
        have i0 : (0 : Int) ≤ (kk : Int) := by omega
        have i1 : (kk : Int) < 5 := by omega
        have i2 : (k : Int) < (Ss.length : Int) := by omega
        have hnk := hnm kk
        have hadd : ¬ (9223372036854775807 < (nm kk).length + d.length) := by omega
        have hg3 : g < wr.heap.size := (hownr.lt g rfl).2
        have m0 := World.block_lt_of_cell? w _ hK.head
        have m1 := World.block_lt_of_cell? w _ (hK.cell kk hx1)
        simp only at n0 n1 n2 m0 m1
        have a0 : (Value.slice (some ⟨g, 0, none⟩) L.length cap).ownBlock ≠ some 0 := fun e => by have := Option.some.inj e; simp at this; omega
        have a1 : (Value.slice (some ⟨g, 0, none⟩) L.length cap).ownBlock ≠ some kb := fun e => by have := Option.some.inj e; simp at this; omega
        have a2 : (Value.slice (some ⟨g, 0, none⟩) L.length cap).ownBlock ≠ some wr.heap.size := fun e => by have := Option.some.inj e; simp at this; omega
        go_wp2_with fail
        go_region_held3 (fun w' => w'.cell? ⟨0, 0, none⟩ = some (.slice (some ⟨kb, ko, none⟩) 5 kc) ∧ w'.cell? ⟨kb, ko + kk, none⟩ = some (.string (bs (nm kk))) ∧ w'.cell? ⟨wr.heap.size, 0, none⟩ = some (.int .i64 kk) ∧ w'.cell? ⟨wr.heap.size, 1, none⟩ = some (.string (bs d)))
          (first
            | go_keep
            | (go_split_ands
               refine ⟨?_, ?_, ?_, ?_⟩
               · (rw [hgrow2.cell_far _ (by simp <;> omega) (Ne.symm a0)]; assumption)
               · (rw [hgrow2.cell_far _ (by simp <;> omega) (Ne.symm a1)]; assumption)
               · (rw [hgrow2.cell_far _ (by simp <;> omega) (Ne.symm a2)]; assumption)
               · (rw [hgrow2.cell_far _ (by simp <;> omega) (Ne.symm a2)]; assumption)))
          ((refine step_append_lies _ (by rfl) _ _ _ (by rfl) w.heap.size 9 i9 (.string ByteArray.empty) 1 16 Ybad.underlying22 hi9 hz9 hs9 hb9 rfl (by omega) _ L.length (strVals L) (by rfl) (((hownr.alloc _).alloc _).drew) ⟨wr.heap.size + 1, 0, none⟩ 1 1 [.string (bs (nm kk ++ d))] (by rfl) (by rfl) (World.news_of_block (cs := #[.string (bs (nm kk ++ d))]) (t := 9) (fr := (0, 0)) (two_alloc_heap wr _ _)) (by simp [Value.oneCell']) (by omega) (by unfold maxLen; omega) (by omega) (by simp; omega) (wr.heap.size + 1 + 1) (by simp) ?_; intro g2 cap2 w2 hown2 hgrow2 hat2 hlt2))
        have R := hid (HPr.out.step (((Below.refl _ _).alloc (Nat.le_refl _) _).alloc (by simp) _).drew hgrow2 (Or.elim hat2 Or.inl (fun e => Or.inr (by omega))) hown2)
        clear hown2 hgrow2 hat2 hlt2
        go_wp2
        go_roundw
        case rel =>
          refine ⟨k + 1, by omega, by go_num, ?_⟩
          rw [hTk.out, ← List.append_assoc, HL.out]
          exact R.out
        case measure => simp [intOf]; omega
      · obtain rfl : k = Ss.length := by omega
        rw [List.take_length] at HL
        by_cases hr0 : r = []
        · have hr1 : r.isEmpty = true := by simp [hr0]
          have HR : Hid (revL r = []) := by show revL r = []; unfold revL; rw [if_pos hr0]
          clear hr0
          go_wp2
          go_ret
          obtain ⟨_, o1, o2, _⟩ := HPr.out
          rw [HL.out, HR.out, List.append_nil]
          exact ⟨g, cap, rfl, o1, o2⟩
        · have hr1 : r.isEmpty = false := by simp [hr0]
          have HR : Hid (revL r = [[45, 114] ++ r]) := by show revL r = [[45, 114] ++ r]; unfold revL; rw [if_neg hr0]
          clear hr0
          have hadd : ¬ (9223372036854775807 < 2 + r.length) := by omega
          go_wp2_with (at_builtin; refine wpList_append_lies _ rfl (.tmp 40) (.tmp 44) 22 rfl w.heap.size 9 i9 (.string ByteArray.empty) 1 16 Ybad.underlying22 hi9 hz9 hs9 hb9 rfl (by decide) _ L.length (strVals L) rfl (hownr.alloc _) ⟨wr.heap.size, 0, none⟩ 1 1 [.string (bs ([45, 114] ++ r))] rfl rfl (cell_one_new _ _ _) (by intro u hu; simp at hu; subst hu; rfl) (by omega) (by unfold maxLen; omega) (by omega) (by simp; omega) (wr.heap.size + 1) (by simp) ?_; intro g2 cap2 w2 hown2 hgrow2 hat2 hlt2; have R := hid (HPr.out.step ((Below.refl _ _).alloc (Nat.le_refl _) _) hgrow2 (Or.elim hat2 Or.inl (fun e => Or.inr (by omega))) hown2); clear hown2 hgrow2 hat2 hlt2)
          go_ret
          obtain ⟨_, o1, o2, _⟩ := R.out
          rw [HL.out, HR.out]
          have e : (L ++ [[45, 114] ++ r]).length = L.length + 1 := by simp
          rw [e] at o1 ⊢
          exact ⟨g2, cap2, rfl, o1, o2⟩

end Go.Proofs.YbulkblreDoor

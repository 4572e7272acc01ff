import Derived.Test.YbulkblsgWalkCalls
namespace Go.Proofs.Ybulkblsg
open Go.RowKit
set_option linter.unusedVariables false

/-- The first m of the n elements of block B hold the runs from i on. -/
def Filled (w : World) (B n : Nat) (S E V : Nat → Int) (i m : Nat) : Prop :=
  w.there B 0 (n * 3) ∧ ∀ k, k < m → w.cell? ⟨B, k * 3, none⟩ = some (.int .i64 (S (i + k))) ∧ w.cell? ⟨B, k * 3 + 1, none⟩ = some (.int .i64 (E (i + k))) ∧ w.cell? ⟨B, k * 3 + 2, none⟩ = some (.int .i64 (V (i + k)))

theorem Filled.alloc {w : World} {B n : Nat} {S E V : Nat → Int} {i m : Nat} (h : Filled w B n S E V i m) (o : Obj) : Filled (w.alloc o) B n S E V i m := by
  obtain ⟨h1, h2⟩ := h
  refine ⟨World.there_alloc h1 o, fun k hk => ?_⟩
  obtain ⟨a, b, c⟩ := h2 k hk
  exact ⟨by rw [World.cell?_alloc_lt _ _ _ (World.block_lt_of_cell? w _ a)]; exact a, by rw [World.cell?_alloc_lt _ _ _ (World.block_lt_of_cell? w _ b)]; exact b, by rw [World.cell?_alloc_lt _ _ _ (World.block_lt_of_cell? w _ c)]; exact c⟩

theorem addr_ne {b o o' : Nat} (h : o ≠ o') : (⟨b, o, none⟩ : Addr) ≠ ⟨b, o', none⟩ := fun e => h (by injection e)

theorem Filled.step {w : World} {B n : Nat} {S E V : Nat → Int} {i m : Nat} (h : Filled w B n S E V i m) (hm : m < n) :
    Filled (((w.setCell ⟨B, m * 3, none⟩ (.int .i64 (S (i + m)))).setCell ⟨B, m * 3 + 1, none⟩ (.int .i64 (E (i + m)))).setCell ⟨B, m * 3 + 2, none⟩ (.int .i64 (V (i + m)))) B n S E V i (m + 1) := by
  obtain ⟨h1, h2⟩ := h
  obtain ⟨x, y, z, hx, hy, hz, _⟩ := there_three h1 hm
  refine ⟨there_setCell (there_setCell (there_setCell h1 _ _) _ _) _ _, fun k hk => ?_⟩
  by_cases e : k = m
  · subst e
    refine ⟨?_, ?_, ?_⟩
    · rw [World.cell?_setCell_other _ _ _ _ (addr_ne (by omega)), World.cell?_setCell_other _ _ _ _ (addr_ne (by omega)), World.cell?_setCell_same _ _ _ hx]
    · rw [World.cell?_setCell_other _ _ _ _ (addr_ne (by omega))]
      refine World.cell?_setCell_same _ _ _ (u := y) ?_
      rw [World.cell?_setCell_other _ _ _ _ (addr_ne (by omega))]; exact hy
    · refine World.cell?_setCell_same _ _ _ (u := z) ?_
      rw [World.cell?_setCell_other _ _ _ _ (addr_ne (by omega)), World.cell?_setCell_other _ _ _ _ (addr_ne (by omega))]; exact hz
  · obtain ⟨a, b, c⟩ := h2 k (by omega)
    refine ⟨?_, ?_, ?_⟩ <;> rw [World.cell?_setCell_other _ _ _ _ (addr_ne (by omega)), World.cell?_setCell_other _ _ _ _ (addr_ne (by omega)), World.cell?_setCell_other _ _ _ _ (addr_ne (by omega))] <;> assumption

/-- The set at block N: n chunks, the runs up to i. -/
def Chunks (N : Nat) (w wr : World) (S E V : Nat → Int) (i n : Nat) (v : Value) (cs : List Value) (h m st : Nat → Nat) : Prop :=
  wr.cell? ⟨N, 0, none⟩ = some v ∧ wr.frozen? ⟨N, 0, none⟩ = false ∧ wr.ownsRow (N + 1) 27 1 v n cs ∧ Below N w wr ∧ N < wr.heap.size ∧ st 0 = 0 ∧ st n = i ∧
    ∀ p, p < n → cs[p]? = some (.slice (some ⟨h p, 0, none⟩) (m p) (m p)) ∧ 0 < m p ∧ st (p + 1) = st p + m p ∧ some (h p) ≠ v.ownBlock ∧ N < h p ∧ h p < wr.heap.size ∧ Filled wr (h p) (m p) S E V (st p) (m p)


theorem Filled.of_block {w w' : World} {B n : Nat} {S E V : Nat → Int} {i m : Nat} (h : Filled w B n S E V i m) (e : w'.heap[B]? = w.heap[B]?) : Filled w' B n S E V i m := by
  obtain ⟨h1, h2⟩ := h
  have hc : ∀ o, w'.cell? ⟨B, o, none⟩ = w.cell? ⟨B, o, none⟩ := fun o => World.cell?_of_block (a := ⟨B, o, none⟩) e
  have hf : ∀ o, w'.frozen? ⟨B, o, none⟩ = w.frozen? ⟨B, o, none⟩ := fun o => World.frozen?_of_block (a := ⟨B, o, none⟩) e
  refine ⟨fun j hj => by rw [hc, hf]; exact h1 j hj, fun k hk => ?_⟩
  rw [hc, hc, hc]; exact h2 k hk

theorem chunks_step {w wo wi w2 : World} {S E V : Nat → Int} {N i n sz g cap : Nat} {v : Value} {cs : List Value} {h m st : Nat → Nat} {o : Obj} (hC : Chunks N w wo S E V i n v cs h m st)
    (hbi : Below wo.heap.size wo wi) (hF : Filled wi wo.heap.size sz S E V i sz) (hlt : wo.heap.size < wi.heap.size) (hsz : 0 < sz) (hg : (wi.alloc o).grownBy w2 v.ownBlock) (hat : v.ownBlock = some g ∨ g = wi.heap.size + 1)
    (hown2 : w2.ownsRow (N + 1) 27 1 (.slice (some ⟨g, 0, none⟩) (n + 1) cap) (n + 1) (cs ++ [.slice (some ⟨wo.heap.size, 0, none⟩) sz sz])) :
    ∃ h' m' st', Chunks N w (w2.setCell ⟨N, 0, none⟩ (.slice (some ⟨g, 0, none⟩) (n + 1) cap)) S E V (i + sz) (n + 1) (.slice (some ⟨g, 0, none⟩) (n + 1) cap) (cs ++ [.slice (some ⟨wo.heap.size, 0, none⟩) sz sz]) h' m' st' := by
  obtain ⟨q0, f0, hown, hbel, hN, hst0, hstn, hch⟩ := hC
  have hownr := own_below hown hbi
  obtain ⟨e1, e2, e3, e4⟩ := set_behind hownr hg (by omega)
  have hq : w2.cell? ⟨N, 0, none⟩ = some v := by rw [e1, hbi.cell hN]; exact q0
  have hf : w2.frozen? ⟨N, 0, none⟩ = false := by rw [e2, hbi.frozen hN]; exact f0
  have hl : cs.length = n := by have := hown.1; omega
  have hgs := hg.size
  simp at hgs
  have hvlt : ∀ k, v.ownBlock = some k → k < wo.heap.size := fun k e => (hown.lt k e).2
  have hblk : ∀ k, k < wi.heap.size → some k ≠ v.ownBlock → N < k → (w2.setCell ⟨N, 0, none⟩ (.slice (some ⟨g, 0, none⟩) (n + 1) cap)).heap[k]? = wi.heap[k]? := fun k hk hne hNk => by
    rw [Below.heap_setCell _ _ _ _ (by show k ≠ N; omega), hg.block k (by simp; omega) hne, Below.heap_alloc _ _ _ hk]
  refine ⟨fun p => if p = n then wo.heap.size else h p, fun p => if p = n then sz else m p, fun p => if p = n + 1 then i + sz else st p, ?_⟩
  refine ⟨World.cell?_setCell_same _ _ _ hq, by rw [World.frozen?_setCell]; exact hf, ownsRow_setCell_below hown2 (by simp) _, ?_, by simp [World.setCell]; exact e4, ?_, ?_, ?_⟩
  · exact (hbel.trans ((hbi.mono (by omega)).trans (e3.mono (by omega)))).setCell (Nat.le_refl _) _
  · simp; exact hst0
  · simp
  · intro p hp
    by_cases e : p = n
    · subst e
      simp only [↓reduceIte]
      refine ⟨by rw [List.getElem?_append_right (by omega), hl]; simp, hsz, ?_, ?_, by omega, by simp [World.setCell]; omega, ?_⟩
      · rw [if_neg (by omega)]; omega
      · intro e
        have hgw : wo.heap.size = g := by simpa [Value.ownBlock] using e
        rcases hat with hat | hat
        · have := hvlt g hat; omega
        · omega
      · rw [if_neg (by omega), hstn]
        exact hF.of_block (hblk _ hlt (fun e => by have := hvlt _ e.symm; omega) hN)
    · obtain ⟨a1, a2, a3, a4, a5, a6, a7⟩ := hch p (by omega)
      have hpn : ¬ p + 1 = n + 1 := by omega
      have hpn2 : ¬ p = n + 1 := by omega
      simp only [e, hpn, hpn2, ↓reduceIte]
      refine ⟨by rw [List.getElem?_append_left (by omega)]; exact a1, a2, a3, ?_, a5, by simp [World.setCell]; omega, ?_⟩
      · intro e
        have hgw : h p = g := by simpa [Value.ownBlock] using e
        rcases hat with hat | hat
        · rw [hat, hgw] at a4; exact a4 rfl
        · omega
      · refine a7.of_block ?_
        rw [hblk _ (by omega) a4 a5, hbi.block _ a6]

set_option maxHeartbeats 400000 in
theorem build_cuts (b off len cap bc offc lc cc : Nat) (lone : Bool) (S E V : Nat → Int) (y : Nat → Nat) (w : World) (hl : len ≤ 4096) (hlen : 0 < len) (hy : ∀ j, y j ≤ 255)
    (hb : b < w.heap.size) (hbc : bc < w.heap.size) (hlc : lc ≤ maxLen)
    (hr : ∀ i, i < len → w.cell? ⟨b, off + i * 3, none⟩ = some (.int .i64 (S i)) ∧ w.cell? ⟨b, off + i * 3 + 1, none⟩ = some (.int .i64 (E i)) ∧ w.cell? ⟨b, off + i * 3 + 2, none⟩ = some (.int .i64 (V i)))
    (hc : ∀ j, j < lc → w.cell? ⟨bc, offc + j, none⟩ = some (.int .u8 (y j))) :
    Calls Yba.prog 6 #[.slice (some ⟨b, off, none⟩) len cap, .slice (some ⟨bc, offc, none⟩) lc cc, .bool lone] w fun e w' =>
      e = .returned (.pointer (some ⟨w.heap.size, 0, none⟩)) ∧ ∃ n v cs h m st, Chunks w.heap.size w w' S E V len n v cs h m st := by
  unfold maxLen at hlc
  obtain ⟨i29, hi29, hz29, hs29, hb29⟩ := info_parts Yba.info29
  obtain ⟨i27, hi27, hz27, hs27, hb27⟩ := info_parts Yba.info27
  have hl0 : ((len : Int) == 0) = false := by simp; omega
  go_enter Yba.func6, Yba.ntmps6
  go_wp2_with fail
  go_loopw [8, 9] (fun si sj wr => ∃ i j n v cs h m st, i ≤ len ∧ j ≤ i ∧ si = .int .i64 (i : Nat) ∧ sj = .int .i64 (j : Nat) ∧ n ≤ i ∧ Chunks w.heap.size w wr S E V i n v cs h m st) (fun si _ _ => len - (intOf si).toNat)
  case atStart =>
    refine ⟨0, 0, 0, .slice none 0 0, [], fun _ => 0, fun _ => 0, fun _ => 0, Nat.zero_le _, Nat.le_refl _, rfl, rfl, Nat.le_refl _, ?_⟩
    exact ⟨by simp, by simp, World.ownsRow_nil _ _ _ _, (Below.refl _ _).alloc (Nat.le_refl _) _, by simp, rfl, rfl, fun p hp => by omega⟩
  case round =>
    obtain ⟨i, j, n, v, cs, h, m, st, hi, hj, rfl, rfl, hni, hC⟩ := hrel
    have HC : Hid (Chunks w.heap.size w wr S E V i n v cs h m st) := hC
    obtain ⟨q0, f0, hown, hbel, hNr, hst0, hstn, hch⟩ := hC
    clear hst0 hstn hch
    by_cases hlt : i < len
    · have hrj : ∃ sz : Nat, 0 < sz ∧ sz ≤ len - i ∧ ((j < lc ∧ len - i ≤ y j % 8 + 1 ∧ len - i ≤ sz) ∨ (j < lc ∧ y j % 8 + 1 < len - i ∧ sz ≤ y j % 8 + 1 ∧ y j % 8 + 1 ≤ sz) ∨ (¬ j < lc ∧ len - i ≤ sz)) := by
        by_cases hj1 : j < lc
        · by_cases hj2 : len - i ≤ y j % 8 + 1
          · exact ⟨len - i, by omega, by omega, .inl ⟨hj1, hj2, by omega⟩⟩
          · exact ⟨y j % 8 + 1, by omega, by omega, .inr (.inl ⟨hj1, by omega, by omega, by omega⟩)⟩
        · exact ⟨len - i, by omega, by omega, .inr (.inr ⟨hj1, by omega⟩)⟩
      obtain ⟨sz, hsz0, hsz1, hways⟩ := hrj
      have hcj : j < lc → wr.cell? ⟨bc, offc + j, none⟩ = some (.int .u8 (y j)) := fun hjl => by rw [hbel.cell (by exact hbc)]; exact hc j hjl
      have hyj := hy j
      have hrr : ∀ i, i < len → wr.cell? ⟨b, off + i * 3, none⟩ = some (.int .i64 (S i)) ∧ wr.cell? ⟨b, off + i * 3 + 1, none⟩ = some (.int .i64 (E i)) ∧ wr.cell? ⟨b, off + i * 3 + 2, none⟩ = some (.int .i64 (V i)) := fun i hi => by
        rw [hbel.cell (by exact hb), hbel.cell (by exact hb), hbel.cell (by exact hb)]; exact hr i hi
      have Hrr := (show Hid _ from hrr)
      clear hrr hr hc
      have hbr : b < wr.heap.size := by have := hbel.size; omega
      obtain ⟨wo, hwo⟩ : ∃ wo : World, wo = wr := ⟨_, rfl⟩
      subst hwo
      rcases hways with ⟨hj1, hj2, hj3⟩ | ⟨hj1, hj2, hj3, hj4⟩ | ⟨hj1, hj3⟩
      all_goals
        try have hcj' := hcj hj1
        clear hcj
        go_wp2_with (at_make; refine wpList_make_full _ rfl (.tmp 49) (.tmp 49) 27 rfl (w.heap.size + 1) 29 i29 _ 3 Yba.underlying27 hi29 hz29 hs29 .i64 .i64 _ _ sz rfl rfl (by omega) (by omega) (by rw [hb29]; omega) (by unfold maxLen; omega) (by omega) ?_; intro w1 hown1 hgrow1)
        have hbr1 := below_of_grown_none hgrow1
        have hth := there_of_own hown1
        have hlt1 := (hown1.lt wo.heap.size rfl).2
        clear hown1 hgrow1
        go_loopw [12] (fun sk wi => ∃ k : Nat, k ≤ sz ∧ sk = .int .i64 (k : Nat) ∧ Below wo.heap.size wo wi ∧ wo.heap.size < wi.heap.size ∧ Filled wi wo.heap.size sz S E V i k) (fun sk _ => sz - (intOf sk).toNat)
        case atStart => exact ⟨0, Nat.zero_le _, rfl, hbr1, hlt1, hth, fun k hk => by omega⟩
        case round =>
          obtain ⟨k, hk, rfl, hbi, hlti, hF⟩ := hrel
          by_cases hkl : k < sz
          · obtain ⟨x0, x1, x2, d0, d1, d2, g0, g1, g2⟩ := there_three hF.1 hkl
            obtain ⟨r0, r1, r2⟩ := Hrr.out (i + k) (by omega)
            have t0 : wr.cell? ⟨b, off + (i + k) * 3, none⟩ = some (.int .i64 (S (i + k))) := by rw [hbi.cell (by exact hbr)]; exact r0
            have t1 : wr.cell? ⟨b, off + (i + k) * 3 + 1, none⟩ = some (.int .i64 (E (i + k))) := by rw [hbi.cell (by exact hbr)]; exact r1
            have t2 : wr.cell? ⟨b, off + (i + k) * 3 + 2, none⟩ = some (.int .i64 (V (i + k))) := by rw [hbi.cell (by exact hbr)]; exact r2
            have HF : Hid (Filled wr wo.heap.size sz S E V i k) := hF
            clear r0 r1 r2 hF
            go_wp2
            go_roundw
            case rel => exact ⟨k + 1, by omega, by go_num, (((hbi.setCell (Nat.le_refl _) _).setCell (Nat.le_refl _) _).setCell (Nat.le_refl _) _).alloc (by simp [World.setCell]; omega) _, by simp [World.setCell]; omega, (HF.out.step hkl).alloc _⟩
            case measure => simp [intOf]; omega
          · obtain rfl : k = sz := by omega
            have hq : wr.cell? ⟨w.heap.size, 0, none⟩ = some v := by rw [hbi.cell hNr]; exact q0
            have hf : wr.frozen? ⟨w.heap.size, 0, none⟩ = false := by rw [hbi.frozen hNr]; exact f0
            have hNr2 : w.heap.size < wr.heap.size := by omega
            have HF : Hid (Filled wr wo.heap.size k S E V i k) := hF
            clear hF
            go_wp2_with (at_builtin; refine wpList_append_lies _ rfl (.tmp 76) (.tmp 78) 24 rfl (w.heap.size + 1) 27 i27 (.slice none 0 0) 1 24 Yba.underlying24 hi27 hz27 hs27 hb27 rfl (by decide) v n cs rfl ((own_below hown hbi).alloc _) ⟨wr.heap.size, 0, none⟩ 1 1 [.slice (some ⟨wo.heap.size, 0, none⟩) k k] rfl rfl (cell_one_new _ _ _) (by intro u hu; simp at hu; subst hu; rfl) (by omega) (by unfold maxLen; omega) (by omega) (by simp; omega) (wr.heap.size + 1) (by simp) ?_; intro g cap2 w2 hown2 hgrow2 hat2 hlt2; obtain ⟨e1, e2, e3, e4⟩ := set_behind (own_below hown hbi) hgrow2 hNr2; have R := (show Hid _ from chunks_step HC.out hbi HF.out hlti hsz0 hgrow2 hat2 hown2); rw [hq] at e1; rw [hf] at e2; clear hown2 hgrow2 hat2 hlt2 hown)
            go_roundw
            case rel =>
              obtain ⟨h', m', st', R'⟩ := R.out
              exact ⟨i + k, j + 1, n + 1, _, _, h', m', st', by omega, by omega, by go_num, by go_num, by omega, R'⟩
            case measure => simp [intOf]; omega
    · obtain rfl : i = len := by omega
      go_wp2
      go_ret
      exact ⟨rfl, n, v, cs, h, m, st, HC.out⟩

end Go.Proofs.Ybulkblsg

import Derived.Test.YbulkblsgBuild2
import Derived.Deep.RegionWith
namespace Go.Proofs.Ybulkblsg
open Go.RowKit
set_option linter.unusedVariables false

/-- The set as it lies in w1, and in every world behind it. -/
structure IsSet (N g n cap len : Nat) (h m st : Nat → Nat) (S E V : Nat → Int) (W : World) : Prop where
  head : W.cell? ⟨N, 0, none⟩ = some (.slice (some ⟨g, 0, none⟩) n cap)
  chunk : ∀ p, p < n → W.cell? ⟨g, p, none⟩ = some (.slice (some ⟨h p, 0, none⟩) (m p) (m p))
  run : ∀ p k, p < n → k < m p → W.cell? ⟨h p, k * 3, none⟩ = some (.int .i64 (S (st p + k))) ∧ W.cell? ⟨h p, k * 3 + 1, none⟩ = some (.int .i64 (E (st p + k))) ∧ W.cell? ⟨h p, k * 3 + 2, none⟩ = some (.int .i64 (V (st p + k)))

theorem IsSet.below {N g n cap len : Nat} {h m st : Nat → Nat} {S E V : Nat → Int} {W W' : World} (hs : IsSet N g n cap len h m st S E V W) (hb : Below W.heap.size W W') : IsSet N g n cap len h m st S E V W' := by
  refine ⟨?_, fun p hp => ?_, fun p k hp hk => ?_⟩
  · rw [hb.cell (World.block_lt_of_cell? W _ hs.head)]; exact hs.head
  · rw [hb.cell (World.block_lt_of_cell? W _ (hs.chunk p hp))]; exact hs.chunk p hp
  · obtain ⟨a, b, c⟩ := hs.run p k hp hk
    rw [hb.cell (World.block_lt_of_cell? W _ a), hb.cell (World.block_lt_of_cell? W _ b), hb.cell (World.block_lt_of_cell? W _ c)]
    exact ⟨a, b, c⟩

/-- The places of the chunks' starts. -/
structure Starts (n len : Nat) (m st : Nat → Nat) : Prop where
  zero : st 0 = 0
  last : st n = len
  pos : ∀ p, p < n → 0 < m p
  step : ∀ p, p < n → st (p + 1) = st p + m p

theorem Starts.ge {n len : Nat} {m st : Nat → Nat} (h : Starts n len m st) : ∀ p, p ≤ n → p ≤ st p
  | 0, _ => Nat.zero_le _
  | p + 1, hp => by have := h.ge p (by omega); have := h.step p (by omega); have := h.pos p (by omega); omega

theorem Starts.le {n len : Nat} {m st : Nat → Nat} (h : Starts n len m st) (p : Nat) : ∀ d, p + d = n → st p ≤ len
  | 0, e => by rw [← h.last]; have : p = n := by omega
               rw [this]; exact Nat.le_refl _
  | d + 1, e => by have := h.le (p + 1) d (by omega); have := h.step p (by omega); omega

theorem set_of_chunks {N len n : Nat} {w w1 : World} {S E V : Nat → Int} {v : Value} {cs : List Value} {h m st : Nat → Nat} (hC : Chunks N w w1 S E V len n v cs h m st) (hl : 0 < len) :
    ∃ g cap, IsSet N g n cap len h m st S E V w1 ∧ Starts n len m st ∧ 0 < n ∧ Below N w w1 ∧ N < w1.heap.size := by
  obtain ⟨q0, f0, hown, hbel, hN, hst0, hstn, hch⟩ := hC
  have hn : 0 < n := by
    rcases Nat.eq_zero_or_pos n with e | e
    · rw [e, hst0] at hstn; omega
    · exact e
  obtain ⟨g, cap, rfl, hg1, hg2⟩ := hown.form hn
  refine ⟨g, cap, ⟨q0, fun p hp => ?_, fun p k hp hk => ?_⟩, ⟨hst0, hstn, fun p hp => (hch p hp).2.1, fun p hp => (hch p hp).2.2.1⟩, hn, hbel, hN⟩
  · rw [hown.cellAt p (by omega)]; exact (hch p hp).1
  · exact (hch p hp).2.2.2.2.2.2.2 k hk

/-- The place (p, k) stands before run i. -/
def Stands (n len : Nat) (m st : Nat → Nat) (i p k : Nat) : Prop := (i < len → p < n ∧ k < m p ∧ st p + k = i) ∧ (¬ i < len → p = n ∧ k = 0)

theorem Stands.last {n len : Nat} {m st : Nat → Nat} {i p k : Nat} (hs : Starts n len m st) (h : Stands n len m st i p k) (hi : i < len) (hk : k + 1 = m p) : Stands n len m st (i + 1) (p + 1) 0 := by
  obtain ⟨hp, _, hst⟩ := h.1 hi
  have h1 := hs.step p hp
  refine ⟨fun hlt => ?_, fun hge => ?_⟩
  · have hne : p + 1 ≠ n := fun e => by have := hs.last; rw [← e] at this; omega
    exact ⟨by omega, hs.pos (p + 1) (by omega), by omega⟩
  · refine ⟨?_, rfl⟩
    rcases Nat.lt_or_ge (p + 1) n with hlt | hge2
    · have h2 := hs.step (p + 1) hlt
      have h3 := hs.pos (p + 1) hlt
      have h4 := hs.le (p + 1 + 1) (n - (p + 1 + 1)) (by omega)
      omega
    · omega

theorem Stands.more {n len : Nat} {m st : Nat → Nat} {i p k : Nat} (hs : Starts n len m st) (h : Stands n len m st i p k) (hi : i < len) (hk : k + 1 < m p) : Stands n len m st (i + 1) p (k + 1) := by
  obtain ⟨hp, _, hst⟩ := h.1 hi
  have h1 := hs.step p hp
  have h4 := hs.le (p + 1) (n - (p + 1)) (by omega)
  exact ⟨fun _ => ⟨hp, by omega, by omega⟩, fun hge => by omega⟩

set_option maxHeartbeats 400000 in
theorem walk_some (b off len cap : Nat) (cv : Value) (lone : Bool) (S E V : Nat → Int) (w : World) (hl : len ≤ 4096) (hlen : 0 < len) (hb : b < w.heap.size)
    (hr : ∀ i, i < len → w.cell? ⟨b, off + i * 3, none⟩ = some (.int .i64 (S i)) ∧ w.cell? ⟨b, off + i * 3 + 1, none⟩ = some (.int .i64 (E i)) ∧ w.cell? ⟨b, off + i * 3 + 2, none⟩ = some (.int .i64 (V i)))
    (h6 : Calls Yba.prog 6 #[.slice (some ⟨b, off, none⟩) len cap, cv, .bool lone] w fun e w' =>
      e = .returned (.pointer (some ⟨w.heap.size, 0, none⟩)) ∧ ∃ n v cs h m st, Chunks w.heap.size w w' S E V len n v cs h m st) :
    Calls Yba.prog 4 #[.slice (some ⟨b, off, none⟩) len cap, cv, .bool lone] w fun e w' => e = .returned (.bool true) ∧ Below w.heap.size w w' := by
  have H6 := (show Hid _ from h6)
  have Hr := (show Hid _ from hr)
  clear h6 hr
  have hd : decide ((4096 : Int) < (len : Int)) = false := by simp; omega
  have hd2 : decide ((0 : Int) < (len : Int)) = true := by simp; omega
  go_enter Yba.func4, Yba.ntmps4
  go_wp2_with fail
  refine Calls.mono H6.out ?_
  rintro e w1 ⟨rfl, n, v, cs, h, m, st, hC⟩
  obtain ⟨g, cap2, hS1, hSt, hn, hbel, hN1⟩ := set_of_chunks hC hlen
  clear hC
  have hn2 : n ≤ 4096 := by have := hSt.ge n (Nat.le_refl _); have := hSt.last; omega
  have HSt := (show Hid _ from hSt)
  clear hSt
  go_wp2_with fail
  refine (first_some w.heap.size g n cap2 _ (m 0) (m 0) _ hS1.head hn (hS1.chunk 0 hn) (HSt.out.pos 0 hn)).mono ?_
  rintro e w2 ⟨rfl, hb2⟩
  have hS2 := hS1.below hb2
  have hs2 := hb2.size
  go_wp2_with fail
  go_loopw [9] (fun si wr => ∃ i p k : Nat, i ≤ len ∧ si = .int .i64 (i : Nat) ∧ Stands n len m st i p k ∧ wr.cell? ⟨w2.heap.size, 0, none⟩ = some (.int .i64 p) ∧ wr.cell? ⟨w2.heap.size, 1, none⟩ = some (.int .i64 k) ∧
      wr.frozen? ⟨w2.heap.size, 0, none⟩ = false ∧ wr.frozen? ⟨w2.heap.size, 1, none⟩ = false ∧ Below w2.heap.size w2 wr) (fun si _ => len - (intOf si).toNat)
  case atStart =>
    exact ⟨0, 0, 0, Nat.zero_le _, rfl, ⟨fun _ => ⟨hn, HSt.out.pos 0 hn, HSt.out.zero⟩, fun h => absurd hlen h⟩, by simp, by simp, by simp, by simp, (Below.refl _ _).alloc (Nat.le_refl _) _⟩
  case round =>
    obtain ⟨i, p, k, hi, rfl, hstand, q0, q1, f0, f1, hbw⟩ := hrel
    have hSr := hS2.below hbw
    have Hstand : Hid (Stands n len m st i p k) := hstand
    have hqr : w2.heap.size < wr.heap.size := World.block_lt_of_cell? wr _ q0
    have hbr : b < wr.heap.size := by have := hbw.size; have := hbel.size; omega
    by_cases hlt : i < len
    · obtain ⟨hp, hk, hst⟩ := hstand.1 hlt
      clear hstand
      have hmle : m p ≤ 4096 := by have h1 := HSt.out.step p hp; have h2 := HSt.out.le (p + 1) (n - (p + 1)) (by omega); omega
      obtain ⟨c0, c1, c2⟩ := hSr.run p k hp hk
      rw [hst] at c0 c1 c2
      clear hst
      obtain ⟨t0, t1, t2⟩ := Hr.out i hlt
      have hb12 : Below w.heap.size w wr := hbel.trans ((hb2.mono (by omega)).trans (hbw.mono (by omega)))
      have r0 : wr.cell? ⟨b, off + i * 3, none⟩ = some (.int .i64 (S i)) := by rw [hb12.cell (by exact hb)]; exact t0
      have r1 : wr.cell? ⟨b, off + i * 3 + 1, none⟩ = some (.int .i64 (E i)) := by rw [hb12.cell (by exact hb)]; exact t1
      have r2 : wr.cell? ⟨b, off + i * 3 + 2, none⟩ = some (.int .i64 (V i)) := by rw [hb12.cell (by exact hb)]; exact t2
      clear t0 t1 t2
      go_wp2_with fail
      refine (at_some w.heap.size g n cap2 p (h p) (m p) k (S i) (E i) (V i) _ hSr.head hp (by omega) (hSr.chunk p hp) hk (by omega) c0 c1 c2).mono ?_
      rintro e w3 ⟨rfl, hb3⟩
      have hS3 := hSr.below hb3
      have hs3 := hb3.size
      have u0 : w3.cell? ⟨b, off + i * 3, none⟩ = some (.int .i64 (S i)) := by rw [hb3.cell (by exact hbr)]; exact r0
      have u1 : w3.cell? ⟨b, off + i * 3 + 1, none⟩ = some (.int .i64 (E i)) := by rw [hb3.cell (by exact hbr)]; exact r1
      have u2 : w3.cell? ⟨b, off + i * 3 + 2, none⟩ = some (.int .i64 (V i)) := by rw [hb3.cell (by exact hbr)]; exact r2
      have v0 : w3.cell? ⟨w2.heap.size, 0, none⟩ = some (.int .i64 p) := by rw [hb3.cell (by exact hqr)]; exact q0
      have v1 : w3.cell? ⟨w2.heap.size, 1, none⟩ = some (.int .i64 k) := by rw [hb3.cell (by exact hqr)]; exact q1
      have hb3s : b < w3.heap.size := by omega
      have hq3s : w2.heap.size < w3.heap.size := by omega
      clear r0 r1 r2 c0 c1 c2
      go_wp2_with fail
      have hb34 : Below w3.heap.size w3 ((w3.alloc (Obj.cells #[Value.int IntKind.i64 (S i), Value.int IntKind.i64 (E i), Value.int IntKind.i64 (V i)] 29)).alloc (Obj.cells #[Value.int IntKind.i64 (S i), Value.int IntKind.i64 (E i), Value.int IntKind.i64 (V i)] 38)) :=
        ((Below.refl _ _).alloc (Nat.le_refl _) _).alloc (by simp) _
      by_cases hkm : k + 1 = m p
      · have Hkm := (show Hid _ from hkm)
        clear hkm
        refine (next_last w.heap.size g n cap2 p (m p) k _ _ (hS3.below hb34).head hp (by omega) ((hS3.below hb34).chunk p hp) (by have := Hkm.out; omega) (by omega)).mono ?_
        rintro e w4 ⟨rfl, hb4⟩
        have hs4 := hb4.size
        have hb34' : Below w3.heap.size w3 w4 := hb34.trans (hb4.mono (by simp; omega))
        have x0 : w4.cell? ⟨w2.heap.size, 0, none⟩ = some (.int .i64 p) := by rw [hb34'.cell (by exact hq3s)]; exact v0
        have x1 : w4.cell? ⟨w2.heap.size, 1, none⟩ = some (.int .i64 k) := by rw [hb34'.cell (by exact hq3s)]; exact v1
        have y0 : w4.frozen? ⟨w2.heap.size, 0, none⟩ = false := by rw [hb34'.frozen (by exact hq3s), hb3.frozen (by exact hqr)]; exact f0
        have y1 : w4.frozen? ⟨w2.heap.size, 1, none⟩ = false := by rw [hb34'.frozen (by exact hq3s), hb3.frozen (by exact hqr)]; exact f1
        clear hb4 hb34
        go_wp2_with fail
        go_roundw
        case rel =>
          refine ⟨i + 1, p + 1, 0, by omega, by go_num, Hstand.out.last HSt.out hlt Hkm.out, ?_, ?_, ?_, ?_, ?_⟩
          · rw [World.cell?_setCell_other _ _ _ _ (addr_ne (by omega))]; exact World.cell?_setCell_same _ _ _ x0
          · refine World.cell?_setCell_same _ _ _ (u := .int .i64 k) ?_
            rw [World.cell?_setCell_other _ _ _ _ (addr_ne (by omega))]; exact x1
          · rw [World.frozen?_setCell, World.frozen?_setCell]; exact y0
          · rw [World.frozen?_setCell, World.frozen?_setCell]; exact y1
          · exact ((hbw.trans ((hb3.mono (by omega)).trans (hb34'.mono (by omega)))).setCell (Nat.le_refl _) _).setCell (Nat.le_refl _) _
        case measure => simp [intOf]; omega
      · have hkm2 : k + 1 < m p := by omega
        refine (next_more w.heap.size g n cap2 p (m p) k _ _ (hS3.below hb34).head hp (by omega) ((hS3.below hb34).chunk p hp) (by omega) (by omega)).mono ?_
        rintro e w4 ⟨rfl, hb4⟩
        have hs4 := hb4.size
        have hb34' : Below w3.heap.size w3 w4 := hb34.trans (hb4.mono (by simp; omega))
        have x0 : w4.cell? ⟨w2.heap.size, 0, none⟩ = some (.int .i64 p) := by rw [hb34'.cell (by exact hq3s)]; exact v0
        have x1 : w4.cell? ⟨w2.heap.size, 1, none⟩ = some (.int .i64 k) := by rw [hb34'.cell (by exact hq3s)]; exact v1
        have y0 : w4.frozen? ⟨w2.heap.size, 0, none⟩ = false := by rw [hb34'.frozen (by exact hq3s), hb3.frozen (by exact hqr)]; exact f0
        have y1 : w4.frozen? ⟨w2.heap.size, 1, none⟩ = false := by rw [hb34'.frozen (by exact hq3s), hb3.frozen (by exact hqr)]; exact f1
        clear hb4 hb34
        go_wp2_with fail
        go_roundw
        case rel =>
          refine ⟨i + 1, p, k + 1, by omega, by go_num, Hstand.out.more HSt.out hlt hkm2, ?_, ?_, ?_, ?_, ?_⟩
          · rw [World.cell?_setCell_other _ _ _ _ (addr_ne (by omega))]; exact World.cell?_setCell_same _ _ _ x0
          · refine World.cell?_setCell_same _ _ _ (u := .int .i64 k) ?_
            rw [World.cell?_setCell_other _ _ _ _ (addr_ne (by omega))]; exact x1
          · rw [World.frozen?_setCell, World.frozen?_setCell]; exact y0
          · rw [World.frozen?_setCell, World.frozen?_setCell]; exact y1
          · exact ((hbw.trans ((hb3.mono (by omega)).trans (hb34'.mono (by omega)))).setCell (Nat.le_refl _) _).setCell (Nat.le_refl _) _
        case measure => simp [intOf]; omega
    · obtain ⟨hp, hk⟩ := hstand.2 hlt
      subst hp
      subst hk
      clear hstand
      go_wp2_with fail
      refine (at_end w.heap.size _ p cap2 p 0 _ hSr.head (Nat.le_refl _) (by omega)).mono ?_
      rintro e w3 ⟨rfl, hb3⟩
      have hS3 := hSr.below hb3
      have hs3 := hb3.size
      have v0 : w3.cell? ⟨w2.heap.size, 0, none⟩ = some (.int .i64 p) := by rw [hb3.cell (by exact hqr)]; exact q0
      have v1 : w3.cell? ⟨w2.heap.size, 1, none⟩ = some (.int .i64 (0 : Nat)) := by rw [hb3.cell (by exact hqr)]; exact q1
      have hq3s : w2.heap.size < w3.heap.size := by omega
      go_wp2_with fail
      have hb12 : Below w.heap.size w w3 := hbel.trans ((hb2.mono (by omega)).trans ((hbw.mono (by omega)).trans (hb3.mono (by omega))))
      have hw3 : w.heap.size ≤ w3.heap.size := by omega
      go_region_with (go_at_call 9; refine (end_any w.heap.size (some ⟨g, 0, none⟩) p cap2 _ (by exact cell_later (((Below.refl w3.heap.size w3).alloc (Nat.le_refl _) _).drew) hS3.head)).mono ?_; rintro e w5 ⟨rfl, hb5⟩; have hb6 : Below w3.heap.size w3 w5 := (((Below.refl w3.heap.size w3).alloc (Nat.le_refl _) _).drew).trans (hb5.mono (by simp)); have z0 : w5.cell? ⟨w2.heap.size, 0, none⟩ = some (.int .i64 p) := (by rw [hb6.cell (by exact hq3s)]; exact v0); have z1 : w5.cell? ⟨w2.heap.size, 1, none⟩ = some (.int .i64 (0 : Nat)) := (by rw [hb6.cell (by exact hq3s)]; exact v1); clear hb5)
      all_goals
        go_wp2
        go_ret
        exact ⟨rfl, hb12.trans (hb6.mono hw3)⟩

end Go.Proofs.Ybulkblsg

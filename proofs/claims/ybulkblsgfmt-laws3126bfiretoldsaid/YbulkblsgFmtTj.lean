import Derived.Test.YbulkblsgFmtTh
import Derived.Test.YbulkblsgFmtTi
namespace Go.Proofs.YbulkblsgFmt
open Go.RowKit Go.Sort
set_option linter.unusedVariables false
set_option linter.unusedSimpArgs false
structure Oth3 (D C E : Nat) (w w' : World) : Prop where
  os : w'.os = w.os
  tape : w'.tape = w.tape
  output : w'.output = w.output
  size : w.heap.size ≤ w'.heap.size
  block : ∀ b, b < w.heap.size → b ≠ D → b ≠ C → b ≠ E → w'.heap[b]? = w.heap[b]?
theorem Oth3.refl (D C E : Nat) (w : World) : Oth3 D C E w w := ⟨rfl, rfl, rfl, Nat.le_refl _, fun _ _ _ _ _ => rfl⟩
theorem Oth3.two {D C E : Nat} {w w1 w2 : World} (h : Oth3 D C E w w1) (k : Oth2 D C w1 w2) : Oth3 D C E w w2 := ⟨k.os.trans h.os, k.tape.trans h.tape, k.output.trans h.output, by have := h.size; have := k.size; omega, fun b h1 h2 h3 h4 => (k.block b h2 h3).trans (h.block b h1 h2 h3 h4)⟩
theorem Oth3.grown {D C E G : Nat} {w w1 w2 : World} (h : Oth3 D C E w w1) (k : w1.grownBy w2 (some G)) (hG : G = E ∨ w.heap.size ≤ G) : Oth3 D C E w w2 := ⟨k.os.trans h.os, k.tape.trans h.tape, k.output.trans h.output, Nat.le_trans h.size k.size, fun b h1 h2 h3 h4 => (k.block b (Nat.lt_of_lt_of_le h1 h.size) (fun e => by injection e with e; omega)).trans (h.block b h1 h2 h3 h4)⟩
theorem Oth3.alloc {D C E : Nat} {w w1 : World} (h : Oth3 D C E w w1) (o : Obj) : Oth3 D C E w (w1.alloc o) := ⟨h.os, h.tape, h.output, by have := h.size; show w.heap.size ≤ (w1.heap.push o).size; rw [Array.size_push]; omega, fun b h1 h2 h3 h4 => by
  have := h.size
  show (w1.heap.push o)[b]? = _
  rw [Array.getElem?_push, if_neg (by omega)]; exact h.block b h1 h2 h3 h4⟩
theorem Oth3.sort {D C E G : Nat} {w w1 w2 : World} (h : Oth3 D C E w w1) (k : OthE G w1.heap.size w1 w2) (hG : G = E ∨ w.heap.size ≤ G) : Oth3 D C E w w2 := ⟨k.os.trans h.os, k.tape.trans h.tape, k.output.trans h.output, Nat.le_trans h.size k.size, fun b h1 h2 h3 h4 => (k.block b (Nat.lt_of_lt_of_le h1 h.size) (by omega)).trans (h.block b h1 h2 h3 h4)⟩
def vals (l : List Int) : List Value := l.map (fun x => .int .i64 x)
def nats (l : List Nat) : List Int := l.map (fun x : Nat => (x : Int))
section
variable {g tk : Int} {C n : Nat} {hd oc : Nat → Int} {bt cn : Value}
theorem dv_setb (b' c' : Value) (k : Nat) (hk : k < 722) : (if k = 721 then c' else if k = 720 then b' else dv g tk C n hd oc bt cn k) = dv g tk C n hd oc b' c' k := by
  unfold dv
  by_cases e1 : k = 721
  · subst e1; rfl
  · rw [if_neg e1]
    by_cases e2 : k = 720
    · subst e2; rfl
    · rw [if_neg e2]
      repeat' split
      all_goals first | rfl | omega
theorem dv_720 : dv g tk C n hd oc bt cn 720 = bt := rfl
theorem dv_721 : dv g tk C n hd oc bt cn 721 = cn := rfl
end
/-- What a slice owns, by the index. -/
theorem own_row {w : World} {G m cp : Nat} {xs : List Value} (h : w.ownsRow 0 3 1 (.slice (some ⟨G, 0, none⟩) m cp) m xs) : m ≤ cp ∧ ∃ F, w.rowIs G 3 cp F ∧ ∀ k, k < m → xs[k]? = some (F k) := by
  rcases h.2 with ⟨h1, _⟩ | ⟨g, cap, cur, hv, _, hg, hc, _, hs, ht⟩
  · cases h1
  · injection hv with e1 e2 e3
    injection e1 with e1
    injection e1 with e1
    subst e1 e3
    refine ⟨hc, fun k => cur.getD k undef, ⟨cur, hg, by omega, fun i hi => ?_⟩, fun k hk => ?_⟩
    · show cur[i]? = some (cur.getD i undef)
      rw [Array.getD_eq_getD_getElem?, Array.getElem?_eq_getElem (by omega)]; rfl
    · rw [← ht, List.getElem?_take, if_pos (by omega), Array.getElem?_toList]
      show cur[k]? = some (cur.getD k undef)
      rw [Array.getD_eq_getD_getElem?, Array.getElem?_eq_getElem (by omega)]; rfl
theorem own_of {w w' : World} {b : Nat} {G m cp : Nat} {xs : List Value} (h : w.ownsRow b 3 1 (.slice (some ⟨G, 0, none⟩) m cp) m xs) (e : w'.heap[G]? = w.heap[G]?) : w'.ownsRow b 3 1 (.slice (some ⟨G, 0, none⟩) m cp) m xs := by
  refine ⟨h.1, ?_⟩
  rcases h.2 with ⟨h1, _⟩ | ⟨g, cap, cur, hv, hb, hg, hr⟩
  · cases h1
  · injection hv with e1 e2 e3
    injection e1 with e1
    injection e1 with e1
    subst e1 e3
    exact Or.inr ⟨G, cp, cur, rfl, hb, e.trans hg, hr⟩
theorem tickR {D dl g : Nat} {w : World} (hg : 1 ≤ g) (hg2 : g ≤ 1000) (hdl : dl < 4294967296) (hc : w.cell? ⟨D, 0, none⟩ = some (.int .i64 ((g : Nat) : Int))) : CallR 23 #[.pointer (some ⟨D, 0, none⟩), .int .i64 ((dl : Nat) : Int)] w fun v w' => v = .int .u64 ((tck dl g : Nat) : Int) ∧ w' = w := (tickOf_any D dl g hg hg2 hdl w hc).mono fun _ _ ⟨h1, h2⟩ => ⟨_, h1, rfl, h2⟩
theorem listR {D t nx : Nat} {w : World} (ht : t < 18446744073709551616) (hn : nx < 18446744073709551616) (hc : w.cell? ⟨D, 2, none⟩ = some (.int .u64 ((nx : Nat) : Int))) : CallR 24 #[.pointer (some ⟨D, 0, none⟩), .int .u64 ((t : Nat) : Int)] w fun v w' => v = .int .i32 ((lst t nx : Nat) : Int) ∧ w' = w := (listFor_any D t nx ht hn w hc).mono fun _ _ ⟨h1, h2⟩ => ⟨_, h1, rfl, h2⟩
/-- What fire is called with. -/
structure FC where
  D : Nat
  C : Nat
  E : Nat
  n : Nat
  g : Nat
  tk : Nat
  bd : Nat
  dl : Nat → Nat
  L0 : List Nat
  pre : List Int
namespace FC
variable (q : FC)
def T (x : Nat) : Nat := tck (q.dl x) q.g
def ls (x : Nat) : Nat := lst (q.T x) q.tk
structure Ok : Prop where
  DC : q.D ≠ q.C
  DE : q.D ≠ q.E
  CE : q.C ≠ q.E
  n300 : q.n ≤ 300
  p1024 : q.pre.length ≤ 1024
  g1 : 1 ≤ q.g
  g2 : q.g ≤ 1000
  dl32 : ∀ x, q.dl x < 4294967296
  tk32 : q.tk < 4294967296
  bd32 : q.bd < 4294967296
  nd : q.L0.Nodup
  lt : ∀ x, x ∈ q.L0 → x < q.n
  len : q.L0.length ≤ q.n
def rowD (hd oc : Nat → Int) : Nat → Value := dv (q.g : Int) (q.tk : Int) q.C q.n hd oc (.slice none 0 0) (.slice none 0 0)
def rowC (nx pv : Nat → Int) : Nat → Value := cv (fun x => (q.dl x : Int)) nx pv
/-- A round of fire's loop begins. -/
structure LS (w : World) (done rem : List Nat) (c : Int) (G m cp : Nat) (nx pv hd oc : Nat → Int) (wq : World) : Prop where
  fi : FI q.T q.ls q.bd q.n q.L0 done rem c nx pv hd
  hd : wq.rowIs q.D 42 722 (q.rowD hd oc)
  hc : wq.rowIs q.C 44 (q.n * 3) (q.rowC nx pv)
  own : wq.ownsRow 0 3 1 (.slice (some ⟨G, 0, none⟩) m cp) m (vals (q.pre ++ nats (exd q.T q.bd done)))
  hm : m = q.pre.length + (exd q.T q.bd done).length
  hG : G = q.E ∨ w.heap.size ≤ G
  DG : q.D ≠ G
  CG : q.C ≠ G
  oth : Oth3 q.D q.C q.E w wq
end FC
set_option maxRecDepth 100000 in
set_option maxHeartbeats 1000000 in
theorem fire_round (q : FC) (ok : q.Ok) (w : World) (hDw : q.D < w.heap.size) (hCw : q.C < w.heap.size) (done rem : List Nat) (x G m cp : Nat) (nx pv hd oc : Nat → Int) (wq : World) (s : q.LS w done (x :: rem) (x : Int) G m cp nx pv hd oc wq) (Q : Exit → Act → World → Prop) (hend : ∀ (f : Nat → Value) (G m cp : Nat) (nx' pv' hd' oc' : Nat → Int) (w' : World), Has f [(0, .pointer (some ⟨q.D, 0, none⟩)), (2, .int .u64 ((q.bd : Nat) : Int)), (3, .slice (some ⟨G, 0, none⟩) m cp), (9, .int .i64 ((q.pre.length : Nat) : Int)), (10, .int .i32 (nx x))] → q.LS w (done ++ [x]) rem (nx x) G m cp nx' pv' hd' oc' w' → Q .normal (Fm 81 f) w') (f : Nat → Value) (H : Has f [(0, .pointer (some ⟨q.D, 0, none⟩)), (2, .int .u64 ((q.bd : Nat) : Int)), (3, .slice (some ⟨G, 0, none⟩) m cp), (9, .int .i64 ((q.pre.length : Nat) : Int)), (10, .int .i32 ((x : Nat) : Int))]) :
    Code.wp Ybaf.prog r8 Q (Fm 81 f) wq := by
  have hxL : x ∈ q.L0 := by rw [s.fi.split]; simp
  have hxn : x < q.n := ok.lt x hxL
  have hn := ok.n300
  have hmle : m ≤ 1400 := by
    have h1 := s.hm
    have h2 : (exd q.T q.bd done).length ≤ done.length := List.length_filter_le _ _
    have h3 : done.length ≤ q.L0.length := by rw [s.fi.split]; simp
    have := ok.len; have := ok.p1024
    omega
  have hT : q.T x < 4294967297 := tck_lt _ _ (ok.dl32 x)
  rw [r8_eq]
  refine wp_seq (wp_use (j4 q.D q.C q.n x wq hxn (s.hd.cell (by omega)) f H.1 H.2.2.2.2.1 _ ?_))
  intro f1  S1 e1_11 
  have H1 : Has f1 [(11, .pointer (some ⟨q.C, x * 3, none⟩)), (0, .pointer (some ⟨q.D, 0, none⟩)), (2, .int .u64 ((q.bd : Nat) : Int)), (3, .slice (some ⟨G, 0, none⟩) m cp), (9, .int .i64 ((q.pre.length : Nat) : Int)), (10, .int .i32 ((x : Nat) : Int))] := ⟨e1_11, H.keep S1⟩
  have hnx : wq.cell? ⟨q.C, x * 3 + 1, none⟩ = some (.int .i32 (nx x)) := by rw [s.hc.cell (by omega)]; exact congrArg some (cv_1 x)
  refine wp_seq (wp_use (j5 q.C x (nx x) wq hnx f1 H1.1 _ ?_))
  intro f2  S2 e2_12 
  have H2 : Has f2 [(12, .int .i32 (nx x)), (11, .pointer (some ⟨q.C, x * 3, none⟩)), (0, .pointer (some ⟨q.D, 0, none⟩)), (2, .int .u64 ((q.bd : Nat) : Int)), (3, .slice (some ⟨G, 0, none⟩) m cp), (9, .int .i64 ((q.pre.length : Nat) : Int)), (10, .int .i32 ((x : Nat) : Int))] := ⟨e2_12, H1.keep S2⟩
  have hdl : wq.cell? ⟨q.C, x * 3, none⟩ = some (.int .i64 ((q.dl x : Nat) : Int)) := by rw [s.hc.cell (by omega)]; exact congrArg some (cv_0 x)
  refine wp_seq (wp_use (j6 q.D q.C x (q.dl x) wq hdl _ (tickR ok.g1 ok.g2 (ok.dl32 x) (s.hd.cell (by omega))) f2 H2.2.2.1 H2.2.1 _ ?_))
  intro f3 v w1 S3 e3_13 hR
  have H3 : Has f3 [(13, v), (12, .int .i32 (nx x)), (11, .pointer (some ⟨q.C, x * 3, none⟩)), (0, .pointer (some ⟨q.D, 0, none⟩)), (2, .int .u64 ((q.bd : Nat) : Int)), (3, .slice (some ⟨G, 0, none⟩) m cp), (9, .int .i64 ((q.pre.length : Nat) : Int)), (10, .int .i32 ((x : Nat) : Int))] := ⟨e3_13, H2.keep S3⟩
  obtain ⟨rfl, rfl⟩ := hR
  refine wp_join (fun a' w' => ∃ (f : Nat → Value) (G m cp : Nat) (nx' pv' hd' oc' : Nat → Int), a' = Fm 81 f ∧ Has f [(0, .pointer (some ⟨q.D, 0, none⟩)), (2, .int .u64 ((q.bd : Nat) : Int)), (3, .slice (some ⟨G, 0, none⟩) m cp), (9, .int .i64 ((q.pre.length : Nat) : Int)), (12, .int .i32 (nx x))] ∧ q.LS w (done ++ [x]) rem (nx x) G m cp nx' pv' hd' oc' w') ?_ ?_
  · refine wp_seq (wp_use (j7 (q.T x) q.bd w1 f3 H3.2.2.2.2.1 H3.1 _ ?_))
    intro f4  S4 e4_39 
    have H4 : Has f4 [(39, .bool (decide (((q.T x : Nat) : Int) < ((q.bd : Nat) : Int)))), (13, .int .u64 ((q.T x : Nat) : Int)), (12, .int .i32 (nx x)), (11, .pointer (some ⟨q.C, x * 3, none⟩)), (0, .pointer (some ⟨q.D, 0, none⟩)), (2, .int .u64 ((q.bd : Nat) : Int)), (3, .slice (some ⟨G, 0, none⟩) m cp), (9, .int .i64 ((q.pre.length : Nat) : Int)), (10, .int .i32 ((x : Nat) : Int))] := ⟨e4_39, H3.keep S4⟩
    by_cases hlt : q.T x < q.bd
    · refine wp_cond_true (evN rfl (H4.1.trans (by rw [decide_eq_true (by omega)]))) ?_
      refine wp_seq (wp_use (j8 G m cp x 0 _ w1 (by omega) (by omega) (Nat.zero_le _) s.own f4 H4.2.2.2.2.2.2.1 H4.2.2.2.2.2.2.2.2.1 _ ?_))
      intro f5 G2 cp2 w2 S5 e5_3 o1 o2 o3 o4
      have H5 : Has f5 [(3, .slice (some ⟨G2, 0, none⟩) (m + 1) cp2), (39, .bool (decide (((q.T x : Nat) : Int) < ((q.bd : Nat) : Int)))), (13, .int .u64 ((q.T x : Nat) : Int)), (12, .int .i32 (nx x)), (11, .pointer (some ⟨q.C, x * 3, none⟩)), (0, .pointer (some ⟨q.D, 0, none⟩)), (2, .int .u64 ((q.bd : Nat) : Int)), (9, .int .i64 ((q.pre.length : Nat) : Int)), (10, .int .i32 ((x : Nat) : Int))] := ⟨e5_3, H4.keep S5⟩
      have hsz : (w1.alloc (.cells #[.int .i64 ((x : Nat) : Int)] 3)).heap.size = w1.heap.size + 1 := by show (w1.heap.push _).size = _; rw [Array.size_push]
      have hDl := s.hd.lt
      have hCl := s.hc.lt
      have hGl : G < w1.heap.size := by
        obtain ⟨_, F, hF, _⟩ := own_row s.own
        exact hF.lt
      have hD2 : w2.rowIs q.D 42 722 (q.rowD hd oc) := (s.hd.alloc _).of_block (o2.block q.D (by omega) (fun e => s.DG (by injection e)))
      have hC2 : w2.rowIs q.C 44 (q.n * 3) (q.rowC nx pv) := (s.hc.alloc _).of_block (o2.block q.C (by omega) (fun e => s.CG (by injection e)))
      have hO2 : Oth3 q.D q.C q.E w w2 := (s.oth.alloc _).grown o2 s.hG
      have hG2 : G2 = q.E ∨ w.heap.size ≤ G2 := by
        have := s.oth.size
        rcases o3 with e | e
        · rw [e]; exact s.hG
        · right; omega
      have hDG2 : q.D ≠ G2 := by rcases o3 with e | e; (rw [e]; exact s.DG); omega
      have hCG2 : q.C ≠ G2 := by rcases o3 with e | e; (rw [e]; exact s.CG); omega
      refine wp_use (j9 q.C x _ w2 (hC2.cell (by omega)) (hC2.frozen _) f5 H5.2.2.2.2.1 _ ?_)
      intro f6  S6  
      have H6 : Has f6 [(3, .slice (some ⟨G2, 0, none⟩) (m + 1) cp2), (39, .bool (decide (((q.T x : Nat) : Int) < ((q.bd : Nat) : Int)))), (13, .int .u64 ((q.T x : Nat) : Int)), (12, .int .i32 (nx x)), (11, .pointer (some ⟨q.C, x * 3, none⟩)), (0, .pointer (some ⟨q.D, 0, none⟩)), (2, .int .u64 ((q.bd : Nat) : Int)), (9, .int .i64 ((q.pre.length : Nat) : Int)), (10, .int .i32 ((x : Nat) : Int))] := H5.keep S6
      refine ⟨f6, G2, m + 1, cp2, nx, set1 pv x (-2147483648), hd, oc, rfl, ⟨H6.2.2.2.2.2.1, H6.2.2.2.2.2.2.1, H6.1, H6.2.2.2.2.2.2.2.1, H6.2.2.2.1, trivial⟩, ?_⟩
      refine ⟨FI.gone q.T q.ls q.bd q.n s.fi hlt, hD2.setOther (a := ⟨q.C, x * 3 + 2, none⟩) ok.DC _, (hC2.set (x * 3 + 2) _).congr fun k _ => cv_set2 x _ k, ?_, ?_, hG2, hDG2, hCG2, hO2.two ((Oth2.refl _ _ _).set q.C _ _ (Or.inr rfl))⟩
      · refine own_of (w := w2) ?_ ?_
        · rw [exd_in q.T q.bd hlt]
          have e1 : vals (q.pre ++ nats (exd q.T q.bd done ++ [x])) = vals (q.pre ++ nats (exd q.T q.bd done)) ++ [.int .i64 ((x : Nat) : Int)] := by unfold vals nats; simp
          rw [e1]; exact o1
        · have e : q.C ≠ G2 := hCG2
          simp [World.setCell, Array.getElem?_modify, e]
      · rw [exd_in q.T q.bd hlt, List.length_append, s.hm]; simp; omega
    · refine wp_cond_false (evN rfl (H4.1.trans (by rw [decide_eq_false (by omega)]))) ?_
      have hl : q.ls x ≤ 704 := lst_le _ _ (by omega) (by have := ok.tk32; omega)
      have hh : hd (q.ls x) = -1 ∨ ∃ z : Nat, z < q.n ∧ hd (q.ls x) = (z : Int) := by
        rcases (s.fi.lists (q.ls x) hl).head with h | ⟨z, hz, h⟩
        · exact Or.inl h
        · exact Or.inr ⟨z, ok.lt z (by rw [s.fi.split]; exact List.mem_append.2 (Or.inl ((mem_mvd _ _ _).1 hz).1)), h⟩
      have hc7 : CallR 7 #[.pointer (some ⟨q.D, 0, none⟩), .int .i32 ((x : Nat) : Int), .int .i32 ((q.ls x : Nat) : Int)] w1 fun v w' => ∃ oc', w'.rowIs q.D 42 722 (q.rowD (set1 hd (q.ls x) (x : Int)) oc') ∧ w'.rowIs q.C 44 (q.n * 3) (q.rowC (set1 nx x (hd (q.ls x))) (lnk pv x (q.ls x) (hd (q.ls x)))) ∧ Oth2 q.D q.C w1 w' :=
        (link_any q.D q.C q.n x (q.ls x) _ _ _ nx pv hd oc _ _ w1 ok.DC hxn hl hh s.hd s.hc).mono fun e w' ⟨h1, h2⟩ => ⟨_, h1, h2⟩
      refine wp_use (j10 q.D x (q.T x) (q.ls x) w1 (listR (by omega) (by have := ok.tk32; omega) (s.hd.cell (by omega))) _ hc7 f4 H4.2.2.2.2.1 H4.2.2.2.2.2.2.2.2.1 H4.2.1 _ ?_)
      intro f5 v w2 S5  hR2
      have H5 : Has f5 [(39, .bool (decide (((q.T x : Nat) : Int) < ((q.bd : Nat) : Int)))), (13, .int .u64 ((q.T x : Nat) : Int)), (12, .int .i32 (nx x)), (11, .pointer (some ⟨q.C, x * 3, none⟩)), (0, .pointer (some ⟨q.D, 0, none⟩)), (2, .int .u64 ((q.bd : Nat) : Int)), (3, .slice (some ⟨G, 0, none⟩) m cp), (9, .int .i64 ((q.pre.length : Nat) : Int)), (10, .int .i32 ((x : Nat) : Int))] := H4.keep S5
      obtain ⟨oc', hD2, hC2, hO2⟩ := hR2
      refine ⟨f5, G, m, cp, set1 nx x (hd (q.ls x)), lnk pv x (q.ls x) (hd (q.ls x)), set1 hd (q.ls x) (x : Int), oc', rfl, ⟨H5.2.2.2.2.1, H5.2.2.2.2.2.1, H5.2.2.2.2.2.2.1, H5.2.2.2.2.2.2.2.1, H5.2.2.1, trivial⟩, ?_⟩
      refine ⟨FI.moved q.T q.ls q.bd q.n s.fi ok.nd hlt hl, hD2, hC2, ?_, ?_, s.hG, s.DG, s.CG, s.oth.two hO2⟩
      · rw [exd_out q.T q.bd hlt]
        exact own_of s.own (hO2.block G (fun e => s.DG e.symm) (fun e => s.CG e.symm))
      · rw [exd_out q.T q.bd hlt]; exact s.hm
  · rintro _ w2 ⟨f, G, m, cp, nx', pv', hd', oc', rfl, H, s'⟩
    refine wp_use (j11 (nx x) w2 f H.2.2.2.2.1 _ ?_)
    intro f1  S1 e1_10 
    have H1 : Has f1 [(10, .int .i32 (nx x)), (0, .pointer (some ⟨q.D, 0, none⟩)), (2, .int .u64 ((q.bd : Nat) : Int)), (3, .slice (some ⟨G, 0, none⟩) m cp), (9, .int .i64 ((q.pre.length : Nat) : Int)), (12, .int .i32 (nx x))] := ⟨e1_10, H.keep S1⟩
    exact hend f1 G m cp nx' pv' hd' oc' w2 ⟨H1.2.1, H1.2.2.1, H1.2.2.2.1, H1.2.2.2.2.1, H1.1, trivial⟩ s'
def FC.Post (q : FC) (w : World) (e : Ending) (w' : World) : Prop := ∃ (G cp : Nat) (d' : Array Int), e = .returned (.slice (some ⟨G, 0, none⟩) (q.pre.length + (exd q.T q.bd q.L0).length) cp) ∧ PermIn 0 (exd q.T q.bd q.L0).length (nats (exd q.T q.bd q.L0)).toArray d' ∧ SortedIn (ltD q.dl) 0 (exd q.T q.bd q.L0).length d' ∧ (G = q.E ∨ w.heap.size ≤ G) ∧ q.D ≠ G ∧ q.C ≠ G ∧ q.pre.length + (exd q.T q.bd q.L0).length ≤ cp ∧
      (∃ F, w'.rowIs G 3 cp F ∧ (∀ k, k < q.pre.length → F k = .int .i64 (q.pre.getD k 0)) ∧ (∀ k, k < (exd q.T q.bd q.L0).length → F (q.pre.length + k) = .int .i64 d'[k]!)) ∧ ∃ nx' pv' hd' oc' : Nat → Int, w'.rowIs q.D 42 722 (q.rowD hd' oc') ∧ w'.rowIs q.C 44 (q.n * 3) (q.rowC nx' pv') ∧ FI q.T q.ls q.bd q.n q.L0 q.L0 [] (-1) nx' pv' hd' ∧ Oth3 q.D q.C q.E w w'
theorem evG {N k : Nat} {f : Nat → Value} {v : Value} (h : Nat.blt k N = true) (hv : f k = v) : (Fm N f).tmps.getD k undef = v := evN h hv
theorem ret8 {f : Nat → Value} {R : Ending → World → Prop} {v : Value} {wy : World} (h8 : f 8 = v) (hb : R (.returned v) wy) : bodyPost Ybaf.prog Ybaf.f8 R .ret (Fm 81 f) wy := by
  refine bodyPost_ret_by (v := v) ?_ rfl hb
  rw [results_tmp (t := 8) rfl]
  rw [evG (N := 81) (k := 8) rfl h8]
theorem vals_at (l : List Int) (k : Nat) (h : k < l.length) : (vals l)[k]? = some (.int .i64 (l.getD k 0)) := by
  unfold vals
  rw [List.getElem?_map, List.getElem?_eq_getElem h, List.getD_eq_getElem?_getD, List.getElem?_eq_getElem h]; rfl
theorem nats_get (l : List Nat) (k : Nat) (h : k < l.length) : (nats l).toArray[k]! = ((l[k]'h : Nat) : Int) := by
  unfold nats
  rw [getElem!_pos _ k (by simpa using h)]; simp
set_option maxRecDepth 100000 in
set_option maxHeartbeats 1000000 in
theorem fire_tail (q : FC) (ok : q.Ok) (w : World) (G m cp : Nat) (nx pv hd oc : Nat → Int) (wq : World) (s : q.LS w q.L0 [] (-1) G m cp nx pv hd oc wq) (f : Nat → Value) (H : Has f [(0, .pointer (some ⟨q.D, 0, none⟩)), (2, .int .u64 ((q.bd : Nat) : Int)), (3, .slice (some ⟨G, 0, none⟩) m cp), (9, .int .i64 ((q.pre.length : Nat) : Int))]) :
    Code.wp Ybaf.prog (dropC 4 l8) (bodyPost Ybaf.prog Ybaf.f8 (q.Post w)) (Fm 81 f) wq := by
  have hn := ok.n300
  have hNle : (exd q.T q.bd q.L0).length ≤ 300 := by
    have h2 : (exd q.T q.bd q.L0).length ≤ q.L0.length := List.length_filter_le _ _
    have := ok.len
    omega
  have hp := ok.p1024
  have hm := s.hm
  obtain ⟨hcp, F, hF, hFv⟩ := own_row s.own
  have hpre : ∀ k, k < q.pre.length → F k = .int .i64 (q.pre.getD k 0) := fun k hk => by
    have h1 := hFv k (by omega)
    rw [vals_at _ k (by simp; omega), List.getD_eq_getElem?_getD, List.getElem?_append_left hk, ← List.getD_eq_getElem?_getD] at h1
    exact (Option.some.inj h1).symm
  have hbat : ∀ k, k < (exd q.T q.bd q.L0).length → F (q.pre.length + k) = .int .i64 (nats (exd q.T q.bd q.L0)).toArray[k]! := fun k hk => by
    have h1 := hFv (q.pre.length + k) (by omega)
    rw [vals_at _ _ (by simp [nats]; omega), List.getD_eq_getElem?_getD, List.getElem?_append_right (by omega), show q.pre.length + k - q.pre.length = k by omega] at h1
    rw [nats_get _ k hk, ← Option.some.inj h1]
    unfold nats
    rw [List.getElem?_map, List.getElem?_eq_getElem hk]; rfl
  have hsz : (nats (exd q.T q.bd q.L0)).toArray.size = (exd q.T q.bd q.L0).length := by simp [nats]
  rw [l8_4]
  refine wp_join (fun a' w' => ∃ (f : Nat → Value) (d' : Array Int) (F : Nat → Value), a' = Fm 81 f ∧ Has f [(3, .slice (some ⟨G, 0, none⟩) m cp)] ∧ PermIn 0 (exd q.T q.bd q.L0).length (nats (exd q.T q.bd q.L0)).toArray d' ∧ SortedIn (ltD q.dl) 0 (exd q.T q.bd q.L0).length d' ∧ w'.rowIs G 3 cp F ∧ (∀ k, k < q.pre.length → F k = .int .i64 (q.pre.getD k 0)) ∧ (∀ k, k < (exd q.T q.bd q.L0).length → F (q.pre.length + k) = .int .i64 d'[k]!) ∧ w'.rowIs q.D 42 722 (q.rowD hd oc) ∧ w'.rowIs q.C 44 (q.n * 3) (q.rowC nx pv) ∧ Oth3 q.D q.C q.E w w') ?_ ?_
  · refine wp_seq (wp_use (j12 G m cp q.pre.length wq (by omega) (by omega) f H.2.2.1 H.2.2.2.1 _ ?_))
    intro f1  S1 e1_59 
    have H1 : Has f1 [(59, .bool (decide (1 < (((m : Nat) : Int) - ((q.pre.length : Nat) : Int))))), (0, .pointer (some ⟨q.D, 0, none⟩)), (2, .int .u64 ((q.bd : Nat) : Int)), (3, .slice (some ⟨G, 0, none⟩) m cp), (9, .int .i64 ((q.pre.length : Nat) : Int))] := ⟨e1_59, H.keep S1⟩
    by_cases hgt : (1 : Int) < (((m : Nat) : Int) - ((q.pre.length : Nat) : Int))
    · refine wp_cond_true (evN rfl (H1.1.trans (by rw [decide_eq_true hgt]))) ?_
      refine wp_seq (wp_use (j13 q.D q.C q.n G m cp q.pre.length _ _ wq (by omega) hcp (by omega) (s.hd.cell (by omega)) (s.hd.cell (by omega)) (s.hd.cell (by omega)) (s.hd.frozen _) (s.hd.frozen _) f1 H1.2.1 H1.2.2.2.1 H1.2.2.2.2.1 _ ?_))
      intro f2  S2  
      have H2 : Has f2 [(59, .bool (decide (1 < (((m : Nat) : Int) - ((q.pre.length : Nat) : Int))))), (0, .pointer (some ⟨q.D, 0, none⟩)), (2, .int .u64 ((q.bd : Nat) : Int)), (3, .slice (some ⟨G, 0, none⟩) m cp), (9, .int .i64 ((q.pre.length : Nat) : Int))] := H1.keep S2
      have hD1 : ((wq.drew.setCell ⟨q.D, 720, none⟩ (.slice (some ⟨G, q.pre.length, none⟩) (m - q.pre.length) (cp - q.pre.length))).setCell ⟨q.D, 721, none⟩ (.slice (some ⟨q.C, 0, none⟩) q.n q.n)).rowIs q.D 42 722 (dv (q.g : Int) (q.tk : Int) q.C q.n hd oc (.slice (some ⟨G, q.pre.length, none⟩) (m - q.pre.length) (cp - q.pre.length)) (.slice (some ⟨q.C, 0, none⟩) q.n q.n)) := ((s.hd.drew.set 720 _).set 721 _).congr fun k hk => dv_setb _ _ k hk
      have hC1 : ((wq.drew.setCell ⟨q.D, 720, none⟩ (.slice (some ⟨G, q.pre.length, none⟩) (m - q.pre.length) (cp - q.pre.length))).setCell ⟨q.D, 721, none⟩ (.slice (some ⟨q.C, 0, none⟩) q.n q.n)).rowIs q.C 44 (q.n * 3) (q.rowC nx pv) := (s.hc.drew.setOther (a := ⟨q.D, 720, none⟩) ok.DC.symm _).setOther (a := ⟨q.D, 721, none⟩) ok.DC.symm _
      have hF1 : ((wq.drew.setCell ⟨q.D, 720, none⟩ (.slice (some ⟨G, q.pre.length, none⟩) (m - q.pre.length) (cp - q.pre.length))).setCell ⟨q.D, 721, none⟩ (.slice (some ⟨q.C, 0, none⟩) q.n q.n)).rowIs G 3 cp F := (hF.drew.setOther (a := ⟨q.D, 720, none⟩) s.DG.symm _).setOther (a := ⟨q.D, 721, none⟩) s.DG.symm _
      have hO1 : Oth3 q.D q.C q.E w ((wq.drew.setCell ⟨q.D, 720, none⟩ (.slice (some ⟨G, q.pre.length, none⟩) (m - q.pre.length) (cp - q.pre.length))).setCell ⟨q.D, 721, none⟩ (.slice (some ⟨q.C, 0, none⟩) q.n q.n)) := s.oth.two (((Oth2.refl _ _ _).drew.set q.D _ _ (Or.inl rfl)).set q.D _ _ (Or.inl rfl))
      revert hD1 hC1 hF1 hO1
      generalize (wq.drew.setCell ⟨q.D, 720, none⟩ (.slice (some ⟨G, q.pre.length, none⟩) (m - q.pre.length) (cp - q.pre.length))).setCell ⟨q.D, 721, none⟩ (.slice (some ⟨q.C, 0, none⟩) q.n q.n) = w1
      intro hD1 hC1 hF1 hO1
      have hmN : m - q.pre.length = (exd q.T q.bd q.L0).length := by omega
      have hX := srt_bd w1 q.D G q.C q.pre.length (exd q.T q.bd q.L0).length cp (cp - q.pre.length) q.n q.dl F nx pv hD1.lt hF1.lt hC1.lt s.DG s.CG (by omega) (by omega) (by omega)
        (by rw [hD1.cell (by omega), dv_720, hmN]) (hD1.cell (by omega)) (fun x hx => by rw [hC1.cell (by omega)]; exact congrArg some (cv_0 x))
      have hS : SB w1 G q.pre.length (exd q.T q.bd q.L0).length cp q.n F (nats (exd q.T q.bd q.L0)).toArray w1 := by
        refine ⟨hsz, fun t ht => ⟨(exd q.T q.bd q.L0)[t], ok.lt _ (List.mem_filter.1 (List.getElem_mem ht)).1, nats_get _ t ht⟩, hF1.congr fun k hk => ?_, ⟨rfl, rfl, rfl, Nat.le_refl _, fun _ _ _ => rfl⟩⟩
        unfold evE
        split
        · rename_i hh
          have := hbat (k - q.pre.length) (by omega)
          rw [show q.pre.length + (k - q.pre.length) = k by omega] at this
          exact this
        · rfl
      have hc25 : CallR 25 #[.iface 83 (.pointer (some ⟨q.D, 720, none⟩))] w1 fun v w' => ∃ d', SB w1 G q.pre.length (exd q.T q.bd q.L0).length cp q.n F d' w' ∧ PermIn 0 (exd q.T q.bd q.L0).length (nats (exd q.T q.bd q.L0)).toArray d' ∧ SortedIn (ltD q.dl) 0 (exd q.T q.bd q.L0).length d' :=
        (sort_any hX (ltD_swo q.dl) _ w1 hS).mono fun e w' ⟨h1, h2⟩ => ⟨_, h1, h2⟩
      refine wp_seq (wp_use (j14 q.D w1 _ hc25 f2 H2.2.1 _ ?_))
      intro f3 v w2 S3  hR2
      have H3 : Has f3 [(59, .bool (decide (1 < (((m : Nat) : Int) - ((q.pre.length : Nat) : Int))))), (0, .pointer (some ⟨q.D, 0, none⟩)), (2, .int .u64 ((q.bd : Nat) : Int)), (3, .slice (some ⟨G, 0, none⟩) m cp), (9, .int .i64 ((q.pre.length : Nat) : Int))] := H2.keep S3
      obtain ⟨d', ⟨hs1, hs2, hs3, hs4⟩, hperm, hsort⟩ := hR2
      have hD2 : w2.rowIs q.D 42 722 (dv (q.g : Int) (q.tk : Int) q.C q.n hd oc (.slice (some ⟨G, q.pre.length, none⟩) (m - q.pre.length) (cp - q.pre.length)) (.slice (some ⟨q.C, 0, none⟩) q.n q.n)) := hD1.of_block (hs4.block q.D hD1.lt s.DG)
      have hC2 : w2.rowIs q.C 44 (q.n * 3) (q.rowC nx pv) := hC1.of_block (hs4.block q.C hC1.lt s.CG)
      have hO2 := hO1.sort hs4 s.hG
      refine wp_use (j15 q.D _ _ w2 (hD2.cell (by omega)) (hD2.cell (by omega)) (hD2.frozen _) (hD2.frozen _) f3 H3.2.1 _ ?_)
      intro f4  S4  
      have H4 : Has f4 [(59, .bool (decide (1 < (((m : Nat) : Int) - ((q.pre.length : Nat) : Int))))), (0, .pointer (some ⟨q.D, 0, none⟩)), (2, .int .u64 ((q.bd : Nat) : Int)), (3, .slice (some ⟨G, 0, none⟩) m cp), (9, .int .i64 ((q.pre.length : Nat) : Int))] := H3.keep S4
      refine ⟨f4, d', evE F q.pre.length (exd q.T q.bd q.L0).length d', rfl, ⟨H4.2.2.2.1, trivial⟩, hperm, hsort, (hs3.setOther (a := ⟨q.D, 720, none⟩) s.DG.symm _).setOther (a := ⟨q.D, 721, none⟩) s.DG.symm _, fun k hk => ?_, fun k hk => ?_, ((hD2.set 720 _).set 721 _).congr fun k hk => dv_setb _ _ k hk, (hC2.setOther (a := ⟨q.D, 720, none⟩) ok.DC.symm _).setOther (a := ⟨q.D, 721, none⟩) ok.DC.symm _, hO2.two (((Oth2.refl _ _ _).set q.D _ _ (Or.inl rfl)).set q.D _ _ (Or.inl rfl))⟩
      · unfold evE; rw [if_neg (by omega)]; exact hpre k hk
      · unfold evE; rw [if_pos (by omega), show q.pre.length + k - q.pre.length = k by omega]
    · refine wp_cond_false (evN rfl (H1.1.trans (by rw [decide_eq_false hgt]))) (wp_skip ?_)
      exact ⟨f1, (nats (exd q.T q.bd q.L0)).toArray, F, rfl, ⟨H1.2.2.2.1, trivial⟩, permIn_refl _ _ _, fun i j h1 h2 h3 => by omega, hF, hpre, hbat, s.hd, s.hc, s.oth⟩
  · rintro _ w3 ⟨f, d', F', rfl, H, hperm, hsort, hF', hp1, hp2, hD3, hC3, hO3⟩
    refine wp_seq (wp_use (j16 _ w3 f H.1 _ ?_))
    intro f1  S1 e1_8 
    have H1 : Has f1 [(8, .slice (some ⟨G, 0, none⟩) m cp), (3, .slice (some ⟨G, 0, none⟩) m cp)] := ⟨e1_8, H.keep S1⟩
    refine wp_ret (ret8 H1.1 ?_)
    exact ⟨G, cp, d', by rw [hm], hperm, hsort, s.hG, s.DG, s.CG, by omega, ⟨F', hF', hp1, hp2⟩, nx, pv, hd, oc, hD3, hC3, s.fi, hO3⟩
set_option maxRecDepth 100000 in
set_option maxHeartbeats 1000000 in
theorem fire_any (q : FC) (ok : q.Ok) (nx pv hd oc : Nat → Int) (w : World) (hfi : FI q.T q.ls q.bd q.n q.L0 [] q.L0 (hd 704) nx pv (set1 hd 704 (-1)))
    (hD : w.rowIs q.D 42 722 (q.rowD hd oc)) (hC : w.rowIs q.C 44 (q.n * 3) (q.rowC nx pv)) (hown : w.ownsRow 0 3 1 (.slice (some ⟨q.E, 0, none⟩) q.pre.length q.pre.length) q.pre.length (vals q.pre)) :
    Calls Ybaf.prog 8 #[.pointer (some ⟨q.D, 0, none⟩), .int .i32 704, .int .u64 ((q.bd : Nat) : Int), .slice (some ⟨q.E, 0, none⟩) q.pre.length q.pre.length] w (q.Post w) := by
  go_enter Ybaf.func8, Ybaf.ntmps8
  change Code.wp Ybaf.prog l8 _ _ _
  rw [Fm_of (N := 81) _ (by rfl)]
  generalize hf : (fun k => Array.getD _ k undef) = f
  have H : Has f [(0, .pointer (some ⟨q.D, 0, none⟩)), (1, .int .i32 704), (2, .int .u64 ((q.bd : Nat) : Int)), (3, .slice (some ⟨q.E, 0, none⟩) q.pre.length q.pre.length)] := by
    subst hf
    exact ⟨by rfl, by rfl, by rfl, by rfl, trivial⟩
  clear hf
  rw [l8_eq]
  refine wp_seq (wp_use (j0 w f  _ ?_))
  intro f1  S1 e1_8 
  have H1 : Has f1 [(8, .slice none 0 0), (0, .pointer (some ⟨q.D, 0, none⟩)), (1, .int .i32 704), (2, .int .u64 ((q.bd : Nat) : Int)), (3, .slice (some ⟨q.E, 0, none⟩) q.pre.length q.pre.length)] := ⟨e1_8, H.keep S1⟩
  refine wp_seq (wp_use (j1 q.E q.pre.length q.pre.length w f1 H1.2.2.2.2.1 _ ?_))
  intro f2  S2 e2_9 
  have H2 : Has f2 [(9, .int .i64 ((q.pre.length : Nat) : Int)), (8, .slice none 0 0), (0, .pointer (some ⟨q.D, 0, none⟩)), (1, .int .i32 704), (2, .int .u64 ((q.bd : Nat) : Int)), (3, .slice (some ⟨q.E, 0, none⟩) q.pre.length q.pre.length)] := ⟨e2_9, H1.keep S2⟩
  have hc22 : CallR 22 #[.pointer (some ⟨q.D, 0, none⟩), .int .i32 704] w fun v w' => v = .int .i32 (hd 704) ∧ w' = w.setCell ⟨q.D, 708, none⟩ (.int .i32 (-1)) :=
    (detach_any q.D (hd 704) w (by rw [hD.cell (by omega)]; exact congrArg some (dv_h 704 (by omega))) (hD.frozen _)).mono fun e w' ⟨h1, h2⟩ => ⟨_, h1, rfl, h2⟩
  refine wp_seq (wp_use (j2 q.D w _ hc22 f2 H2.2.2.1 H2.2.2.2.1 _ ?_))
  intro f3 v w1 S3 e3_10 hR1
  have H3 : Has f3 [(10, v), (9, .int .i64 ((q.pre.length : Nat) : Int)), (8, .slice none 0 0), (0, .pointer (some ⟨q.D, 0, none⟩)), (1, .int .i32 704), (2, .int .u64 ((q.bd : Nat) : Int)), (3, .slice (some ⟨q.E, 0, none⟩) q.pre.length q.pre.length)] := ⟨e3_10, H2.keep S3⟩
  obtain ⟨rfl, hw1⟩ := hR1
  have s0 : q.LS w [] q.L0 (hd 704) q.E q.pre.length q.pre.length nx pv (set1 hd 704 (-1)) oc w1 := by
    subst hw1
    refine ⟨hfi, (hD.set 708 _).congr fun k _ => dv_seth 704 (by omega) _ k, hC.setOther (a := ⟨q.D, 708, none⟩) ok.DC.symm _, own_of (w := w) (by simpa [exd, nats] using hown) ?_, by simp [exd], Or.inl rfl, ok.DE, ok.CE, (Oth3.refl _ _ _ _).two ((Oth2.refl _ _ _).set q.D _ _ (Or.inl rfl))⟩
    have e := ok.DE
    simp [World.setCell, Array.getElem?_modify, e]
  refine wp_join (fun a' w' => ∃ (f : Nat → Value) (G m cp : Nat) (nx pv hd oc : Nat → Int), a' = Fm 81 f ∧ Has f [(0, .pointer (some ⟨q.D, 0, none⟩)), (2, .int .u64 ((q.bd : Nat) : Int)), (3, .slice (some ⟨G, 0, none⟩) m cp), (9, .int .i64 ((q.pre.length : Nat) : Int))] ∧ q.LS w q.L0 [] (-1) G m cp nx pv hd oc w') ?_ ?_
  · refine wp_block (wp_loop_ghost (fun k a' w' => ∃ (f : Nat → Value) (done rem : List Nat) (c : Int) (G m cp : Nat) (nx pv hd oc : Nat → Int), a' = Fm 81 f ∧ k = rem.length ∧ Has f [(0, .pointer (some ⟨q.D, 0, none⟩)), (2, .int .u64 ((q.bd : Nat) : Int)), (3, .slice (some ⟨G, 0, none⟩) m cp), (9, .int .i64 ((q.pre.length : Nat) : Int)), (10, .int .i32 c)] ∧ q.LS w done rem c G m cp nx pv hd oc w') q.L0.length ⟨f3, [], q.L0, hd 704, q.E, q.pre.length, q.pre.length, nx, pv, _, oc, rfl, rfl, ⟨H3.2.2.2.1, H3.2.2.2.2.2.1, H3.2.2.2.2.2.2.1, H3.2.1, H3.1, trivial⟩, s0⟩ ?_)
    rintro k _ w0 ⟨f, done, rem, c, G, m, cp, nx, pv, hd, oc, rfl, rfl, H, s⟩
    rw [p8_eq]
    refine wp_seq (wp_seq (wp_use (j3 c w0 f H.2.2.2.2.1 _ ?_)))
    intro f21  S21 e21_20 
    have H21 : Has f21 [(20, .bool (!(c == (-1)))), (0, .pointer (some ⟨q.D, 0, none⟩)), (2, .int .u64 ((q.bd : Nat) : Int)), (3, .slice (some ⟨G, 0, none⟩) m cp), (9, .int .i64 ((q.pre.length : Nat) : Int)), (10, .int .i32 c)] := ⟨e21_20, H.keep S21⟩
    cases rem with
    | nil =>
      have hc := s.fi.chain
      have hb : (!(c == (-1))) = false := by rw [show c = -1 from hc]; rfl
      refine wp_cond_false (evN rfl (H21.1.trans (by rw [hb]))) (wp_exit ?_)
      have hdone : done = q.L0 := by have := s.fi.split; simpa using this.symm
      subst hdone
      rw [show c = -1 from hc] at s
      exact ⟨f21, G, m, cp, nx, pv, hd, oc, rfl, ⟨H21.2.1, H21.2.2.1, H21.2.2.2.1, H21.2.2.2.2.1, trivial⟩, s⟩
    | cons x rem =>
      have hc := s.fi.chain.1
      subst hc
      have hb : (!(((x : Nat) : Int) == (-1))) = true := by simp
      refine wp_cond_true (evN rfl (H21.1.trans (by rw [hb]))) (wp_skip (wp_block ?_))
      refine fire_round q ok w hD.lt hC.lt done rem x G m cp nx pv hd oc w0 s _ ?_ f21 ⟨H21.2.1, H21.2.2.1, H21.2.2.2.1, H21.2.2.2.2.1, H21.2.2.2.2.2.1, trivial⟩
      intro f G m cp nx' pv' hd' oc' w' H' s'
      exact ⟨rem.length, by simp, f, done ++ [x], rem, nx x, G, m, cp, nx', pv', hd', oc', rfl, rfl, H', s'⟩
  · rintro _ w2 ⟨f, G, m, cp, nx, pv, hd, oc, rfl, H, s⟩
    exact fire_tail q ok w G m cp nx pv hd oc w2 s f H
end Go.Proofs.YbulkblsgFmt

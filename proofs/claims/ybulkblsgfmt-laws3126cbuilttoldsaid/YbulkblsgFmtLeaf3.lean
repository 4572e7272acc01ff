import Derived.Test.YbulkblsgFmtLeaf2
import Derived.Laws.BytesArg
import Derived.Laws.ResultCell
namespace Go.Proofs.YbulkblsgFmt
open Go.RowKit Go.Extern.Stop Go.Stop Go.Extern
set_option linter.unusedVariables false
set_option linter.unusedSimpArgs false
theorem results_ct {P : Program} {fn : Func} {p u : Tmp} {ty : TypeId} (h : fn.results = #[.cell p ty, .tmp u]) (tmps : Array Value) (w : World) (g : Nat) (t : TypeId) (cs : Array Value) (fr : Nat × Nat) (d : TypeDesc) (v : Value)
    (hp : tmps.getD p undef = .pointer (some ⟨g, 0, none⟩)) (hv : tmps.getD u undef = v) (hg : w.heap[g]? = some (.cells cs t fr)) (hu : P.underlying ty = some d) (hd : (match d with | .struct _ | .array _ _ => true | _ => false) = true) (hi : (P.info? ty).map (·.size) = some cs.size) :
    (results fn tmps).run P w = .ok (.tuple #[.agg cs, v]) w := by
  rw [results_cell_tmp h, hp, hv]
  simp [asAddr, Result.andThen, run_loadVar_row w g t ty cs fr d hg hu hd hi]
theorem results_ctt {P : Program} {fn : Func} {p u x : Tmp} {ty : TypeId} (h : fn.results = #[.cell p ty, .tmp u, .tmp x]) (tmps : Array Value) (w : World) (g : Nat) (t : TypeId) (cs : Array Value) (fr : Nat × Nat) (d : TypeDesc) (v y : Value)
    (hp : tmps.getD p undef = .pointer (some ⟨g, 0, none⟩)) (hv : tmps.getD u undef = v) (hy : tmps.getD x undef = y) (hg : w.heap[g]? = some (.cells cs t fr)) (hu : P.underlying ty = some d) (hd : (match d with | .struct _ | .array _ _ => true | _ => false) = true) (hi : (P.info? ty).map (·.size) = some cs.size) :
    (results fn tmps).run P w = .ok (.tuple #[.agg cs, v, y]) w := by
  have hl := run_loadVar_row w g t ty cs fr d hg hu hd hi
  have hp' : tmps[p]?.getD undef = .pointer (some ⟨g, 0, none⟩) := by simpa using hp
  have hv' : tmps[u]?.getD undef = v := by simpa using hv
  have hy' : tmps[x]?.getD undef = y := by simpa using hy
  simp [results, h, hp', hv', hy', asAddr, Result.andThen, hl]
theorem ld96m {X : Nat → Nat} {b o : Nat} {w : World} (h : w.rangeAt b o (row16 X).toList) : (Instr.loadAt 96 (.pointer (some ⟨b, o, none⟩))).run Ybaf.prog w = .ok (.agg (row16 X)) w := run_loadAt_mid w b o 96 _ _ h Ybaf.underlying96 rfl (by kernel_rfl)
theorem st65' {w : World} {b : Nat} {cs ds : Array Value} (h : w.heap[b]? = some (.cells cs 65 (0, 0))) (hz : cs.size = 3) (hd : ds.size = 3) (h1 : ds.all (·.oneCell') = true) : (Instr.storeAt 65 (.pointer (some ⟨b, 0, none⟩)) (.agg ds)).run Ybaf.prog w = .ok () (w.setRow b ds) := by
  simp only [Instr.storeAt, Instr.sureAddr, Sem.run_bind, Sem.run_pure, Result.andThen]
  exact run_storeVar_row w b 65 65 _ _ h (by rw [hd]; kernel_rfl) (by omega) h1
set_option maxRecDepth 100000 in
set_option maxHeartbeats 2000000 in
theorem addrSlice_any (X : Nat → Nat) (zp : Option Addr) (b off c : Nat) (w : World) (hX : ∀ k, k < 16 → X k ≤ 255) (hg : w.cell? ⟨3, 0, none⟩ = some (.pointer zp)) (hr : w.rangeAt b off (row16 X).toList) :
    Calls Ybaf.prog 29 #[.slice (some ⟨b, off, none⟩) 16 c] w fun e w' => e = .returned (.tuple #[.agg (adr X (.pointer zp)), .bool true]) ∧ Below w.heap.size w w' := by
  have hl : b < w.heap.size := World.block_lt_of_cell? w _ (hr 0 _ rfl)
  obtain ⟨w1, hw1⟩ : ∃ x, w.alloc (.cells #[.int .u64 0, .int .u64 0, .pointer none] 65) = x := ⟨_, rfl⟩
  have b1 : Below w.heap.size w w1 := by rw [← hw1]; exact al (Below.refl _ _) _
  have r1 : w1.heap[w.heap.size]? = some (.cells #[.int .u64 0, .int .u64 0, .pointer none] 65 (0, 0)) := by rw [← hw1]; exact heap_alloc_new _ _
  have hr1 : w1.rangeAt b off (row16 X).toList := fun j v hv => by rw [b1.cell (by exact hl)]; exact hr j v hv
  have hg1 : w1.cell? ⟨3, 0, none⟩ = some (.pointer zp) := by rw [b1.cell (by exact World.block_lt_of_cell? w _ hg)]; exact hg
  have s1 : w1.heap.size = w.heap.size + 1 := by rw [← hw1]; simp
  go_enter Ybaf.func29, Ybaf.ntmps29
  refine wp_seq (wp_region_lit ?_)
  refine pl 2 rfl rfl (ex_alloc (t := 65) (by kernel_rfl) (al65 _)) ?_
  simp only [Act.put, List.setIfInBounds_toArray, List.set_cons_zero, List.set_cons_succ]
  rw [hw1]
  refine plk 3 (.bool false) rfl rfl (by kernel_rfl) ?_
  simp only [Act.put, List.setIfInBounds_toArray, List.set_cons_zero, List.set_cons_succ]
  refine wpList_nil ?_
  refine wp_seq (wp_seq (wp_region_lit ?_))
  refine plk 4 (.slice (some ⟨b, off, none⟩) 16 c) rfl rfl (by kernel_rfl) ?_
  simp only [Act.put, List.setIfInBounds_toArray, List.set_cons_zero, List.set_cons_succ]
  refine plk 5 (.int .i64 16) rfl rfl (by kernel_rfl) ?_
  simp only [Act.put, List.setIfInBounds_toArray, List.set_cons_zero, List.set_cons_succ]
  refine wpList_nil ?_
  refine wp_block (wp_seq (wp_region_lit ?_))
  refine plk 7 (.bool false) rfl rfl (by kernel_rfl) ?_
  simp only [Act.put, List.setIfInBounds_toArray, List.set_cons_zero, List.set_cons_succ]
  refine plk 6 (.bool false) rfl rfl (by kernel_rfl) ?_
  simp only [Act.put, List.setIfInBounds_toArray, List.set_cons_zero, List.set_cons_succ]
  refine wpList_nil ?_
  refine wp_cond_false (by kernel_rfl) ?_
  refine wp_seq (wp_region_lit ?_)
  refine plk 13 (.bool true) rfl rfl (by kernel_rfl) ?_
  simp only [Act.put, List.setIfInBounds_toArray, List.set_cons_zero, List.set_cons_succ]
  refine plk 12 (.bool true) rfl rfl (by kernel_rfl) ?_
  simp only [Act.put, List.setIfInBounds_toArray, List.set_cons_zero, List.set_cons_succ]
  refine wpList_nil ?_
  refine wp_cond_true (by kernel_rfl) ?_
  refine wp_seq (wp_region_lit ?_)
  refine plk 14 (.slice (some ⟨b, off, none⟩) 16 c) rfl rfl (by kernel_rfl) ?_
  simp only [Act.put, List.setIfInBounds_toArray, List.set_cons_zero, List.set_cons_succ]
  refine plk 15 (.pointer (some ⟨b, off, none⟩)) rfl rfl (by kernel_rfl) ?_
  simp only [Act.put, List.setIfInBounds_toArray, List.set_cons_zero, List.set_cons_succ]
  refine pl 16 rfl rfl (ex_load (x := .tmp 15) (t := 96) (by kernel_rfl) (by kernel_rfl) (ld96m hr1)) ?_
  simp only [Act.put, List.setIfInBounds_toArray, List.set_cons_zero, List.set_cons_succ]
  refine plc 17 (f := 41) (args := #[.agg (row16 X)]) (R := fun v x => v = .agg (adr X (.pointer zp)) ∧ Below w1.heap.size w1 x) rfl rfl (by kernel_rfl) ((from16_any X zp w1 hX hg1).mono fun _ _ ⟨h1, h2⟩ => ⟨_, h1, rfl, h2⟩) ?_
  rintro v x ⟨rfl, bx⟩
  simp only [Act.put, List.setIfInBounds_toArray, List.set_cons_zero, List.set_cons_succ]
  have rx : x.heap[w.heap.size]? = some (.cells #[.int .u64 0, .int .u64 0, .pointer none] 65 (0, 0)) := by rw [bx.block _ (by omega)]; exact r1
  refine pls (x := .tmp 2) (y := .tmp 17) (t := 65) rfl rfl (by kernel_rfl) (by kernel_rfl) (by kernel_rfl) (st65' (ds := adr X (.pointer zp)) rx rfl rfl (by kernel_rfl)) ?_
  refine plk 3 (.bool true) rfl rfl (by kernel_rfl) ?_
  simp only [Act.put, List.setIfInBounds_toArray, List.set_cons_zero, List.set_cons_succ]
  refine wpList_nil ?_
  refine wp_ret ?_
  simp only [Exit.inBlock, Exit.then]
  exact (bodyPost_ret_by (results_ct (p := 2) (ty := 65) (u := 3) rfl _ _ w.heap.size 65 (adr X (.pointer zp)) (0, 0) _ (.bool true) rfl rfl (row_stored rx rfl) Ybaf.underlying65 rfl (by kernel_rfl)) rfl ⟨rfl, below_setRow (b1.trans (below_le bx (by omega))) (Nat.le_refl _) _⟩)

theorem bx65 (X : Nat → Nat) (p : Option Addr) (w : World) : (Instr.box 65 (.agg (adr X (.pointer p)))).run Ybaf.prog w = .ok (.pointer (some ⟨w.heap.size, 0, none⟩)) (w.alloc (.cells (adr X (.pointer p)) 65)) := by kernel_rfl
def Z16 : Array Value := row16 (fun _ => 0)
theorem al96 (w : World) : (Instr.alloc 96 true (.tuple #[])).run Ybaf.prog w = .ok (.pointer (some ⟨w.heap.size, 0, none⟩)) (w.alloc (.cells Z16 96)) := by kernel_rfl
theorem below_setCells {B : Nat} {w : World} {b : Nat} (hb : B ≤ b) : ∀ (vs : List Value) (o : Nat) (x : World), Below B w x → Below B w (x.setCells b o vs)
  | [], _, _, h => h
  | v :: r, o, x, h => below_setCells hb r (o + 1) _ (h.setCell (by exact hb) v)
def setL : Array Value → Nat → List Value → Array Value
  | cs, _, [] => cs
  | cs, o, v :: r => setL (cs.setIfInBounds o v) (o + 1) r
theorem row_sets {b : Nat} {t : TypeId} : ∀ (vs : List Value) (o : Nat) (x : World) (cs : Array Value), x.heap[b]? = some (.cells cs t (0, 0)) → (x.setCells b o vs).heap[b]? = some (.cells (setL cs o vs) t (0, 0))
  | [], _, _, _, h => h
  | v :: r, o, x, cs, h => row_sets r (o + 1) _ _ (row_set h)
theorem other_sets {b c : Nat} (hne : c ≠ b) : ∀ (vs : List Value) (o : Nat) (x : World), (x.setCells b o vs).heap[c]? = x.heap[c]?
  | [], _, _ => rfl
  | v :: r, o, x => (other_sets hne r (o + 1) _).trans (Below.heap_setCell _ _ _ _ hne)
theorem setL_all (X : Nat → Nat) : setL (setL Z16 0 (row8 X)) 8 (row8 (fun k => X (k + 8))) = row16 X := by kernel_rfl
theorem fa65_0 (b : Nat) (w : World) : (Instr.fieldAt 65 (.pointer (some ⟨b, 0, none⟩)) 0).run Ybaf.prog w = .ok (.pointer (some ⟨b, 0, none⟩)) w := by kernel_rfl
theorem fa60_0 (b : Nat) (w : World) : (Instr.fieldAt 60 (.pointer (some ⟨b, 0, none⟩)) 0).run Ybaf.prog w = .ok (.pointer (some ⟨b, 0, none⟩)) w := by kernel_rfl
theorem fa60_1 (b : Nat) (w : World) : (Instr.fieldAt 60 (.pointer (some ⟨b, 0, none⟩)) 1).run Ybaf.prog w = .ok (.pointer (some ⟨b, 1, none⟩)) w := by kernel_rfl
theorem there_row {w : World} {b o : Nat} {cs : Array Value} (h : w.heap[b]? = some (.cells cs 96 (0, 0))) (ho : o < cs.size) : (∃ u, w.cell? ⟨b, o, none⟩ = some u) ∧ w.frozen? ⟨b, o, none⟩ = false := by
  refine ⟨⟨cs[o], by rw [cell_of_row w b o _ 96 (0, 0) h]; exact Array.getElem?_eq_getElem ho⟩, ?_⟩
  unfold World.frozen?; rw [show (World.heap _)[(⟨b, o, none⟩ : Addr).block]? = _ from h]; simp
theorem st96 {w : World} {b : Nat} {X : Nat → Nat} {cs : Array Value} (h : w.heap[b]? = some (.cells cs 96 (0, 0))) (hz : cs.size = 16) : (Instr.storeAt 96 (.pointer (some ⟨b, 0, none⟩)) (.agg (row16 X))).run Ybaf.prog w = .ok () (w.setRow b (row16 X)) := by
  simp only [Instr.storeAt, Instr.sureAddr, Sem.run_bind, Sem.run_pure, Result.andThen]
  exact run_storeVar_row w b 96 96 _ _ h (by kernel_rfl) (by rw [hz]; rfl) (by kernel_rfl)
theorem ld96 {w : World} {b : Nat} {X : Nat → Nat} (h : w.heap[b]? = some (.cells (row16 X) 96 (0, 0))) : (Instr.loadAt 96 (.pointer (some ⟨b, 0, none⟩))).run Ybaf.prog w = .ok (.agg (row16 X)) w := by
  simp only [Instr.loadAt, Instr.sureAddr, Sem.run_bind, Sem.run_pure, Result.andThen_ok, run_loadVar_row w b 96 96 _ (0, 0) _ h Ybaf.underlying96 rfl (by kernel_rfl)]
theorem putR {b off n c : Nat} {X : Nat → Nat} {w : World} (h : Calls Ybaf.prog 42 #[.slice (some ⟨b, off, none⟩) n c, .int .u64 ((be X : Nat) : Int)] w fun e w' => e = .returned (.tuple #[]) ∧ w' = w.setCells b off (row8 X)) : Calls Ybaf.prog 42 #[.slice (some ⟨b, off, none⟩) n c, .int .u64 ((be X : Nat) : Int)] w fun e w' => ∃ v, e = .returned v ∧ w' = w.setCells b off (row8 X) :=
  h.mono fun _ _ ⟨h1, h2⟩ => ⟨_, h1, h2⟩
set_option maxRecDepth 100000 in
set_option maxHeartbeats 2000000 in
theorem as16_any (X : Nat → Nat) (p : Option Addr) (w : World) (hX : ∀ k, k < 16 → X k ≤ 255) :
    Calls Ybaf.prog 33 #[.agg (adr X (.pointer p))] w fun e w' => e = .returned (.agg (row16 X)) ∧ Below w.heap.size w w' := by
  obtain ⟨w2, hw2⟩ : ∃ x, (w.alloc (.cells (adr X (.pointer p)) 65)).alloc (.cells Z16 96) = x := ⟨_, rfl⟩
  have b2 : Below w.heap.size w w2 := by rw [← hw2]; exact al (al (Below.refl _ _) _) _
  have rA : w2.heap[w.heap.size]? = some (.cells (adr X (.pointer p)) 65 (0, 0)) := by rw [← hw2]; exact (Below.heap_alloc _ _ _ (by simp)).trans (heap_alloc_new _ _)
  have rB : w2.heap[w.heap.size + 1]? = some (.cells Z16 96 (0, 0)) := by
    rw [← hw2]
    have q := heap_alloc_new (w.alloc (.cells (adr X (.pointer p)) 65)) (.cells Z16 96)
    simpa using q
  have cA : w2.cell? ⟨w.heap.size, 0, none⟩ = some (.int .u64 ((be X : Nat) : Int)) := by rw [cell_of_row _ _ 0 _ 65 (0, 0) rA]; rfl
  obtain ⟨w3, hw3⟩ : ∃ x, w2.drew.setCells (w.heap.size + 1) 0 (row8 X) = x := ⟨_, rfl⟩
  have b3 : Below w.heap.size w w3 := by rw [← hw3]; exact below_setCells (by omega) _ _ _ b2.drew
  have rA3 : w3.heap[w.heap.size]? = some (.cells (adr X (.pointer p)) 65 (0, 0)) := by rw [← hw3, other_sets (by omega)]; exact rA
  have rB3 : w3.heap[w.heap.size + 1]? = some (.cells (setL Z16 0 (row8 X)) 96 (0, 0)) := by rw [← hw3]; exact row_sets _ _ _ _ rB
  have cB : w3.cell? ⟨w.heap.size, 1, none⟩ = some (.int .u64 ((be (fun k => X (k + 8)) : Nat) : Int)) := by rw [cell_of_row _ _ 1 _ 65 (0, 0) rA3]; rfl
  obtain ⟨w4, hw4⟩ : ∃ x, w3.drew.setCells (w.heap.size + 1) 8 (row8 (fun k => X (k + 8))) = x := ⟨_, rfl⟩
  have b4 : Below w.heap.size w w4 := by rw [← hw4]; exact below_setCells (by omega) _ _ _ b3.drew
  have rB4 : w4.heap[w.heap.size + 1]? = some (.cells (row16 X) 96 (0, 0)) := by rw [← hw4, ← setL_all X]; exact row_sets _ _ _ _ rB3
  go_enter Ybaf.func33, Ybaf.ntmps33
  refine wp_seq (wp_region_lit ?_)
  refine pl 1 rfl rfl (ex_box (x := .tmp 0) (t := 65) (by kernel_rfl) (by kernel_rfl) (bx65 X p _)) ?_
  simp only [Act.put, List.setIfInBounds_toArray, List.set_cons_zero, List.set_cons_succ]
  refine pl 2 rfl rfl (ex_alloc (t := 96) (by kernel_rfl) (al96 _)) ?_
  simp only [Act.put, List.setIfInBounds_toArray, List.set_cons_zero, List.set_cons_succ]
  refine wpList_nil ?_
  simp only [Exit.then, World.size_alloc]
  rw [hw2]
  refine wp_seq (wp_region_any (by kernel_rfl) ?_)
  change wpAny _ _ _ _ _ _ _ (World.drew _)
  refine anyT 3 (i := 0) (v := .slice (some ⟨w.heap.size + 1, 0, none⟩) 8 16) rfl (by kernel_rfl) (by kernel_rfl) (by kernel_rfl) (fun _ _ _ h => h) (by kernel_rfl) (by kernel_rfl) (fun w => by kernel_rfl) ?_
  simp only [Act.put, List.setIfInBounds_toArray, List.set_cons_zero, List.set_cons_succ]
  refine anyT 4 (i := 1) (v := .pointer (some ⟨w.heap.size, 0, none⟩)) rfl (by kernel_rfl) (by kernel_rfl) (by kernel_rfl) (fun _ _ _ h => h) (by kernel_rfl) (by kernel_rfl) (fun w => by kernel_rfl) ?_
  simp only [Act.put, List.setIfInBounds_toArray, List.set_cons_zero, List.set_cons_succ]
  refine anyT 5 (i := 2) (v := .pointer (some ⟨w.heap.size, 0, none⟩)) rfl (by kernel_rfl) (by kernel_rfl) (by kernel_rfl) (fun _ _ _ h => h) (by kernel_rfl) (by kernel_rfl) (fun w => by kernel_rfl) ?_
  simp only [Act.put, List.setIfInBounds_toArray, List.set_cons_zero, List.set_cons_succ]
  refine any1 6 (i := 3) (by kernel_rfl) rfl (by kernel_rfl) (by kernel_rfl) (ex_load (x := .tmp 5) (t := 35) (by kernel_rfl) (by kernel_rfl) (ld35 (w := w2.drew) cA)) ?_
  simp only [Act.put, List.setIfInBounds_toArray, List.set_cons_zero, List.set_cons_succ]
  refine any1c 7 (i := 4) (f := 42) (args := #[.slice (some ⟨w.heap.size + 1, 0, none⟩) 8 16, .int .u64 ((be X : Nat) : Int)]) (by kernel_rfl) rfl (by kernel_rfl) (by kernel_rfl) (by kernel_rfl) (putR (put64_any (w.heap.size + 1) 0 8 16 X w2.drew (by omega) (fun k hk => hX k (by omega)) (fun k hk => there_row (w := w2.drew) rB (by show 0 + k < 16; omega)))) ?_
  rintro v x rfl
  simp only [Act.put, List.setIfInBounds_toArray, List.set_cons_zero, List.set_cons_succ]
  rw [hw3]
  refine wpAny_done (by kernel_rfl) ?_ _
  refine wp_seq (wp_region_any (by kernel_rfl) ?_)
  change wpAny _ _ _ _ _ _ _ (World.drew _)
  refine anyT 8 (i := 0) (v := .slice (some ⟨w.heap.size + 1, 8, none⟩) 8 8) rfl (by kernel_rfl) (by kernel_rfl) (by kernel_rfl) (fun _ _ _ h => h) (by kernel_rfl) (by kernel_rfl) (fun w => by kernel_rfl) ?_
  simp only [Act.put, List.setIfInBounds_toArray, List.set_cons_zero, List.set_cons_succ]
  refine anyT 9 (i := 1) (v := .pointer (some ⟨w.heap.size, 0, none⟩)) rfl (by kernel_rfl) (by kernel_rfl) (by kernel_rfl) (fun _ _ _ h => h) (by kernel_rfl) (by kernel_rfl) (fun w => by kernel_rfl) ?_
  simp only [Act.put, List.setIfInBounds_toArray, List.set_cons_zero, List.set_cons_succ]
  refine anyT 10 (i := 2) (v := .pointer (some ⟨w.heap.size, 1, none⟩)) rfl (by kernel_rfl) (by kernel_rfl) (by kernel_rfl) (fun _ _ _ h => h) (by kernel_rfl) (by kernel_rfl) (fun w => by kernel_rfl) ?_
  simp only [Act.put, List.setIfInBounds_toArray, List.set_cons_zero, List.set_cons_succ]
  refine any1 11 (i := 3) (by kernel_rfl) rfl (by kernel_rfl) (by kernel_rfl) (ex_load (x := .tmp 10) (t := 35) (by kernel_rfl) (by kernel_rfl) (ld35 (w := w3.drew) cB)) ?_
  simp only [Act.put, List.setIfInBounds_toArray, List.set_cons_zero, List.set_cons_succ]
  refine any1c 12 (i := 4) (f := 42) (args := #[.slice (some ⟨w.heap.size + 1, 8, none⟩) 8 8, .int .u64 ((be (fun k => X (k + 8)) : Nat) : Int)]) (by kernel_rfl) rfl (by kernel_rfl) (by kernel_rfl) (by kernel_rfl) (putR (put64_any (w.heap.size + 1) 8 8 8 (fun k => X (k + 8)) w3.drew (by omega) (fun k hk => hX (k + 8) (by omega)) (fun k hk => there_row (w := w3.drew) rB3 (by show 8 + k < 16; omega)))) ?_
  rintro v2 x rfl
  simp only [Act.put, List.setIfInBounds_toArray, List.set_cons_zero, List.set_cons_succ]
  rw [hw4]
  refine wpAny_done (by kernel_rfl) ?_ _
  refine wp_seq (wp_region_lit ?_)
  refine pl 13 rfl rfl (ex_load (x := .tmp 2) (t := 96) (by kernel_rfl) (by kernel_rfl) (ld96 rB4)) ?_
  simp only [Act.put, List.setIfInBounds_toArray, List.set_cons_zero, List.set_cons_succ]
  refine pls (x := .tmp 2) (y := .tmp 13) (t := 96) rfl rfl (by kernel_rfl) (by kernel_rfl) (by kernel_rfl) (st96 (X := X) rB4 rfl) ?_
  refine wpList_nil ?_
  exact wp_ret (bodyPost_ret_by (results_cell_row (p := 2) (ty := 96) rfl _ _ (w.heap.size + 1) 96 _ (0, 0) _ rfl (row_stored rB4 rfl) Ybaf.underlying96 rfl (by kernel_rfl)) rfl ⟨rfl, below_setRow b4 (by omega) _⟩)
end Go.Proofs.YbulkblsgFmt

import Derived.Test.YbulkblsgFmtReg
import Derived.Lib.EndianBits
namespace Go.Proofs.YbulkblsgFmt
open Go.RowKit Go.Extern.Stop Go.Stop Go.Extern
set_option linter.unusedVariables false
set_option maxHeartbeats 800000 in
theorem errCut_any (F : Interp) (s : ByteArray) (w : World) (hF : F.answers w.tape) :
    Calls Ybaf.prog 27 #[.string s] w fun e w' => ∃ b, e = .returned (.iface 108 (.pointer (some ⟨b, 0, none⟩))) ∧ w.heap.size ≤ b ∧ Below w.heap.size w w' := by
  have hF' := answers_open hF
  go_enter Ybaf.func27, Ybaf.ntmps27
  go_wp2
  apply rows_value Ybaf.nextTurns
  case hr =>
    go_simp
    exact ⟨rfl, rfl⟩
  case h =>
    go_wp2
    go_ret
    exact ⟨_, rfl, by omega, (al (al (Below.refl _ _) _) _).drew⟩
theorem errNew_any (s : ByteArray) (w : World) :
    Calls Ybaf.prog 28 #[.string s] w fun e w' => e = .returned (.iface 108 (.pointer (some ⟨w.heap.size, 0, none⟩))) ∧ w' = w.alloc (.cells #[.string s] 110) := by
  go_enter Ybaf.func28, Ybaf.ntmps28
  go_wp2
  go_ret
  exact ⟨rfl, rfl⟩
theorem u16_any (b off n c : Nat) (x0 x1 : Nat) (w : World) (hn : 2 ≤ n) (h0 : w.cell? ⟨b, off, none⟩ = some (.int .u8 x0)) (h1 : w.cell? ⟨b, off + 1, none⟩ = some (.int .u8 x1)) (g0 : x0 ≤ 255) (g1 : x1 ≤ 255) :
    Calls Ybaf.prog 30 #[.agg #[], .slice (some ⟨b, off, none⟩) n c] w fun e w' => e = .returned (.int .u16 ((x0 * 256 + x1 : Nat) : Int)) ∧ Below w.heap.size w w' := by
  have hn1 : (1 : Int) < (n : Int) := by omega
  have hn0 : (0 : Int) < (n : Int) := by omega
  have l0 : b < w.heap.size := World.block_lt_of_cell? w _ h0
  have e : bits .or .u16 (x1 : Int) ((x0 : Int) * 256) = ((x0 * 256 + x1 : Nat) : Int) := by rw [u16_or8 _ _ (by omega) (by omega) (by omega) (by omega) (by omega)]; omega
  go_enter Ybaf.func30, Ybaf.ntmps30
  go_wp2_with fail
  go_region
  all_goals
    go_wp2_with fail
    go_ret
    refine ⟨?_, (al (Below.refl _ _) _).drew⟩
    show Ending.returned (Value.int .u16 ((x0 : Int) * 256 + (x1 : Int))) = _
    congr 2
def be (X : Nat → Nat) : Nat := ((((((X 0 * 256 + X 1) * 256 + X 2) * 256 + X 3) * 256 + X 4) * 256 + X 5) * 256 + X 6) * 256 + X 7
set_option maxRecDepth 100000 in
set_option maxHeartbeats 2000000 in
theorem be64_any (b off n c : Nat) (X : Nat → Nat) (w : World) (hn : 8 ≤ n) (h : ∀ k, k < 8 → w.cell? ⟨b, off + k, none⟩ = some (.int .u8 (X k)) ∧ X k ≤ 255) :
    Calls Ybaf.prog 53 #[.slice (some ⟨b, off, none⟩) n c] w fun e w' => e = .returned (.int .u64 (be X)) ∧ ∃ m, w' = w.drewN m := by
  have n7 : (7 : Int) < (n : Int) := by omega
  have n6 : (6 : Int) < (n : Int) := by omega
  have n5 : (5 : Int) < (n : Int) := by omega
  have n4 : (4 : Int) < (n : Int) := by omega
  have n3 : (3 : Int) < (n : Int) := by omega
  have n2 : (2 : Int) < (n : Int) := by omega
  have n1 : (1 : Int) < (n : Int) := by omega
  have n0 : (0 : Int) < (n : Int) := by omega
  obtain ⟨h0, g0⟩ := h 0 (by omega)
  rw [Nat.add_zero] at h0
  obtain ⟨h1, g1⟩ := h 1 (by omega)
  obtain ⟨h2, g2⟩ := h 2 (by omega)
  obtain ⟨h3, g3⟩ := h 3 (by omega)
  obtain ⟨h4, g4⟩ := h 4 (by omega)
  obtain ⟨h5, g5⟩ := h 5 (by omega)
  obtain ⟨h6, g6⟩ := h 6 (by omega)
  obtain ⟨h7, g7⟩ := h 7 (by omega)
  clear h
  unfold be
  generalize X 0 = a0 at *
  generalize X 1 = a1 at *
  generalize X 2 = a2 at *
  generalize X 3 = a3 at *
  generalize X 4 = a4 at *
  generalize X 5 = a5 at *
  generalize X 6 = a6 at *
  generalize X 7 = a7 at *
  go_enter Ybaf.func53, Ybaf.ntmps53
  go_wp2_with fail
  go_quiet (fail)
  go_wp2_with fail
  go_ret
  refine ⟨?_, nq, rfl⟩
  show Ending.returned (Value.int .u64 (bits BinOp.or IntKind.u64 (bits BinOp.or IntKind.u64 (bits BinOp.or IntKind.u64 (bits BinOp.or IntKind.u64 (bits BinOp.or IntKind.u64 (bits BinOp.or IntKind.u64 (bits BinOp.or IntKind.u64 (a7 : Int) ((a6 : Int) * 256)) ((a5 : Int) * 65536)) ((a4 : Int) * 16777216)) ((a3 : Int) * 4294967296)) ((a2 : Int) * 1099511627776)) ((a1 : Int) * 281474976710656)) ((a0 : Int) * 72057594037927936))) = _
  rw [u64_or8 ((a7 : Int)) ((a6 : Int) * 256) (by omega) (by omega) (by omega) (by omega) (by omega), u64_or16 ((a7 : Int) + (a6 : Int) * 256) ((a5 : Int) * 65536) (by omega) (by omega) (by omega) (by omega) (by omega), u64_or24 ((a7 : Int) + (a6 : Int) * 256 + (a5 : Int) * 65536) ((a4 : Int) * 16777216) (by omega) (by omega) (by omega) (by omega) (by omega), u64_or32 ((a7 : Int) + (a6 : Int) * 256 + (a5 : Int) * 65536 + (a4 : Int) * 16777216) ((a3 : Int) * 4294967296) (by omega) (by omega) (by omega) (by omega) (by omega), u64_or40 ((a7 : Int) + (a6 : Int) * 256 + (a5 : Int) * 65536 + (a4 : Int) * 16777216 + (a3 : Int) * 4294967296) ((a2 : Int) * 1099511627776) (by omega) (by omega) (by omega) (by omega) (by omega), u64_or48 ((a7 : Int) + (a6 : Int) * 256 + (a5 : Int) * 65536 + (a4 : Int) * 16777216 + (a3 : Int) * 4294967296 + (a2 : Int) * 1099511627776) ((a1 : Int) * 281474976710656) (by omega) (by omega) (by omega) (by omega) (by omega), u64_or56 ((a7 : Int) + (a6 : Int) * 256 + (a5 : Int) * 65536 + (a4 : Int) * 16777216 + (a3 : Int) * 4294967296 + (a2 : Int) * 1099511627776 + (a1 : Int) * 281474976710656) ((a0 : Int) * 72057594037927936) (by omega) (by omega) (by omega) (by omega) (by omega)]
  congr 2
  omega

/-- Sixteen bytes. -/
def row16 (X : Nat → Nat) : Array Value := #[.int .u8 ((X 0 : Nat) : Int), .int .u8 ((X 1 : Nat) : Int), .int .u8 ((X 2 : Nat) : Int), .int .u8 ((X 3 : Nat) : Int), .int .u8 ((X 4 : Nat) : Int), .int .u8 ((X 5 : Nat) : Int), .int .u8 ((X 6 : Nat) : Int), .int .u8 ((X 7 : Nat) : Int), .int .u8 ((X 8 : Nat) : Int), .int .u8 ((X 9 : Nat) : Int), .int .u8 ((X 10 : Nat) : Int), .int .u8 ((X 11 : Nat) : Int), .int .u8 ((X 12 : Nat) : Int), .int .u8 ((X 13 : Nat) : Int), .int .u8 ((X 14 : Nat) : Int), .int .u8 ((X 15 : Nat) : Int)]
theorem row16_at (X : Nat → Nat) : ∀ k, k < 16 → (row16 X)[k]? = some (.int .u8 ((X k : Nat) : Int))
  | 0, _ => rfl
  | 1, _ => rfl
  | 2, _ => rfl
  | 3, _ => rfl
  | 4, _ => rfl
  | 5, _ => rfl
  | 6, _ => rfl
  | 7, _ => rfl
  | 8, _ => rfl
  | 9, _ => rfl
  | 10, _ => rfl
  | 11, _ => rfl
  | 12, _ => rfl
  | 13, _ => rfl
  | 14, _ => rfl
  | 15, _ => rfl
  | k + 16, h => absurd h (by omega)
/-- An address: the two halves and the zone's handle. -/
def adr (X : Nat → Nat) (z : Value) : Array Value := #[.int .u64 ((be X : Nat) : Int), .int .u64 ((be (fun k => X (k + 8)) : Nat) : Int), z]
theorem bx96 (X : Nat → Nat) (w : World) : (Instr.box 96 (.agg (row16 X))).run Ybaf.prog w = .ok (.pointer (some ⟨w.heap.size, 0, none⟩)) (w.alloc (.cells (row16 X) 96)) := by kernel_rfl
theorem cell16 {w : World} {N : Nat} {X : Nat → Nat} (h : w.heap[N]? = some (.cells (row16 X) 96 (0, 0))) {k : Nat} (hk : k < 16) : w.cell? ⟨N, k, none⟩ = some (.int .u8 ((X k : Nat) : Int)) := by
  rw [cell_of_row w N k _ 96 (0, 0) h]; exact row16_at X k hk
theorem beR {n : Nat} {args : Array Value} {f : FuncId} {w : World} (h : Calls Ybaf.prog f args w fun e w' => e = .returned (.int .u64 n) ∧ ∃ m, w' = w.drewN m) : Calls Ybaf.prog f args w fun e w' => ∃ v, e = .returned v ∧ (v = .int .u64 n ∧ ∃ m, w' = w.drewN m) :=
  h.mono fun _ _ ⟨h1, h2⟩ => ⟨_, h1, rfl, h2⟩
theorem bl60 (a b : Int) (w : World) : (Instr.build 60 #[(0, .int .u64 a), (1, .int .u64 b)]).run Ybaf.prog w = .ok (.agg #[.int .u64 a, .int .u64 b]) w := by kernel_rfl
theorem bl65 (a b : Int) (p : Option Addr) (w : World) : (Instr.build 65 #[(0, .agg #[.int .u64 a, .int .u64 b]), (1, .agg #[.pointer p])]).run Ybaf.prog w = .ok (.agg #[.int .u64 a, .int .u64 b, .pointer p]) w := by kernel_rfl
theorem ld63 {p : Option Addr} {b o : Nat} {w : World} (h : w.cell? ⟨b, o, none⟩ = some (.pointer p)) : (Instr.loadAt 63 (.pointer (some ⟨b, o, none⟩))).run Ybaf.prog w = .ok (.agg #[.pointer p]) w := by go_simp
theorem row_stored {w : World} {b : Nat} {cs ds : Array Value} {t : TypeId} (h : w.heap[b]? = some (.cells cs t (0, 0))) (hz : cs.size = ds.size) : (w.setRow b ds).heap[b]? = some (.cells ds t (0, 0)) := by
  simp [World.setRow, Array.getElem?_modify, h]
theorem below_setRow {B : Nat} {w x : World} (h : Below B w x) {b : Nat} (hb : B ≤ b) (cs : Array Value) : Below B w (x.setRow b cs) :=
  ⟨h.os, h.tape, h.output, by simp only [World.setRow, Array.size_modify]; exact h.size, fun k hk => by
    rw [← h.block k hk]
    simp only [World.setRow, Array.getElem?_modify]
    rw [if_neg (by omega)]⟩
theorem st65 {w : World} {b : Nat} {a0 a1 z0 : Value} {a c : Int} {p : Option Addr} (h : w.heap[b]? = some (.cells #[a0, a1, z0] 65 (0, 0))) : (Instr.storeAt 65 (.pointer (some ⟨b, 0, none⟩)) (.agg #[.int .u64 a, .int .u64 c, .pointer p])).run Ybaf.prog w = .ok () (w.setRow b #[.int .u64 a, .int .u64 c, .pointer p]) := by
  simp only [Instr.storeAt, Instr.sureAddr, Sem.run_bind, Sem.run_pure, Result.andThen]
  exact run_storeVar_row w b 65 65 _ _ h (by kernel_rfl) rfl (by kernel_rfl)
theorem ex_build2 {P : Program} {o : Oper} {a : Act} {t : TypeId} {x y : Operand} {u0 u1 v : Value} {w w' : World} (ho : o.op = .build t #[(0, x), (1, y)]) (hx : a.eval x = u0) (hy : a.eval y = u1) (hrun : (Instr.build t #[(0, u0), (1, u1)]).run P w = .ok v w') : (execOp a.eval o).run P w = .ok (.value v) w' := by
  simp [execOp, ho, hx, hy, hrun]
theorem al65 (w : World) : (Instr.alloc 65 true (.tuple #[])).run Ybaf.prog w = .ok (.pointer (some ⟨w.heap.size, 0, none⟩)) (w.alloc (.cells #[.int .u64 0, .int .u64 0, .pointer none] 65)) := by kernel_rfl
set_option maxRecDepth 100000 in
set_option maxHeartbeats 2000000 in
theorem from16_any (X : Nat → Nat) (zp : Option Addr) (w : World) (hX : ∀ k, k < 16 → X k ≤ 255) (hg : w.cell? ⟨3, 0, none⟩ = some (.pointer zp)) :
    Calls Ybaf.prog 41 #[.agg (row16 X)] w fun e w' => e = .returned (.agg (adr X (.pointer zp))) ∧ Below w.heap.size w w' := by
  have lg : 3 < w.heap.size := World.block_lt_of_cell? w _ hg
  have hN : ((w.alloc (.cells (row16 X) 96)).alloc (.cells #[.int .u64 0, .int .u64 0, .pointer none] 65)).heap[w.heap.size]? = some (.cells (row16 X) 96 (0, 0)) := (Below.heap_alloc _ _ _ (by simp)).trans (heap_alloc_new _ _)
  have hc : ∀ k, k < 16 → ((w.alloc (.cells (row16 X) 96)).alloc (.cells #[.int .u64 0, .int .u64 0, .pointer none] 65)).cell? ⟨w.heap.size, k, none⟩ = some (.int .u8 ((X k : Nat) : Int)) := fun k hk => cell16 hN hk
  have hg2 : ((w.alloc (.cells (row16 X) 96)).alloc (.cells #[.int .u64 0, .int .u64 0, .pointer none] 65)).cell? ⟨3, 0, none⟩ = some (.pointer zp) := cell_later (x := w) (al (al (Below.refl _ _) _) _) hg
  have hr : ((w.alloc (.cells (row16 X) 96)).alloc (.cells #[.int .u64 0, .int .u64 0, .pointer none] 65)).heap[w.heap.size + 1]? = some (.cells #[.int .u64 0, .int .u64 0, .pointer none] 65 (0, 0)) := by
    have q := heap_alloc_new (w.alloc (.cells (row16 X) 96)) (.cells #[.int .u64 0, .int .u64 0, .pointer none] 65)
    simpa using q
  have hb : Below w.heap.size w ((w.alloc (.cells (row16 X) 96)).alloc (.cells #[.int .u64 0, .int .u64 0, .pointer none] 65)) := al (al (Below.refl _ _) _) _
  have hs : ((w.alloc (.cells (row16 X) 96)).alloc (.cells #[.int .u64 0, .int .u64 0, .pointer none] 65)).heap.size = w.heap.size + 2 := by simp
  go_enter Ybaf.func41, Ybaf.ntmps41
  refine wp_seq (wp_region_lit ?_)
  refine pl 1 rfl rfl (ex_box (x := .tmp 0) (t := 96) (by kernel_rfl) (by kernel_rfl) (bx96 X _)) ?_
  refine pl 2 rfl rfl (ex_alloc (t := 65) (by kernel_rfl) (al65 _)) ?_
  refine wpList_nil ?_
  simp only [Act.put, List.setIfInBounds_toArray, List.set_cons_zero, List.set_cons_succ, Exit.then, World.size_alloc]
  obtain ⟨wA, hwA⟩ : ∃ x, ((w.alloc (.cells (row16 X) 96)).alloc (.cells #[.int .u64 0, .int .u64 0, .pointer none] 65)) = x := ⟨_, rfl⟩
  rw [hwA] at hN hc hg2 hr hb hs ⊢
  clear hwA
  have fin : ∀ x : World, x.heap[w.heap.size + 1]? = some (.cells #[.int .u64 0, .int .u64 0, .pointer none] 65 (0, 0)) → Below w.heap.size w x → ∀ {t0 t1 t3 t4 t5 t6 t7 t8 t9 : Value}, Code.wp Ybaf.prog Code.ret (bodyPost Ybaf.prog Ybaf.f41 fun e w' => e = Ending.returned (Value.agg (adr X (Value.pointer zp))) ∧ Below w.heap.size w w') { tmps := #[t0, t1, .pointer (some ⟨w.heap.size + 1, 0, none⟩), t3, t4, t5, t6, t7, t8, t9], defers := [] } (x.setRow (w.heap.size + 1) (adr X (.pointer zp))) := by
    intro x hx hbx t0 t1 t3 t4 t5 t6 t7 t8 t9
    have hrow := row_stored (ds := adr X (.pointer zp)) hx rfl
    have hbb : Below w.heap.size w (x.setRow (w.heap.size + 1) (adr X (.pointer zp))) := below_setRow hbx (by omega) _
    generalize x.setRow (w.heap.size + 1) (adr X (.pointer zp)) = y at *
    exact wp_ret (bodyPost_ret_by (results_cell_row (p := 2) (ty := 65) rfl _ y (w.heap.size + 1) 65 _ (0, 0) _ rfl hrow Ybaf.underlying65 rfl (by kernel_rfl)) rfl ⟨rfl, hbb⟩)
  refine wp_seq ?_
  refine wp_region_any (by kernel_rfl) ?_
  change wpAny _ _ _ _ _ _ _ (World.drew _)
  refine anyT 3 (i := 0) (v := .slice (some ⟨w.heap.size, 0, none⟩) 8 16) rfl (by kernel_rfl) (by kernel_rfl) (by kernel_rfl) (fun _ _ _ h => h) (by kernel_rfl) (by kernel_rfl) (fun w => by kernel_rfl) ?_
  simp only [Act.put, List.setIfInBounds_toArray, List.set_cons_zero, List.set_cons_succ]
  refine anyT 5 (i := 2) (v := .slice (some ⟨w.heap.size, 8, none⟩) 8 8) rfl (by kernel_rfl) (by kernel_rfl) (by kernel_rfl) (fun _ _ _ h => h) (by kernel_rfl) (by kernel_rfl) (fun w => by kernel_rfl) ?_
  simp only [Act.put, List.setIfInBounds_toArray, List.set_cons_zero, List.set_cons_succ]
  refine any2c 4 8 (i := 1) (j := 5) (f := 53) (args := #[.slice (some ⟨w.heap.size, 0, none⟩) 8 16]) (by kernel_rfl) rfl rfl (by kernel_rfl) (by kernel_rfl) (by kernel_rfl) (by kernel_rfl) (by kernel_rfl) (beR (be64_any w.heap.size 0 8 16 X _ (by omega) (fun k hk => ⟨by rw [Nat.zero_add]; exact hc k (by omega), hX k (by omega)⟩))) (ex_load (x := .global 3) (t := 63) (by kernel_rfl) (by kernel_rfl) (ld63 hg2)) ?_ ?_
  · rintro v w' ⟨rfl, m1, rfl⟩
    simp only [Act.put, List.setIfInBounds_toArray, List.set_cons_zero, List.set_cons_succ]
    refine any2c 6 8 (i := 3) (j := 5) (f := 53) (args := #[.slice (some ⟨w.heap.size, 8, none⟩) 8 8]) (by kernel_rfl) rfl rfl (by kernel_rfl) (by kernel_rfl) (by kernel_rfl) (by kernel_rfl) (by kernel_rfl) (beR (be64_any w.heap.size 8 8 8 (fun k => X (k + 8)) _ (by omega) (fun k hk => ⟨by rw [Nat.add_comm]; exact hc (k + 8) (by omega), hX (k + 8) (by omega)⟩))) (ex_load (x := .global 3) (t := 63) (by kernel_rfl) (by kernel_rfl) (ld63 hg2)) ?_ ?_
    · rintro v w' ⟨rfl, m2, rfl⟩
      simp only [Act.put, List.setIfInBounds_toArray, List.set_cons_zero, List.set_cons_succ]
      refine anyT 7 (i := 4) (v := .agg #[.int .u64 ((be X : Nat) : Int), .int .u64 ((be (fun k => X (k + 8)) : Nat) : Int)]) rfl (by kernel_rfl) (by kernel_rfl) (by kernel_rfl) (fun _ _ _ h => h) (by kernel_rfl) (by kernel_rfl) (fun w => by kernel_rfl) ?_
      simp only [Act.put, List.setIfInBounds_toArray, List.set_cons_zero, List.set_cons_succ]
      refine any1 8 (i := 5) (by kernel_rfl) rfl (by kernel_rfl) (by kernel_rfl) (ex_load (x := .global 3) (t := 63) (by kernel_rfl) (by kernel_rfl) (ld63 (w := _) hg2)) ?_
      simp only [Act.put, List.setIfInBounds_toArray, List.set_cons_zero, List.set_cons_succ]
      refine any1 9 (i := 6) (by kernel_rfl) rfl (by kernel_rfl) (by kernel_rfl) (ex_build2 (x := .tmp 7) (y := .tmp 8) (t := 65) (by kernel_rfl) (by kernel_rfl) (by kernel_rfl) (bl65 ((be X : Nat) : Int) ((be (fun k => X (k + 8)) : Nat) : Int) zp _)) ?_
      simp only [Act.put, List.setIfInBounds_toArray, List.set_cons_zero, List.set_cons_succ]
      refine any1s (i := 7) (x := .tmp 2) (y := .tmp 9) (t := 65) (by kernel_rfl) rfl (by kernel_rfl) (by kernel_rfl) (by kernel_rfl) (by kernel_rfl) (by kernel_rfl) (st65 (a := ((be X : Nat) : Int)) (c := ((be (fun k => X (k + 8)) : Nat) : Int)) (p := zp) hr) ?_
      refine wpAny_done (by kernel_rfl) ?_ _
      exact fin _ (by exact hr) (by exact ⟨hb.os, hb.tape, hb.output, hb.size, hb.block⟩)
    · simp only [Act.put, List.setIfInBounds_toArray, List.set_cons_zero, List.set_cons_succ]
      refine any1c 6 (i := 3) (f := 53) (args := #[.slice (some ⟨w.heap.size, 8, none⟩) 8 8]) (by kernel_rfl) rfl (by kernel_rfl) (by kernel_rfl) (by kernel_rfl) (beR (be64_any w.heap.size 8 8 8 (fun k => X (k + 8)) _ (by omega) (fun k hk => ⟨by rw [Nat.add_comm]; exact hc (k + 8) (by omega), hX (k + 8) (by omega)⟩))) ?_
      rintro v w' ⟨rfl, m2, rfl⟩
      simp only [Act.put, List.setIfInBounds_toArray, List.set_cons_zero, List.set_cons_succ]
      refine any1 7 (i := 4) (by kernel_rfl) rfl (by kernel_rfl) (by kernel_rfl) (ex_build2 (x := .tmp 4) (y := .tmp 6) (t := 60) (by kernel_rfl) (by kernel_rfl) (by kernel_rfl) (bl60 ((be X : Nat) : Int) ((be (fun k => X (k + 8)) : Nat) : Int) _)) ?_
      simp only [Act.put, List.setIfInBounds_toArray, List.set_cons_zero, List.set_cons_succ]
      refine any1 9 (i := 6) (by kernel_rfl) rfl (by kernel_rfl) (by kernel_rfl) (ex_build2 (x := .tmp 7) (y := .tmp 8) (t := 65) (by kernel_rfl) (by kernel_rfl) (by kernel_rfl) (bl65 ((be X : Nat) : Int) ((be (fun k => X (k + 8)) : Nat) : Int) zp _)) ?_
      simp only [Act.put, List.setIfInBounds_toArray, List.set_cons_zero, List.set_cons_succ]
      refine any1s (i := 7) (x := .tmp 2) (y := .tmp 9) (t := 65) (by kernel_rfl) rfl (by kernel_rfl) (by kernel_rfl) (by kernel_rfl) (by kernel_rfl) (by kernel_rfl) (st65 (a := ((be X : Nat) : Int)) (c := ((be (fun k => X (k + 8)) : Nat) : Int)) (p := zp) hr) ?_
      refine wpAny_done (by kernel_rfl) ?_ _
      exact fin _ (by exact hr) (by exact ⟨hb.os, hb.tape, hb.output, hb.size, hb.block⟩)
  · simp only [Act.put, List.setIfInBounds_toArray, List.set_cons_zero, List.set_cons_succ]
    refine any1c 4 (i := 1) (f := 53) (args := #[.slice (some ⟨w.heap.size, 0, none⟩) 8 16]) (by kernel_rfl) rfl (by kernel_rfl) (by kernel_rfl) (by kernel_rfl) (beR (be64_any w.heap.size 0 8 16 X _ (by omega) (fun k hk => ⟨by rw [Nat.zero_add]; exact hc k (by omega), hX k (by omega)⟩))) ?_
    rintro v w' ⟨rfl, m1, rfl⟩
    simp only [Act.put, List.setIfInBounds_toArray, List.set_cons_zero, List.set_cons_succ]
    refine any1c 6 (i := 3) (f := 53) (args := #[.slice (some ⟨w.heap.size, 8, none⟩) 8 8]) (by kernel_rfl) rfl (by kernel_rfl) (by kernel_rfl) (by kernel_rfl) (beR (be64_any w.heap.size 8 8 8 (fun k => X (k + 8)) _ (by omega) (fun k hk => ⟨by rw [Nat.add_comm]; exact hc (k + 8) (by omega), hX (k + 8) (by omega)⟩))) ?_
    rintro v w' ⟨rfl, m2, rfl⟩
    simp only [Act.put, List.setIfInBounds_toArray, List.set_cons_zero, List.set_cons_succ]
    refine any1 7 (i := 4) (by kernel_rfl) rfl (by kernel_rfl) (by kernel_rfl) (ex_build2 (x := .tmp 4) (y := .tmp 6) (t := 60) (by kernel_rfl) (by kernel_rfl) (by kernel_rfl) (bl60 ((be X : Nat) : Int) ((be (fun k => X (k + 8)) : Nat) : Int) _)) ?_
    simp only [Act.put, List.setIfInBounds_toArray, List.set_cons_zero, List.set_cons_succ]
    refine any1 9 (i := 6) (by kernel_rfl) rfl (by kernel_rfl) (by kernel_rfl) (ex_build2 (x := .tmp 7) (y := .tmp 8) (t := 65) (by kernel_rfl) (by kernel_rfl) (by kernel_rfl) (bl65 ((be X : Nat) : Int) ((be (fun k => X (k + 8)) : Nat) : Int) zp _)) ?_
    simp only [Act.put, List.setIfInBounds_toArray, List.set_cons_zero, List.set_cons_succ]
    refine any1s (i := 7) (x := .tmp 2) (y := .tmp 9) (t := 65) (by kernel_rfl) rfl (by kernel_rfl) (by kernel_rfl) (by kernel_rfl) (by kernel_rfl) (by kernel_rfl) (st65 (a := ((be X : Nat) : Int)) (c := ((be (fun k => X (k + 8)) : Nat) : Int)) (p := zp) hr) ?_
    refine wpAny_done (by kernel_rfl) ?_ _
    exact fin _ (by exact hr) (by exact ⟨hb.os, hb.tape, hb.output, hb.size, hb.block⟩)

end Go.Proofs.YbulkblsgFmt

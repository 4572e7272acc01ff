import Derived.Test.YbulkblsgFmtTc
import Derived.Deep.OwnRows
import Derived.Deep.RegionHeld
namespace Go.Proofs.YbulkblsgFmt
open Go.RowKit
set_option linter.unusedVariables false
set_option linter.unusedSimpArgs false
section
variable {x y : Operand} {w : World}
theorem shlL {r : Nat} (h : r < 64) : (do eqGuard .shl 35 x y (.int .u64 1) (.int .i32 ((r : Nat) : Int)); binOp .shl 35 (.int .u64 1) (.int .i32 ((r : Nat) : Int)) : Sem Value).run Ybaf.prog w = .ok (.int .u64 (IntKind.u64.wrap (2 ^ r))) w := by go_simp
theorem orL {a b : Int} : (do eqGuard .or 35 x y (.int .u64 a) (.int .u64 b); binOp .or 35 (.int .u64 a) (.int .u64 b) : Sem Value).run Ybaf.prog w = .ok (.int .u64 (bits .or .u64 a b)) w := by go_simp
theorem quoL {l : Nat} (h : l < 704) : (do eqGuard .quo 21 x y (.int .i32 ((l : Nat) : Int)) (.int .i32 64); binOp .quo 21 (.int .i32 ((l : Nat) : Int)) (.int .i32 64) : Sem Value).run Ybaf.prog w = .ok (.int .i32 ((l / 64 : Nat) : Int)) w := by
  go_simp
  simp [IntKind.wrap, IntKind.bits, IntKind.signed]
  omega
theorem remL {l : Nat} (h : l < 704) : (do eqGuard .rem 21 x y (.int .i32 ((l : Nat) : Int)) (.int .i32 64); binOp .rem 21 (.int .i32 ((l : Nat) : Int)) (.int .i32 64) : Sem Value).run Ybaf.prog w = .ok (.int .i32 ((l % 64 : Nat) : Int)) w := by
  go_simp
  rw [Int.tmod_eq_emod_of_nonneg (by omega)]
end
/-- But for blocks D and C the world is as it was. -/
structure Oth2 (D C : Nat) (w w' : World) : Prop where
  os : w'.os = w.os
  tape : w'.tape = w.tape
  output : w'.output = w.output
  size : w'.heap.size = w.heap.size
  block : ∀ b, b ≠ D → b ≠ C → w'.heap[b]? = w.heap[b]?
theorem Oth2.refl (D C : Nat) (w : World) : Oth2 D C w w := ⟨rfl, rfl, rfl, rfl, fun _ _ _ => rfl⟩
theorem Oth2.drew {D C : Nat} {w w' : World} (h : Oth2 D C w w') : Oth2 D C w w'.drew := ⟨h.os, h.tape, h.output, h.size, h.block⟩
theorem Oth2.set {D C : Nat} {w w' : World} (h : Oth2 D C w w') (b o : Nat) (v : Value) (hb : b = D ∨ b = C) : Oth2 D C w (w'.setCell ⟨b, o, none⟩ v) := ⟨h.os, h.tape, h.output, by have := h.size; simp [World.setCell]; omega, fun k h1 h2 => by
  have e2 : (w'.setCell ⟨b, o, none⟩ v).heap[k]? = w'.heap[k]? := by
    have e : b ≠ k := by rcases hb with hb | hb <;> omega
    simp [World.setCell, Array.getElem?_modify, e]
  rw [e2]; exact h.block k h1 h2⟩
theorem Oth2.trans {D C : Nat} {w w' w'' : World} (h : Oth2 D C w w') (k : Oth2 D C w' w'') : Oth2 D C w w'' := ⟨k.os.trans h.os, k.tape.trans h.tape, k.output.trans h.output, k.size.trans h.size, fun b h1 h2 => (k.block b h1 h2).trans (h.block b h1 h2)⟩
def lnk (pv : Nat → Int) (c l : Nat) (h : Int) : Nat → Int := if h = -1 then set1 pv c (-1 - (l : Int)) else set1 (set1 pv c (-1 - (l : Int))) h.toNat (c : Int)
theorem markR {l : Nat} {w : World} (hl : l ≤ 704) : CallR 21 #[.int .i32 ((l : Nat) : Int)] w fun v w' => v = .int .i32 (-1 - (l : Int)) ∧ w' = w := (mark_any l hl w).mono fun _ _ ⟨h1, h2⟩ => ⟨_, h1, rfl, h2⟩
noncomputable def l7 : Code := Ybaf.f7.body.getD .skip
theorem l7_eq : l7 = (headC l7).seq ((headC (dropC 1 l7)).seq (((headC (headC (dropC 2 l7))).seq (Code.cond (.tmp 31) (thnC (tailC (headC (dropC 2 l7)))) .skip)).seq ((headC (dropC 3 l7)).seq ((headC (dropC 4 l7)).seq (Code.cond (.tmp 50) (thnC (tailC (dropC 4 l7))) .skip))))) := by kernel_rfl
set_option maxRecDepth 100000 in
set_option maxHeartbeats 400000 in
theorem k0 (D C n c l : Nat) (wa : World) (hc : c < n) (hs : wa.cell? ⟨D, 3, none⟩ = some (.slice (some ⟨C, 0, none⟩) n n)) (f : Nat → Value) (h0 : f 0 = .pointer (some ⟨D, 0, none⟩)) (h1 : f 1 = .int .i32 ((c : Nat) : Int)) (K : Act → World → Prop)
    (hK : ∀ (f' : Nat → Value), Same f f' [6, 12, 11, 10, 9, 8, 7] → f' 6 = .pointer (some ⟨C, c * 3, none⟩) → K (Fm 65 f') (wa)) :
    Code.wp Ybaf.prog (headC l7) (only K) (Fm 65 f) wa := by
  refine regN (by kernel_rfl) ?_
  refine s_ex 0 7 (.move (.tmp 0)) (v := .pointer (some ⟨D, 0, none⟩)) (by kernel_rfl) (ex_mv (evN rfl h0)) ?_
  refine s_ex 1 8 (.nilCheck (.tmp 7)) (v := .pointer (some ⟨D, 0, none⟩)) (by kernel_rfl) (ex_nc (evN rfl rfl)) ?_
  refine s_ex 2 9 (.fieldAddr 42 (.tmp 8) 3) (v := .pointer (some ⟨D, 3, none⟩)) (by kernel_rfl) (ex_fa (u := .pointer (some ⟨D, 0, none⟩)) (evN rfl rfl) (fa42_3)) ?_
  refine s_ex 3 10 (.load 36 (.tmp 9)) (v := .slice (some ⟨C, 0, none⟩) n n) (by kernel_rfl) (ex_ld (u := .pointer (some ⟨D, 3, none⟩)) (evN rfl rfl) (ld36 hs)) ?_
  refine s_ex 4 11 (.move (.tmp 1)) (v := .int .i32 ((c : Nat) : Int)) (by kernel_rfl) (ex_mv (evN rfl h1)) ?_
  refine s_ex 5 12 (.indexAddr 36 (.tmp 10) (.tmp 11)) (v := .pointer (some ⟨C, c * 3, none⟩)) (by kernel_rfl) (ex_ix (u := .slice (some ⟨C, 0, none⟩) n n) (i := .int .i32 ((c : Nat) : Int)) (evN rfl rfl) (evN rfl rfl) (ix36_i32 hc)) ?_
  refine s_ex 6 6 (.assign (.tmp 12)) (v := .pointer (some ⟨C, c * 3, none⟩)) (by kernel_rfl) (ex_as (evN rfl rfl)) ?_
  exact s_end (by kernel_rfl) (hK _  (((((((Same.refl.put 7 _).put 8 _).put 9 _).put 10 _).put 11 _).put 12 _).put 6 _) rfl)
set_option maxRecDepth 100000 in
set_option maxHeartbeats 400000 in
theorem k1 (D C n c l : Nat) (wa : World) (h : Int) (u u2 : Value) (hl : l ≤ 704) (hh : wa.cell? ⟨D, 4 + l, none⟩ = some (.int .i32 h)) (hp : wa.cell? ⟨C, c * 3 + 2, none⟩ = some u) (hfp : wa.frozen? ⟨C, c * 3 + 2, none⟩ = false) (hn : (wa.drew.setCell ⟨C, c * 3 + 2, none⟩ (.int .i32 (-1 - (l : Int)))).cell? ⟨C, c * 3 + 1, none⟩ = some u2) (hfn : (wa.drew.setCell ⟨C, c * 3 + 2, none⟩ (.int .i32 (-1 - (l : Int)))).frozen? ⟨C, c * 3 + 1, none⟩ = false) (f : Nat → Value) (h0 : f 0 = .pointer (some ⟨D, 0, none⟩)) (h2 : f 2 = .int .i32 ((l : Nat) : Int)) (h6 : f 6 = .pointer (some ⟨C, c * 3, none⟩)) (K : Act → World → Prop)
    (hK : ∀ (f' : Nat → Value), Same f f' [26, 25, 24, 23, 22, 16, 21, 20, 19, 18, 17, 15, 14, 13] → K (Fm 65 f') ((wa.drew.setCell ⟨C, c * 3 + 2, none⟩ (.int .i32 (-1 - (l : Int)))).setCell ⟨C, c * 3 + 1, none⟩ (.int .i32 h))) :
    Code.wp Ybaf.prog (headC (dropC 1 l7)) (only K) (Fm 65 f) wa := by
  refine anyN 16 (by kernel_rfl) (by kernel_rfl) ?_
  refine a_take 0 13 (.move (.tmp 6)) (v := .pointer (some ⟨C, c * 3, none⟩)) (by kernel_rfl) (by kernel_rfl) (by kernel_rfl) (by kernel_rfl) (fun _ _ _ h => h) (fun _ => (ex_mv (evN rfl h6))) ?_
  refine a_take 1 14 (.move (.tmp 6)) (v := .pointer (some ⟨C, c * 3, none⟩)) (by kernel_rfl) (by kernel_rfl) (by kernel_rfl) (by kernel_rfl) (fun _ _ _ h => h) (fun _ => (ex_mv (evN rfl h6))) ?_
  refine a_take 2 15 (.move (.tmp 2)) (v := .int .i32 ((l : Nat) : Int)) (by kernel_rfl) (by kernel_rfl) (by kernel_rfl) (by kernel_rfl) (fun _ _ _ h => h) (fun _ => (ex_mv (evN rfl h2))) ?_
  refine a_take 4 17 (.move (.tmp 0)) (v := .pointer (some ⟨D, 0, none⟩)) (by kernel_rfl) (by kernel_rfl) (by kernel_rfl) (by kernel_rfl) (fun _ _ _ h => h) (fun _ => (ex_mv (evN rfl h0))) ?_
  refine a_take 5 18 (.move (.tmp 2)) (v := .int .i32 ((l : Nat) : Int)) (by kernel_rfl) (by kernel_rfl) (by kernel_rfl) (by kernel_rfl) (fun _ _ _ h => h) (fun _ => (ex_mv (evN rfl h2))) ?_
  refine a_take 6 19 (.nilCheck (.tmp 17)) (v := .pointer (some ⟨D, 0, none⟩)) (by kernel_rfl) (by kernel_rfl) (by kernel_rfl) (by kernel_rfl) (fun _ _ _ h => h) (fun _ => (ex_nc (evN rfl rfl))) ?_
  refine a_take 7 20 (.fieldAddr 42 (.tmp 19) 4) (v := .pointer (some ⟨D, 4, none⟩)) (by kernel_rfl) (by kernel_rfl) (by kernel_rfl) (by kernel_rfl) (fun _ _ _ h => h) (fun _ => (ex_fa (u := .pointer (some ⟨D, 0, none⟩)) (evN rfl rfl) (fa42_4))) ?_
  refine a_take 8 21 (.indexAddr 37 (.tmp 20) (.tmp 18)) (v := .pointer (some ⟨D, 4 + l, none⟩)) (by kernel_rfl) (by kernel_rfl) (by kernel_rfl) (by kernel_rfl) (fun _ _ _ h => h) (fun _ => (ex_ix (u := .pointer (some ⟨D, 4, none⟩)) (i := .int .i32 ((l : Nat) : Int)) (evN rfl rfl) (evN rfl rfl) (ix37_i32 (by omega)))) ?_
  refine a_2c 3 16 9 22 (.call { callee := .value (.func 21), args := #[(.tmp 15)], argTypes := #[21] }) (.load 21 (.tmp 21)) (fn := 21) (args := #[.int .i32 ((l : Nat) : Int)]) (u := .int .i32 h) (by kernel_rfl) (by kernel_rfl) (by kernel_rfl) (ex_fn1 (cf21 _) (evN rfl rfl)) (markR hl) (ex_ld (u := .pointer (some ⟨D, 4 + l, none⟩)) (evN rfl rfl) (ld21 (w := wa.drew) hh)) ?_ ?_
  · rintro _ _ ⟨rfl, rfl⟩
    refine a_1 9 22 (.load 21 (.tmp 21)) (v := .int .i32 h) (by kernel_rfl) (by kernel_rfl) (ex_ld (u := .pointer (some ⟨D, 4 + l, none⟩)) (evN rfl rfl) (ld21 (w := wa.drew) hh)) ?_
    refine a_take 10 23 (.nilCheck (.tmp 13)) (v := .pointer (some ⟨C, c * 3, none⟩)) (by kernel_rfl) (by kernel_rfl) (by kernel_rfl) (by kernel_rfl) (fun _ _ _ h => h) (fun _ => (ex_nc (evN rfl rfl))) ?_
    refine a_take 11 24 (.fieldAddr 44 (.tmp 23) 2) (v := .pointer (some ⟨C, c * 3 + 2, none⟩)) (by kernel_rfl) (by kernel_rfl) (by kernel_rfl) (by kernel_rfl) (fun _ _ _ h => h) (fun _ => (ex_fa (u := .pointer (some ⟨C, c * 3, none⟩)) (evN rfl rfl) (fa44_2))) ?_
    refine a_st 12 21 (.tmp 24) (.tmp 16) (p := .pointer (some ⟨C, c * 3 + 2, none⟩)) (q := .int .i32 (-1 - (l : Int))) (by kernel_rfl) (by kernel_rfl) (evN rfl rfl) (evN rfl rfl) (st21 (w := wa.drew) hp hfp) ?_
    refine a_take 13 25 (.nilCheck (.tmp 14)) (v := .pointer (some ⟨C, c * 3, none⟩)) (by kernel_rfl) (by kernel_rfl) (by kernel_rfl) (by kernel_rfl) (fun _ _ _ h => h) (fun _ => (ex_nc (evN rfl rfl))) ?_
    refine a_take 14 26 (.fieldAddr 44 (.tmp 25) 1) (v := .pointer (some ⟨C, c * 3 + 1, none⟩)) (by kernel_rfl) (by kernel_rfl) (by kernel_rfl) (by kernel_rfl) (fun _ _ _ h => h) (fun _ => (ex_fa (u := .pointer (some ⟨C, c * 3, none⟩)) (evN rfl rfl) (fa44_1))) ?_
    refine a_st 15 21 (.tmp 26) (.tmp 22) (p := .pointer (some ⟨C, c * 3 + 1, none⟩)) (q := .int .i32 h) (by kernel_rfl) (by kernel_rfl) (evN rfl rfl) (evN rfl rfl) (st21 (w := (wa.drew.setCell ⟨C, c * 3 + 2, none⟩ (.int .i32 (-1 - (l : Int))))) hn hfn) ?_
    exact a_end (by kernel_rfl) (hK _  ((((((((((((((((Same.refl.put 13 _).put 14 _).put 15 _).put 17 _).put 18 _).put 19 _).put 20 _).put 21 _).put 16 _).put 22 _).put 23 _).put 24 _).put 25 _).put 26 _)).wide rfl))
  · refine a_1c 3 16 (.call { callee := .value (.func 21), args := #[(.tmp 15)], argTypes := #[21] }) (fn := 21) (args := #[.int .i32 ((l : Nat) : Int)]) (by kernel_rfl) (by kernel_rfl) (ex_fn1 (cf21 _) (evN rfl rfl)) (markR hl) ?_
    rintro _ _ ⟨rfl, rfl⟩
    refine a_take 10 23 (.nilCheck (.tmp 13)) (v := .pointer (some ⟨C, c * 3, none⟩)) (by kernel_rfl) (by kernel_rfl) (by kernel_rfl) (by kernel_rfl) (fun _ _ _ h => h) (fun _ => (ex_nc (evN rfl rfl))) ?_
    refine a_take 11 24 (.fieldAddr 44 (.tmp 23) 2) (v := .pointer (some ⟨C, c * 3 + 2, none⟩)) (by kernel_rfl) (by kernel_rfl) (by kernel_rfl) (by kernel_rfl) (fun _ _ _ h => h) (fun _ => (ex_fa (u := .pointer (some ⟨C, c * 3, none⟩)) (evN rfl rfl) (fa44_2))) ?_
    refine a_st 12 21 (.tmp 24) (.tmp 16) (p := .pointer (some ⟨C, c * 3 + 2, none⟩)) (q := .int .i32 (-1 - (l : Int))) (by kernel_rfl) (by kernel_rfl) (evN rfl rfl) (evN rfl rfl) (st21 (w := wa.drew) hp hfp) ?_
    refine a_take 13 25 (.nilCheck (.tmp 14)) (v := .pointer (some ⟨C, c * 3, none⟩)) (by kernel_rfl) (by kernel_rfl) (by kernel_rfl) (by kernel_rfl) (fun _ _ _ h => h) (fun _ => (ex_nc (evN rfl rfl))) ?_
    refine a_take 14 26 (.fieldAddr 44 (.tmp 25) 1) (v := .pointer (some ⟨C, c * 3 + 1, none⟩)) (by kernel_rfl) (by kernel_rfl) (by kernel_rfl) (by kernel_rfl) (fun _ _ _ h => h) (fun _ => (ex_fa (u := .pointer (some ⟨C, c * 3, none⟩)) (evN rfl rfl) (fa44_1))) ?_
    refine a_st 15 21 (.tmp 26) (.tmp 22) (p := .pointer (some ⟨C, c * 3 + 1, none⟩)) (q := .int .i32 h) (by kernel_rfl) (by kernel_rfl) (evN rfl rfl) (evN rfl rfl) (st21 (w := (wa.drew.setCell ⟨C, c * 3 + 2, none⟩ (.int .i32 (-1 - (l : Int))))) hn hfn) ?_
    exact a_end (by kernel_rfl) (hK _  ((((((((((((((((Same.refl.put 13 _).put 14 _).put 15 _).put 17 _).put 18 _).put 19 _).put 20 _).put 21 _).put 22 _).put 16 _).put 23 _).put 24 _).put 25 _).put 26 _)).wide rfl))
set_option maxRecDepth 100000 in
set_option maxHeartbeats 400000 in
theorem k2 (C c : Nat) (h : Int) (wa : World) (hx : wa.cell? ⟨C, c * 3 + 1, none⟩ = some (.int .i32 h)) (f : Nat → Value) (h6 : f 6 = .pointer (some ⟨C, c * 3, none⟩)) (K : Act → World → Prop)
    (hK : ∀ (f' : Nat → Value), Same f f' [31, 30, 29, 28, 27] → f' 31 = .bool (!(h == (-1))) → K (Fm 65 f') (wa)) :
    Code.wp Ybaf.prog (headC (headC (dropC 2 l7))) (only K) (Fm 65 f) wa := by
  refine regN (by kernel_rfl) ?_
  refine s_ex 0 27 (.move (.tmp 6)) (v := .pointer (some ⟨C, c * 3, none⟩)) (by kernel_rfl) (ex_mv (evN rfl h6)) ?_
  refine s_ex 1 28 (.nilCheck (.tmp 27)) (v := .pointer (some ⟨C, c * 3, none⟩)) (by kernel_rfl) (ex_nc (evN rfl rfl)) ?_
  refine s_ex 2 29 (.fieldAddr 44 (.tmp 28) 1) (v := .pointer (some ⟨C, c * 3 + 1, none⟩)) (by kernel_rfl) (ex_fa (u := .pointer (some ⟨C, c * 3, none⟩)) (evN rfl rfl) (fa44_1)) ?_
  refine s_ex 3 30 (.load 21 (.tmp 29)) (v := .int .i32 h) (by kernel_rfl) (ex_ld (u := .pointer (some ⟨C, c * 3 + 1, none⟩)) (evN rfl rfl) (ld21 hx)) ?_
  refine s_ex 4 31 (.binOp .neq 21 (.tmp 30) (.const (.int .i32 (-1))) 21) (v := .bool (!(h == (-1)))) (by kernel_rfl) (ex_bn (u := .int .i32 h) (u' := .int .i32 (-1)) (evN rfl rfl) rfl (neqW rfl)) ?_
  exact s_end (by kernel_rfl) (hK _  (((((Same.refl.put 27 _).put 28 _).put 29 _).put 30 _).put 31 _) rfl)
set_option maxRecDepth 100000 in
set_option maxHeartbeats 400000 in
theorem k3 (D C n c l : Nat) (wa : World) (x : Nat) (u : Value) (hx : x < n) (hs : wa.cell? ⟨D, 3, none⟩ = some (.slice (some ⟨C, 0, none⟩) n n)) (hn : wa.cell? ⟨C, c * 3 + 1, none⟩ = some (.int .i32 ((x : Nat) : Int))) (hp : wa.cell? ⟨C, x * 3 + 2, none⟩ = some u) (hfp : wa.frozen? ⟨C, x * 3 + 2, none⟩ = false) (f : Nat → Value) (h0 : f 0 = .pointer (some ⟨D, 0, none⟩)) (h1 : f 1 = .int .i32 ((c : Nat) : Int)) (h6 : f 6 = .pointer (some ⟨C, c * 3, none⟩)) (K : Act → World → Prop)
    (hK : ∀ (f' : Nat → Value), Same f f' [42, 41, 39, 35, 40, 38, 37, 36, 34, 33, 32] → K (Fm 65 f') (wa.drew.setCell ⟨C, x * 3 + 2, none⟩ (.int .i32 ((c : Nat) : Int)))) :
    Code.wp Ybaf.prog (thnC (tailC (headC (dropC 2 l7)))) (only K) (Fm 65 f) wa := by
  refine anyN 12 (by kernel_rfl) (by kernel_rfl) ?_
  refine a_take 0 32 (.move (.tmp 0)) (v := .pointer (some ⟨D, 0, none⟩)) (by kernel_rfl) (by kernel_rfl) (by kernel_rfl) (by kernel_rfl) (fun _ _ _ h => h) (fun _ => (ex_mv (evN rfl h0))) ?_
  refine a_take 1 33 (.nilCheck (.tmp 32)) (v := .pointer (some ⟨D, 0, none⟩)) (by kernel_rfl) (by kernel_rfl) (by kernel_rfl) (by kernel_rfl) (fun _ _ _ h => h) (fun _ => (ex_nc (evN rfl rfl))) ?_
  refine a_take 2 34 (.fieldAddr 42 (.tmp 33) 3) (v := .pointer (some ⟨D, 3, none⟩)) (by kernel_rfl) (by kernel_rfl) (by kernel_rfl) (by kernel_rfl) (fun _ _ _ h => h) (fun _ => (ex_fa (u := .pointer (some ⟨D, 0, none⟩)) (evN rfl rfl) (fa42_3))) ?_
  refine a_take 4 36 (.move (.tmp 6)) (v := .pointer (some ⟨C, c * 3, none⟩)) (by kernel_rfl) (by kernel_rfl) (by kernel_rfl) (by kernel_rfl) (fun _ _ _ h => h) (fun _ => (ex_mv (evN rfl h6))) ?_
  refine a_take 5 37 (.nilCheck (.tmp 36)) (v := .pointer (some ⟨C, c * 3, none⟩)) (by kernel_rfl) (by kernel_rfl) (by kernel_rfl) (by kernel_rfl) (fun _ _ _ h => h) (fun _ => (ex_nc (evN rfl rfl))) ?_
  refine a_take 6 38 (.fieldAddr 44 (.tmp 37) 1) (v := .pointer (some ⟨C, c * 3 + 1, none⟩)) (by kernel_rfl) (by kernel_rfl) (by kernel_rfl) (by kernel_rfl) (fun _ _ _ h => h) (fun _ => (ex_fa (u := .pointer (some ⟨C, c * 3, none⟩)) (evN rfl rfl) (fa44_1))) ?_
  refine a_take 8 40 (.move (.tmp 1)) (v := .int .i32 ((c : Nat) : Int)) (by kernel_rfl) (by kernel_rfl) (by kernel_rfl) (by kernel_rfl) (fun _ _ _ h => h) (fun _ => (ex_mv (evN rfl h1))) ?_
  refine a_2 3 35 7 39 (.load 36 (.tmp 34)) (.load 21 (.tmp 38)) (v := .slice (some ⟨C, 0, none⟩) n n) (u := .int .i32 ((x : Nat) : Int)) (by kernel_rfl) (by kernel_rfl) (by kernel_rfl) (ex_ld (u := .pointer (some ⟨D, 3, none⟩)) (evN rfl rfl) (ld36 (w := wa.drew) hs)) (ex_ld (u := .pointer (some ⟨C, c * 3 + 1, none⟩)) (evN rfl rfl) (ld21 (w := wa.drew) hn)) ?_ ?_
  · refine a_1 7 39 (.load 21 (.tmp 38)) (v := .int .i32 ((x : Nat) : Int)) (by kernel_rfl) (by kernel_rfl) (ex_ld (u := .pointer (some ⟨C, c * 3 + 1, none⟩)) (evN rfl rfl) (ld21 (w := wa.drew) hn)) ?_
    refine a_take 9 41 (.indexAddr 36 (.tmp 35) (.tmp 39)) (v := .pointer (some ⟨C, x * 3, none⟩)) (by kernel_rfl) (by kernel_rfl) (by kernel_rfl) (by kernel_rfl) (fun _ _ _ h => h) (fun _ => (ex_ix (u := .slice (some ⟨C, 0, none⟩) n n) (i := .int .i32 ((x : Nat) : Int)) (evN rfl rfl) (evN rfl rfl) (ix36_i32 hx))) ?_
    refine a_take 10 42 (.fieldAddr 44 (.tmp 41) 2) (v := .pointer (some ⟨C, x * 3 + 2, none⟩)) (by kernel_rfl) (by kernel_rfl) (by kernel_rfl) (by kernel_rfl) (fun _ _ _ h => h) (fun _ => (ex_fa (u := .pointer (some ⟨C, x * 3, none⟩)) (evN rfl rfl) (fa44_2))) ?_
    refine a_st 11 21 (.tmp 42) (.tmp 40) (p := .pointer (some ⟨C, x * 3 + 2, none⟩)) (q := .int .i32 ((c : Nat) : Int)) (by kernel_rfl) (by kernel_rfl) (evN rfl rfl) (evN rfl rfl) (st21 (w := wa.drew) hp hfp) ?_
    exact a_end (by kernel_rfl) (hK _  (((((((((((((Same.refl.put 32 _).put 33 _).put 34 _).put 36 _).put 37 _).put 38 _).put 40 _).put 35 _).put 39 _).put 41 _).put 42 _)).wide rfl))
  · refine a_1 3 35 (.load 36 (.tmp 34)) (v := .slice (some ⟨C, 0, none⟩) n n) (by kernel_rfl) (by kernel_rfl) (ex_ld (u := .pointer (some ⟨D, 3, none⟩)) (evN rfl rfl) (ld36 (w := wa.drew) hs)) ?_
    refine a_take 9 41 (.indexAddr 36 (.tmp 35) (.tmp 39)) (v := .pointer (some ⟨C, x * 3, none⟩)) (by kernel_rfl) (by kernel_rfl) (by kernel_rfl) (by kernel_rfl) (fun _ _ _ h => h) (fun _ => (ex_ix (u := .slice (some ⟨C, 0, none⟩) n n) (i := .int .i32 ((x : Nat) : Int)) (evN rfl rfl) (evN rfl rfl) (ix36_i32 hx))) ?_
    refine a_take 10 42 (.fieldAddr 44 (.tmp 41) 2) (v := .pointer (some ⟨C, x * 3 + 2, none⟩)) (by kernel_rfl) (by kernel_rfl) (by kernel_rfl) (by kernel_rfl) (fun _ _ _ h => h) (fun _ => (ex_fa (u := .pointer (some ⟨C, x * 3, none⟩)) (evN rfl rfl) (fa44_2))) ?_
    refine a_st 11 21 (.tmp 42) (.tmp 40) (p := .pointer (some ⟨C, x * 3 + 2, none⟩)) (q := .int .i32 ((c : Nat) : Int)) (by kernel_rfl) (by kernel_rfl) (evN rfl rfl) (evN rfl rfl) (st21 (w := wa.drew) hp hfp) ?_
    exact a_end (by kernel_rfl) (hK _  (((((((((((((Same.refl.put 32 _).put 33 _).put 34 _).put 36 _).put 37 _).put 38 _).put 40 _).put 39 _).put 35 _).put 41 _).put 42 _)).wide rfl))
set_option maxRecDepth 100000 in
set_option maxHeartbeats 400000 in
theorem k4 (D C n c l : Nat) (wa : World) (u : Value) (hl : l ≤ 704) (hp : wa.cell? ⟨D, 4 + l, none⟩ = some u) (hfp : wa.frozen? ⟨D, 4 + l, none⟩ = false) (f : Nat → Value) (h0 : f 0 = .pointer (some ⟨D, 0, none⟩)) (h1 : f 1 = .int .i32 ((c : Nat) : Int)) (h2 : f 2 = .int .i32 ((l : Nat) : Int)) (K : Act → World → Prop)
    (hK : ∀ (f' : Nat → Value), Same f f' [48, 47, 46, 45, 44, 43] → K (Fm 65 f') (wa.setCell ⟨D, 4 + l, none⟩ (.int .i32 ((c : Nat) : Int)))) :
    Code.wp Ybaf.prog (headC (dropC 3 l7)) (only K) (Fm 65 f) wa := by
  refine regN (by kernel_rfl) ?_
  refine s_ex 0 43 (.move (.tmp 0)) (v := .pointer (some ⟨D, 0, none⟩)) (by kernel_rfl) (ex_mv (evN rfl h0)) ?_
  refine s_ex 1 44 (.move (.tmp 2)) (v := .int .i32 ((l : Nat) : Int)) (by kernel_rfl) (ex_mv (evN rfl h2)) ?_
  refine s_ex 2 45 (.move (.tmp 1)) (v := .int .i32 ((c : Nat) : Int)) (by kernel_rfl) (ex_mv (evN rfl h1)) ?_
  refine s_ex 3 46 (.nilCheck (.tmp 43)) (v := .pointer (some ⟨D, 0, none⟩)) (by kernel_rfl) (ex_nc (evN rfl rfl)) ?_
  refine s_ex 4 47 (.fieldAddr 42 (.tmp 46) 4) (v := .pointer (some ⟨D, 4, none⟩)) (by kernel_rfl) (ex_fa (u := .pointer (some ⟨D, 0, none⟩)) (evN rfl rfl) (fa42_4)) ?_
  refine s_ex 5 48 (.indexAddr 37 (.tmp 47) (.tmp 44)) (v := .pointer (some ⟨D, 4 + l, none⟩)) (by kernel_rfl) (ex_ix (u := .pointer (some ⟨D, 4, none⟩)) (i := .int .i32 ((l : Nat) : Int)) (evN rfl rfl) (evN rfl rfl) (ix37_i32 (by omega))) ?_
  refine s_st 6 21 (.tmp 48) (.tmp 45) (p := .pointer (some ⟨D, 4 + l, none⟩)) (q := .int .i32 ((c : Nat) : Int)) (by kernel_rfl) (evN rfl rfl) (evN rfl rfl) (st21 hp hfp) ?_
  exact s_end (by kernel_rfl) (hK _  ((((((Same.refl.put 43 _).put 44 _).put 45 _).put 46 _).put 47 _).put 48 _))
set_option maxRecDepth 100000 in
set_option maxHeartbeats 400000 in
theorem k5 (l : Nat) (wa : World) (f : Nat → Value) (h2 : f 2 = .int .i32 ((l : Nat) : Int)) (K : Act → World → Prop)
    (hK : ∀ (f' : Nat → Value), Same f f' [50, 49] → f' 50 = .bool (decide (((l : Nat) : Int) < 704)) → K (Fm 65 f') (wa)) :
    Code.wp Ybaf.prog (headC (dropC 4 l7)) (only K) (Fm 65 f) wa := by
  refine regN (by kernel_rfl) ?_
  refine s_ex 0 49 (.move (.tmp 2)) (v := .int .i32 ((l : Nat) : Int)) (by kernel_rfl) (ex_mv (evN rfl h2)) ?_
  refine s_ex 1 50 (.binOp .lss 21 (.tmp 49) (.const (.int .i32 704)) 21) (v := .bool (decide (((l : Nat) : Int) < 704))) (by kernel_rfl) (ex_bn (u := .int .i32 ((l : Nat) : Int)) (u' := .int .i32 704) (evN rfl rfl) rfl (lssW rfl)) ?_
  exact s_end (by kernel_rfl) (hK _  ((Same.refl.put 49 _).put 50 _) rfl)
set_option maxRecDepth 100000 in
set_option maxHeartbeats 400000 in
theorem k6 (D l : Nat) (o : Int) (wa : World) (hl : l < 704) (hp : wa.cell? ⟨D, 709 + l / 64, none⟩ = some (.int .u64 o)) (hfp : wa.frozen? ⟨D, 709 + l / 64, none⟩ = false) (f : Nat → Value) (h0 : f 0 = .pointer (some ⟨D, 0, none⟩)) (h2 : f 2 = .int .i32 ((l : Nat) : Int)) (K : Act → World → Prop)
    (hK : ∀ (f' : Nat → Value), Same f f' [64, 61, 57, 63, 62, 60, 59, 58, 56, 55, 54, 53, 52, 51] → K (Fm 65 f') (wa.drew.setCell ⟨D, 709 + l / 64, none⟩ (.int .u64 (bits .or .u64 o (IntKind.u64.wrap (2 ^ (l % 64))))))) :
    Code.wp Ybaf.prog (thnC (tailC (dropC 4 l7))) (only K) (Fm 65 f) wa := by
  refine anyN 15 (by kernel_rfl) (by kernel_rfl) ?_
  refine a_take 0 51 (.move (.tmp 0)) (v := .pointer (some ⟨D, 0, none⟩)) (by kernel_rfl) (by kernel_rfl) (by kernel_rfl) (by kernel_rfl) (fun _ _ _ h => h) (fun _ => (ex_mv (evN rfl h0))) ?_
  refine a_take 1 52 (.move (.tmp 2)) (v := .int .i32 ((l : Nat) : Int)) (by kernel_rfl) (by kernel_rfl) (by kernel_rfl) (by kernel_rfl) (fun _ _ _ h => h) (fun _ => (ex_mv (evN rfl h2))) ?_
  refine a_take 2 53 (.binOp .quo 21 (.tmp 52) (.const (.int .i32 64)) 21) (v := .int .i32 ((l / 64 : Nat) : Int)) (by kernel_rfl) (by kernel_rfl) (by kernel_rfl) (by kernel_rfl) (fun _ _ _ h => h) (fun _ => (ex_bn (u := .int .i32 ((l : Nat) : Int)) (u' := .int .i32 64) (evN rfl rfl) rfl (quoL hl))) ?_
  refine a_take 3 54 (.nilCheck (.tmp 51)) (v := .pointer (some ⟨D, 0, none⟩)) (by kernel_rfl) (by kernel_rfl) (by kernel_rfl) (by kernel_rfl) (fun _ _ _ h => h) (fun _ => (ex_nc (evN rfl rfl))) ?_
  refine a_take 4 55 (.fieldAddr 42 (.tmp 54) 5) (v := .pointer (some ⟨D, 709, none⟩)) (by kernel_rfl) (by kernel_rfl) (by kernel_rfl) (by kernel_rfl) (fun _ _ _ h => h) (fun _ => (ex_fa (u := .pointer (some ⟨D, 0, none⟩)) (evN rfl rfl) (fa42_5))) ?_
  refine a_take 5 56 (.indexAddr 38 (.tmp 55) (.tmp 53)) (v := .pointer (some ⟨D, 709 + l / 64, none⟩)) (by kernel_rfl) (by kernel_rfl) (by kernel_rfl) (by kernel_rfl) (fun _ _ _ h => h) (fun _ => (ex_ix (u := .pointer (some ⟨D, 709, none⟩)) (i := .int .i32 ((l / 64 : Nat) : Int)) (evN rfl rfl) (evN rfl rfl) (ix38_i32 (by omega)))) ?_
  refine a_take 7 58 (.move (.tmp 2)) (v := .int .i32 ((l : Nat) : Int)) (by kernel_rfl) (by kernel_rfl) (by kernel_rfl) (by kernel_rfl) (fun _ _ _ h => h) (fun _ => (ex_mv (evN rfl h2))) ?_
  refine a_take 8 59 (.binOp .rem 21 (.tmp 58) (.const (.int .i32 64)) 21) (v := .int .i32 ((l % 64 : Nat) : Int)) (by kernel_rfl) (by kernel_rfl) (by kernel_rfl) (by kernel_rfl) (fun _ _ _ h => h) (fun _ => (ex_bn (u := .int .i32 ((l : Nat) : Int)) (u' := .int .i32 64) (evN rfl rfl) rfl (remL hl))) ?_
  refine a_take 9 60 (.binOp .shl 35 (.const (.int .u64 1)) (.tmp 59) 21) (v := .int .u64 (IntKind.u64.wrap (2 ^ (l % 64)))) (by kernel_rfl) (by kernel_rfl) (by kernel_rfl) (by kernel_rfl) (fun _ _ _ h => h) (fun _ => (ex_bn (u := .int .u64 1) (u' := .int .i32 ((l % 64 : Nat) : Int)) rfl (evN rfl rfl) (shlL (by omega)))) ?_
  refine a_take 11 62 (.nilCheck (.tmp 51)) (v := .pointer (some ⟨D, 0, none⟩)) (by kernel_rfl) (by kernel_rfl) (by kernel_rfl) (by kernel_rfl) (fun _ _ _ h => h) (fun _ => (ex_nc (evN rfl rfl))) ?_
  refine a_take 12 63 (.fieldAddr 42 (.tmp 62) 5) (v := .pointer (some ⟨D, 709, none⟩)) (by kernel_rfl) (by kernel_rfl) (by kernel_rfl) (by kernel_rfl) (fun _ _ _ h => h) (fun _ => (ex_fa (u := .pointer (some ⟨D, 0, none⟩)) (evN rfl rfl) (fa42_5))) ?_
  refine a_1 6 57 (.load 35 (.tmp 56)) (v := .int .u64 o) (by kernel_rfl) (by kernel_rfl) (ex_ld (u := .pointer (some ⟨D, 709 + l / 64, none⟩)) (evN rfl rfl) (ld35 (w := wa.drew) hp)) ?_
  refine a_take 10 61 (.binOp .or 35 (.tmp 57) (.tmp 60) 35) (v := .int .u64 (bits .or .u64 o (IntKind.u64.wrap (2 ^ (l % 64))))) (by kernel_rfl) (by kernel_rfl) (by kernel_rfl) (by kernel_rfl) (fun _ _ _ h => h) (fun _ => (ex_bn (u := .int .u64 o) (u' := .int .u64 (IntKind.u64.wrap (2 ^ (l % 64)))) (evN rfl rfl) (evN rfl rfl) (orL))) ?_
  refine a_take 13 64 (.indexAddr 38 (.tmp 63) (.tmp 53)) (v := .pointer (some ⟨D, 709 + l / 64, none⟩)) (by kernel_rfl) (by kernel_rfl) (by kernel_rfl) (by kernel_rfl) (fun _ _ _ h => h) (fun _ => (ex_ix (u := .pointer (some ⟨D, 709, none⟩)) (i := .int .i32 ((l / 64 : Nat) : Int)) (evN rfl rfl) (evN rfl rfl) (ix38_i32 (by omega)))) ?_
  refine a_st 14 35 (.tmp 64) (.tmp 61) (p := .pointer (some ⟨D, 709 + l / 64, none⟩)) (q := .int .u64 (bits .or .u64 o (IntKind.u64.wrap (2 ^ (l % 64))))) (by kernel_rfl) (by kernel_rfl) (evN rfl rfl) (evN rfl rfl) (st35 (w := wa.drew) hp hfp) ?_
  exact a_end (by kernel_rfl) (hK _  ((((((((((((((((Same.refl.put 51 _).put 52 _).put 53 _).put 54 _).put 55 _).put 56 _).put 58 _).put 59 _).put 60 _).put 62 _).put 63 _).put 57 _).put 61 _).put 64 _)).wide rfl))
set_option maxRecDepth 100000 in
set_option maxHeartbeats 1000000 in
theorem link_any (D C n c l : Nat) (g tk : Int) (dl nx pv hd oc : Nat → Int) (bt cn : Value) (w : World) (hne : D ≠ C) (hc : c < n) (hl : l ≤ 704) (hh : hd l = -1 ∨ ∃ x : Nat, x < n ∧ hd l = (x : Int))
    (hD : w.rowIs D 42 722 (dv g tk C n hd oc bt cn)) (hC : w.rowIs C 44 (n * 3) (cv dl nx pv)) :
    Calls Ybaf.prog 7 #[.pointer (some ⟨D, 0, none⟩), .int .i32 ((c : Nat) : Int), .int .i32 ((l : Nat) : Int)] w fun e w' => e = .returned (.tuple #[]) ∧ ∃ oc', w'.rowIs D 42 722 (dv g tk C n (set1 hd l (c : Int)) oc' bt cn) ∧ w'.rowIs C 44 (n * 3) (cv dl (set1 nx c (hd l)) (lnk pv c l (hd l))) ∧ Oth2 D C w w' := by
  go_enter Ybaf.func7, Ybaf.ntmps7
  change Code.wp Ybaf.prog l7 _ _ _
  rw [Fm_of (N := 65) _ (by rfl)]
  generalize hf : (fun k => Array.getD _ k undef) = f
  have H : Has f [(0, .pointer (some ⟨D, 0, none⟩)), (1, .int .i32 ((c : Nat) : Int)), (2, .int .i32 ((l : Nat) : Int))] := by
    subst hf
    exact ⟨by rfl, by rfl, by rfl, trivial⟩
  clear hf
  rw [l7_eq]
  refine wp_seq (wp_use (k0 D C n c l w hc (hD.cell (by omega)) f H.1 H.2.1 _ ?_))
  intro f1  S1 e1_6 
  have H1 : Has f1 [(6, .pointer (some ⟨C, c * 3, none⟩)), (0, .pointer (some ⟨D, 0, none⟩)), (1, .int .i32 ((c : Nat) : Int)), (2, .int .i32 ((l : Nat) : Int))] := ⟨e1_6, H.keep S1⟩
  have hC1 := (hC.drew.set (c * 3 + 2) (.int .i32 (-1 - (l : Int))))
  have hC2 := (hC1.set (c * 3 + 1) (.int .i32 (hd l)))
  have hhc : w.cell? ⟨D, 4 + l, none⟩ = some (.int .i32 (hd l)) := by rw [hD.cell (by omega), dv_h l (by omega)]
  refine wp_seq (wp_use (k1 D C n c l w (hd l) _ _ hl hhc (hC.cell (by omega)) (hC.frozen _) (hC1.cell (by omega)) (hC1.frozen _) f1 H1.2.1 H1.2.2.2.1 H1.1 _ ?_))
  intro f2  S2  
  have H2 : Has f2 [(6, .pointer (some ⟨C, c * 3, none⟩)), (0, .pointer (some ⟨D, 0, none⟩)), (1, .int .i32 ((c : Nat) : Int)), (2, .int .i32 ((l : Nat) : Int))] := H1.keep S2
  have hC3 : ((w.drew.setCell ⟨C, c * 3 + 2, none⟩ (.int .i32 (-1 - (l : Int)))).setCell ⟨C, c * 3 + 1, none⟩ (.int .i32 (hd l))).rowIs C 44 (n * 3) (cv dl (set1 nx c (hd l)) (set1 pv c (-1 - (l : Int)))) := hC2.congr fun k _ => by
    rw [cv_set2, cv_set1]
  have hD3 : ((w.drew.setCell ⟨C, c * 3 + 2, none⟩ (.int .i32 (-1 - (l : Int)))).setCell ⟨C, c * 3 + 1, none⟩ (.int .i32 (hd l))).rowIs D 42 722 (dv g tk C n hd oc bt cn) := (hD.drew.setOther (a := ⟨C, c * 3 + 2, none⟩) hne _).setOther (a := ⟨C, c * 3 + 1, none⟩) hne _
  have hO3 : Oth2 D C w ((w.drew.setCell ⟨C, c * 3 + 2, none⟩ (.int .i32 (-1 - (l : Int)))).setCell ⟨C, c * 3 + 1, none⟩ (.int .i32 (hd l))) := (((Oth2.refl D C w).drew.set C _ _ (Or.inr rfl)).set C _ _ (Or.inr rfl))
  revert hC3 hD3 hO3
  generalize (w.drew.setCell ⟨C, c * 3 + 2, none⟩ (.int .i32 (-1 - (l : Int)))).setCell ⟨C, c * 3 + 1, none⟩ (.int .i32 (hd l)) = w3
  intro hC3 hD3 hO3
  clear hC1 hC2
  have hnx : w3.cell? ⟨C, c * 3 + 1, none⟩ = some (.int .i32 (hd l)) := by rw [hC3.cell (by omega), cv_1]; simp [set1]
  refine wp_join (fun a' w' => ∃ (f : Nat → Value), a' = Fm 65 f ∧ Has f [(0, .pointer (some ⟨D, 0, none⟩)), (1, .int .i32 ((c : Nat) : Int)), (2, .int .i32 ((l : Nat) : Int))] ∧ w'.rowIs D 42 722 (dv g tk C n hd oc bt cn) ∧ w'.rowIs C 44 (n * 3) (cv dl (set1 nx c (hd l)) (lnk pv c l (hd l))) ∧ Oth2 D C w w') ?_ ?_
  · refine wp_seq (wp_use (k2 C c (hd l) w3 hnx f2 H2.1 _ ?_))
    intro f3  S3 e3_31 
    have H3 : Has f3 [(31, .bool (!(hd l == (-1)))), (6, .pointer (some ⟨C, c * 3, none⟩)), (0, .pointer (some ⟨D, 0, none⟩)), (1, .int .i32 ((c : Nat) : Int)), (2, .int .i32 ((l : Nat) : Int))] := ⟨e3_31, H2.keep S3⟩
    rcases hh with hh | ⟨x, hx, hh⟩
    · have hb : (!(hd l == (-1))) = false := by rw [hh]; rfl
      refine wp_cond_false (evN rfl (H3.1.trans (by rw [hb]))) (wp_skip ?_)
      exact ⟨f3, rfl, ⟨H3.2.2.1, H3.2.2.2.1, H3.2.2.2.2.1, trivial⟩, hD3, by unfold lnk; rw [if_pos hh]; exact hC3, hO3⟩
    · have hb : (!(hd l == (-1))) = true := by rw [hh]; simp
      refine wp_cond_true (evN rfl (H3.1.trans (by rw [hb]))) ?_
      rw [hh] at hnx
      refine wp_use (k3 D C n c l w3 x _ hx (hD3.cell (by omega)) hnx (hC3.cell (by omega)) (hC3.frozen _) f3 H3.2.2.1 H3.2.2.2.1 H3.2.1 _ ?_)
      intro f4  S4  
      have H4 : Has f4 [(31, .bool (!(hd l == (-1)))), (6, .pointer (some ⟨C, c * 3, none⟩)), (0, .pointer (some ⟨D, 0, none⟩)), (1, .int .i32 ((c : Nat) : Int)), (2, .int .i32 ((l : Nat) : Int))] := H3.keep S4
      refine ⟨f4, rfl, ⟨H4.2.2.1, H4.2.2.2.1, H4.2.2.2.2.1, trivial⟩, hD3.drew.setOther (a := ⟨C, x * 3 + 2, none⟩) hne _, ?_, (hO3.drew.set C _ _ (Or.inr rfl))⟩
      refine (hC3.drew.set (x * 3 + 2) _).congr fun k _ => ?_
      rw [cv_set2]
      unfold lnk
      rw [if_neg (by omega), hh, Int.toNat_natCast]
  · rintro _ w4 ⟨f, rfl, H, hD4, hC4, hO4⟩
    refine wp_seq (wp_use (k4 D C n c l w4 _ hl (hD4.cell (by omega)) (hD4.frozen _) f H.1 H.2.1 H.2.2.1 _ ?_))
    intro f1  S1  
    have H1 : Has f1 [(0, .pointer (some ⟨D, 0, none⟩)), (1, .int .i32 ((c : Nat) : Int)), (2, .int .i32 ((l : Nat) : Int))] := H.keep S1
    have hD5 : (w4.setCell ⟨D, 4 + l, none⟩ (.int .i32 ((c : Nat) : Int))).rowIs D 42 722 (dv g tk C n (set1 hd l (c : Int)) oc bt cn) := (hD4.set (4 + l) _).congr fun k _ => dv_seth l (by omega) _ k
    have hC5 : (w4.setCell ⟨D, 4 + l, none⟩ (.int .i32 ((c : Nat) : Int))).rowIs C 44 (n * 3) (cv dl (set1 nx c (hd l)) (lnk pv c l (hd l))) := hC4.setOther (a := ⟨D, 4 + l, none⟩) (Ne.symm hne) _
    have hO5 := hO4.set D (4 + l) (.int .i32 ((c : Nat) : Int)) (Or.inl rfl)
    revert hD5 hC5 hO5
    generalize w4.setCell ⟨D, 4 + l, none⟩ (.int .i32 ((c : Nat) : Int)) = w5
    intro hD5 hC5 hO5
    refine wp_seq (wp_use (k5 l w5 f1 H1.2.2.1 _ ?_))
    intro f2  S2 e2_50 
    have H2 : Has f2 [(50, .bool (decide (((l : Nat) : Int) < 704))), (0, .pointer (some ⟨D, 0, none⟩)), (1, .int .i32 ((c : Nat) : Int)), (2, .int .i32 ((l : Nat) : Int))] := ⟨e2_50, H1.keep S2⟩
    by_cases hl7 : ((l : Nat) : Int) < 704
    · refine wp_cond_true (evN rfl (H2.1.trans (by rw [decide_eq_true hl7]))) ?_
      have ho : w5.cell? ⟨D, 709 + l / 64, none⟩ = some (.int .u64 (oc (l / 64))) := by rw [hD5.cell (by omega), dv_o (l / 64) (by omega)]
      refine wp_use (k6 D l _ w5 (by omega) ho (hD5.frozen _) f2 H2.2.1 H2.2.2.2.1 _ ?_)
      intro f3  S3  
      have H3 : Has f3 [(50, .bool (decide (((l : Nat) : Int) < 704))), (0, .pointer (some ⟨D, 0, none⟩)), (1, .int .i32 ((c : Nat) : Int)), (2, .int .i32 ((l : Nat) : Int))] := H2.keep S3
      refine bodyPost_end (results_none rfl _ _ _) rfl ?_
      exact ⟨rfl, _, (hD5.drew.set (709 + l / 64) _).congr fun k _ => dv_seto (l / 64) (by omega) _ k, hC5.drew.setOther (a := ⟨D, 709 + l / 64, none⟩) (Ne.symm hne) _, hO5.drew.set D _ _ (Or.inl rfl)⟩
    · refine wp_cond_false (evN rfl (H2.1.trans (by rw [decide_eq_false hl7]))) (wp_skip ?_)
      refine bodyPost_end (results_none rfl _ _ _) rfl ?_
      exact ⟨rfl, _, hD5, hC5, hO5⟩
end Go.Proofs.YbulkblsgFmt

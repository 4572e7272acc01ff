import Derived.Test.YbulkblsgFmtOp
namespace Go.Proofs.YbulkblsgFmt
open Go.RowKit Go.Extern.Stop Go.Stop Go.Extern
set_option linter.unusedVariables false
set_option linter.unusedSimpArgs false
noncomputable def l4 : Code := Ybaf.f4.body.getD .skip
noncomputable def l4a : Code := lupC (blkC (tailC (headC (dropC 7 l4))))
noncomputable def l4b : Code := lupC (blkC (tailC (headC (dropC 14 l4))))
noncomputable def l4c : Code := lupC (blkC (tailC (headC (dropC 18 l4))))
noncomputable def l4d : Code := blkC (headC (dropC 2 l4c))
noncomputable def l4f : Code := lupC (blkC (tailC (headC (dropC 6 l4d))))
noncomputable def l4e : Code := lupC (blkC (tailC (headC (dropC 27 l4))))
noncomputable def l4g : Code := blkC (headC (dropC 2 l4e))
theorem kindR {k : Nat} {w : World} : Calls Ybaf.prog 12 #[.int .u8 (k : Nat)] w fun e w' => ∃ v, e = .returned v ∧ (v = .int .u8 ((knd k : Nat) : Int) ∧ w' = w) := (kind_any k w).mono fun _ _ ⟨h1, h2⟩ => ⟨_, h1, rfl, h2⟩
theorem sizeR {k l : Nat} {w : World} (hl : l ≤ 255) : Calls Ybaf.prog 13 #[.int .u8 (k : Nat), .int .u8 (l : Nat)] w fun e w' => ∃ v, e = .returned v ∧ (v = .int .i64 ((siz k l : Nat) : Int) ∧ w' = w) := (size_any k l hl w).mono fun _ _ ⟨h1, h2⟩ => ⟨_, h1, rfl, h2⟩
set_option maxRecDepth 100000 in
set_option maxHeartbeats 400000 in
theorem f0 (wa : World) (f : Nat → Value)  (K : Act → World → Prop)
    (hK : ∀ (f' : Nat → Value), Same f f' [14] → f' 14 = .bool false → K (F4 f') (wa)) :
    Code.wp Ybaf.prog (headC l4) (only K) (F4 f) wa := by
  refine reg4 (by kernel_rfl) ?_
  refine s_ex 0 14 (.assign (.const (.bool false))) (v := .bool false) (by kernel_rfl) (ex_as rfl) ?_
  exact s_end (by kernel_rfl) (hK _  (Same.refl.put 14 _) rfl)
set_option maxRecDepth 100000 in
set_option maxHeartbeats 400000 in
theorem f1 (a0 : Option Addr) (m c0 : Nat) (a4 : Option Addr) (tl c4 : Nat) (wa : World) (hm : m ≤ 256) (ht : tl ≤ 4096) (f : Nat → Value) (h0 : f 0 = .slice a0 m c0) (h4 : f 4 = .slice a4 tl c4) (K : Act → World → Prop)
    (hK : ∀ (f' : Nat → Value), Same f f' [48, 47, 46, 45, 44, 43, 42, 41] → f' 48 = .bool false → K (F4 f') (wa)) :
    Code.wp Ybaf.prog (headC (headC (dropC 1 l4))) (only K) (F4 f) wa := by
  refine reg4 (by kernel_rfl) ?_
  refine s_ex 0 41 (.move (.tmp 0)) (v := .slice a0 m c0) (by kernel_rfl) (ex_mv (ev rfl h0)) ?_
  refine s_ex 1 42 (.call { callee := .builtin .len, args := #[(.tmp 41)], argTypes := #[52] }) (v := .int .i64 ((m : Nat) : Int)) (by kernel_rfl) (ex_len (ad := a0) (n := m) (c := c0) Ybaf.underlying52 (ev rfl rfl)) ?_
  refine s_ex 2 43 (.binOp .gtr 3 (.tmp 42) (.const (.int .i64 256)) 3) (v := .bool false) (by kernel_rfl) (ex_bn (u := .int .i64 ((m : Nat) : Int)) (u' := .int .i64 256) (ev rfl rfl) rfl (gtrI (decide_eq_false (by omega)))) ?_
  refine s_ex 3 44 (.move (.tmp 43)) (v := .bool false) (by kernel_rfl) (ex_mv (ev rfl rfl)) ?_
  refine s_g 4 45 3 44 false (.move (.tmp 4)) (v := .slice a4 tl c4) (by kernel_rfl) (by kernel_rfl) (by rfl) (by rfl) (ex_mv (ev rfl h4)) ?_
  refine s_g 5 46 3 44 false (.call { callee := .builtin .len, args := #[(.tmp 45)], argTypes := #[53] }) (v := .int .i64 ((tl : Nat) : Int)) (by kernel_rfl) (by kernel_rfl) (by rfl) (by rfl) (ex_len (ad := a4) (n := tl) (c := c4) Ybaf.underlying53 (ev rfl rfl)) ?_
  refine s_g 6 47 3 44 false (.binOp .gtr 3 (.tmp 46) (.const (.int .i64 4096)) 3) (v := .bool false) (by kernel_rfl) (by kernel_rfl) (by rfl) (by rfl) (ex_bn (u := .int .i64 ((tl : Nat) : Int)) (u' := .int .i64 4096) (ev rfl rfl) rfl (gtrI (decide_eq_false (by omega)))) ?_
  refine s_ex 7 48 (.pick (.tmp 44) (.const (.bool true)) (.tmp 47)) (v := .bool false) (by kernel_rfl) (ex_pickf (ev rfl rfl) (ev rfl rfl)) ?_
  exact s_end (by kernel_rfl) (hK _  ((((((((Same.refl.put 41 _).put 42 _).put 43 _).put 44 _).put 45 _).put 46 _).put 47 _).put 48 _) rfl)
set_option maxRecDepth 100000 in
set_option maxHeartbeats 400000 in
theorem f1a (a0 : Option Addr) (m c0 : Nat) (wa : World) (hm : ¬ m ≤ 256) (f : Nat → Value) (h0 : f 0 = .slice a0 m c0) (K : Act → World → Prop)
    (hK : ∀ (f' : Nat → Value), Same f f' [48, 47, 46, 45, 44, 43, 42, 41] → f' 48 = .bool true → K (F4 f') (wa)) :
    Code.wp Ybaf.prog (headC (headC (dropC 1 l4))) (only K) (F4 f) wa := by
  refine reg4 (by kernel_rfl) ?_
  refine s_ex 0 41 (.move (.tmp 0)) (v := .slice a0 m c0) (by kernel_rfl) (ex_mv (ev rfl h0)) ?_
  refine s_ex 1 42 (.call { callee := .builtin .len, args := #[(.tmp 41)], argTypes := #[52] }) (v := .int .i64 ((m : Nat) : Int)) (by kernel_rfl) (ex_len (ad := a0) (n := m) (c := c0) Ybaf.underlying52 (ev rfl rfl)) ?_
  refine s_ex 2 43 (.binOp .gtr 3 (.tmp 42) (.const (.int .i64 256)) 3) (v := .bool true) (by kernel_rfl) (ex_bn (u := .int .i64 ((m : Nat) : Int)) (u' := .int .i64 256) (ev rfl rfl) rfl (gtrI (decide_eq_true (by omega)))) ?_
  refine s_ex 3 44 (.move (.tmp 43)) (v := .bool true) (by kernel_rfl) (ex_mv (ev rfl rfl)) ?_
  refine s_no 4 45 3 44 false (.move (.tmp 4)) (by kernel_rfl) (by kernel_rfl) (by rfl) (by rfl) ?_
  refine s_no 5 46 3 44 false (.call { callee := .builtin .len, args := #[(.tmp 45)], argTypes := #[53] }) (by kernel_rfl) (by kernel_rfl) (by rfl) (by rfl) ?_
  refine s_no 6 47 3 44 false (.binOp .gtr 3 (.tmp 46) (.const (.int .i64 4096)) 3) (by kernel_rfl) (by kernel_rfl) (by rfl) (by rfl) ?_
  refine s_ex 7 48 (.pick (.tmp 44) (.const (.bool true)) (.tmp 47)) (v := .bool true) (by kernel_rfl) (ex_pickt (ev rfl rfl) rfl) ?_
  exact s_end (by kernel_rfl) (hK _  ((((((((Same.refl.put 41 _).put 42 _).put 43 _).put 44 _).put 45 _).put 46 _).put 47 _).put 48 _) rfl)
set_option maxRecDepth 100000 in
set_option maxHeartbeats 400000 in
theorem f1b (a0 : Option Addr) (m c0 : Nat) (a4 : Option Addr) (tl c4 : Nat) (wa : World) (hm : m ≤ 256) (ht : ¬ tl ≤ 4096) (f : Nat → Value) (h0 : f 0 = .slice a0 m c0) (h4 : f 4 = .slice a4 tl c4) (K : Act → World → Prop)
    (hK : ∀ (f' : Nat → Value), Same f f' [48, 47, 46, 45, 44, 43, 42, 41] → f' 48 = .bool true → K (F4 f') (wa)) :
    Code.wp Ybaf.prog (headC (headC (dropC 1 l4))) (only K) (F4 f) wa := by
  refine reg4 (by kernel_rfl) ?_
  refine s_ex 0 41 (.move (.tmp 0)) (v := .slice a0 m c0) (by kernel_rfl) (ex_mv (ev rfl h0)) ?_
  refine s_ex 1 42 (.call { callee := .builtin .len, args := #[(.tmp 41)], argTypes := #[52] }) (v := .int .i64 ((m : Nat) : Int)) (by kernel_rfl) (ex_len (ad := a0) (n := m) (c := c0) Ybaf.underlying52 (ev rfl rfl)) ?_
  refine s_ex 2 43 (.binOp .gtr 3 (.tmp 42) (.const (.int .i64 256)) 3) (v := .bool false) (by kernel_rfl) (ex_bn (u := .int .i64 ((m : Nat) : Int)) (u' := .int .i64 256) (ev rfl rfl) rfl (gtrI (decide_eq_false (by omega)))) ?_
  refine s_ex 3 44 (.move (.tmp 43)) (v := .bool false) (by kernel_rfl) (ex_mv (ev rfl rfl)) ?_
  refine s_g 4 45 3 44 false (.move (.tmp 4)) (v := .slice a4 tl c4) (by kernel_rfl) (by kernel_rfl) (by rfl) (by rfl) (ex_mv (ev rfl h4)) ?_
  refine s_g 5 46 3 44 false (.call { callee := .builtin .len, args := #[(.tmp 45)], argTypes := #[53] }) (v := .int .i64 ((tl : Nat) : Int)) (by kernel_rfl) (by kernel_rfl) (by rfl) (by rfl) (ex_len (ad := a4) (n := tl) (c := c4) Ybaf.underlying53 (ev rfl rfl)) ?_
  refine s_g 6 47 3 44 false (.binOp .gtr 3 (.tmp 46) (.const (.int .i64 4096)) 3) (v := .bool true) (by kernel_rfl) (by kernel_rfl) (by rfl) (by rfl) (ex_bn (u := .int .i64 ((tl : Nat) : Int)) (u' := .int .i64 4096) (ev rfl rfl) rfl (gtrI (decide_eq_true (by omega)))) ?_
  refine s_ex 7 48 (.pick (.tmp 44) (.const (.bool true)) (.tmp 47)) (v := .bool true) (by kernel_rfl) (ex_pickf (ev rfl rfl) (ev rfl rfl)) ?_
  exact s_end (by kernel_rfl) (hK _  ((((((((Same.refl.put 41 _).put 42 _).put 43 _).put 44 _).put 45 _).put 46 _).put 47 _).put 48 _) rfl)
set_option maxRecDepth 100000 in
set_option maxHeartbeats 400000 in
theorem f2 (wa : World) (f : Nat → Value)  (K : Act → World → Prop)
    (hK : ∀ (f' : Nat → Value), Same f f' [14] → f' 14 = .bool true → K (F4 f') (wa)) :
    Code.wp Ybaf.prog (headC (thnC (tailC (headC (dropC 1 l4))))) (only K) (F4 f) wa := by
  refine reg4 (by kernel_rfl) ?_
  refine s_ex 0 14 (.assign (.const (.bool true))) (v := .bool true) (by kernel_rfl) (ex_as rfl) ?_
  exact s_end (by kernel_rfl) (hK _  (Same.refl.put 14 _) rfl)
set_option maxRecDepth 100000 in
set_option maxHeartbeats 400000 in
theorem f3 (wa : World) (f : Nat → Value)  (K : Act → World → Prop)
    (hK : ∀ (f' : Nat → Value), Same f f' [15] → f' 15 = .int .u8 6 → K (F4 f') (wa)) :
    Code.wp Ybaf.prog (headC (dropC 2 l4)) (only K) (F4 f) wa := by
  refine reg4 (by kernel_rfl) ?_
  refine s_ex 0 15 (.assign (.const (.int .u8 6))) (v := .int .u8 6) (by kernel_rfl) (ex_as rfl) ?_
  exact s_end (by kernel_rfl) (hK _  (Same.refl.put 15 _) rfl)
set_option maxRecDepth 100000 in
set_option maxHeartbeats 400000 in
theorem f4 (udp : Bool) (wa : World) (f : Nat → Value) (h3 : f 3 = .bool udp) (K : Act → World → Prop)
    (hK : ∀ (f' : Nat → Value), Same f f' [49] → f' 49 = .bool udp → K (F4 f') (wa)) :
    Code.wp Ybaf.prog (headC (headC (dropC 3 l4))) (only K) (F4 f) wa := by
  refine reg4 (by kernel_rfl) ?_
  refine s_ex 0 49 (.move (.tmp 3)) (v := .bool udp) (by kernel_rfl) (ex_mv (ev rfl h3)) ?_
  exact s_end (by kernel_rfl) (hK _  (Same.refl.put 49 _) rfl)
set_option maxRecDepth 100000 in
set_option maxHeartbeats 400000 in
theorem f5 (wa : World) (f : Nat → Value)  (K : Act → World → Prop)
    (hK : ∀ (f' : Nat → Value), Same f f' [15] → f' 15 = .int .u8 17 → K (F4 f') (wa)) :
    Code.wp Ybaf.prog (thnC (tailC (headC (dropC 3 l4)))) (only K) (F4 f) wa := by
  refine reg4 (by kernel_rfl) ?_
  refine s_ex 0 15 (.assign (.const (.int .u8 17))) (v := .int .u8 17) (by kernel_rfl) (ex_as rfl) ?_
  exact s_end (by kernel_rfl) (hK _  (Same.refl.put 15 _) rfl)
set_option maxRecDepth 100000 in
set_option maxHeartbeats 400000 in
theorem f6 (a0 : Option Addr) (m c0 : Nat) (wa : World) (hm : m ≤ 256) (f : Nat → Value) (h0 : f 0 = .slice a0 m c0) (K : Act → World → Prop)
    (hK : ∀ (f' : Nat → Value), Same f f' [16, 52, 51, 50] → f' 16 = .slice (some ⟨wa.heap.size, 0, none⟩) m m → K (F4 f') (wa.alloc (.cells (madeCells #[.int .u8 0] m) 5))) :
    Code.wp Ybaf.prog (headC (dropC 4 l4)) (only K) (F4 f) wa := by
  refine reg4 (by kernel_rfl) ?_
  refine s_ex 0 50 (.move (.tmp 0)) (v := .slice a0 m c0) (by kernel_rfl) (ex_mv (ev rfl h0)) ?_
  refine s_ex 1 51 (.call { callee := .builtin .len, args := #[(.tmp 50)], argTypes := #[52] }) (v := .int .i64 ((m : Nat) : Int)) (by kernel_rfl) (ex_len (ad := a0) (n := m) (c := c0) Ybaf.underlying52 (ev rfl rfl)) ?_
  refine s_ex 2 52 (.makeSlice 53 (.tmp 51) (.tmp 51)) (v := .slice (some ⟨wa.heap.size, 0, none⟩) m m) (by kernel_rfl) (ex_mk (u := .int .i64 ((m : Nat) : Int)) (u' := .int .i64 ((m : Nat) : Int)) (ev rfl rfl) (ev rfl rfl) (mk53 (by omega))) ?_
  refine s_ex 3 16 (.assign (.tmp 52)) (v := .slice (some ⟨wa.heap.size, 0, none⟩) m m) (by kernel_rfl) (ex_as (ev rfl rfl)) ?_
  exact s_end (by kernel_rfl) (hK _  ((((Same.refl.put 50 _).put 51 _).put 52 _).put 16 _) rfl)
set_option maxRecDepth 100000 in
set_option maxHeartbeats 400000 in
theorem f7 (a0 : Option Addr) (m c0 : Nat) (wa : World) (hm : m ≤ 256) (f : Nat → Value) (h0 : f 0 = .slice a0 m c0) (K : Act → World → Prop)
    (hK : ∀ (f' : Nat → Value), Same f f' [17, 55, 54, 53] → f' 17 = .slice (some ⟨wa.heap.size, 0, none⟩) m m → K (F4 f') (wa.alloc (.cells (madeCells #[.int .i64 0] m) 3))) :
    Code.wp Ybaf.prog (headC (dropC 5 l4)) (only K) (F4 f) wa := by
  refine reg4 (by kernel_rfl) ?_
  refine s_ex 0 53 (.move (.tmp 0)) (v := .slice a0 m c0) (by kernel_rfl) (ex_mv (ev rfl h0)) ?_
  refine s_ex 1 54 (.call { callee := .builtin .len, args := #[(.tmp 53)], argTypes := #[52] }) (v := .int .i64 ((m : Nat) : Int)) (by kernel_rfl) (ex_len (ad := a0) (n := m) (c := c0) Ybaf.underlying52 (ev rfl rfl)) ?_
  refine s_ex 2 55 (.makeSlice 26 (.tmp 54) (.tmp 54)) (v := .slice (some ⟨wa.heap.size, 0, none⟩) m m) (by kernel_rfl) (ex_mk (u := .int .i64 ((m : Nat) : Int)) (u' := .int .i64 ((m : Nat) : Int)) (ev rfl rfl) (ev rfl rfl) (mk26 (by omega))) ?_
  refine s_ex 3 17 (.assign (.tmp 55)) (v := .slice (some ⟨wa.heap.size, 0, none⟩) m m) (by kernel_rfl) (ex_as (ev rfl rfl)) ?_
  exact s_end (by kernel_rfl) (hK _  ((((Same.refl.put 53 _).put 54 _).put 55 _).put 17 _) rfl)
set_option maxRecDepth 100000 in
set_option maxHeartbeats 400000 in
theorem f8 (a0 : Option Addr) (m c0 : Nat) (wa : World) (hm : m ≤ 256) (f : Nat → Value) (h0 : f 0 = .slice a0 m c0) (K : Act → World → Prop)
    (hK : ∀ (f' : Nat → Value), Same f f' [18, 58, 57, 56] → f' 18 = .slice (some ⟨wa.heap.size, 0, none⟩) m m → K (F4 f') (wa.alloc (.cells (madeCells #[.int .i64 0] m) 3))) :
    Code.wp Ybaf.prog (headC (dropC 6 l4)) (only K) (F4 f) wa := by
  refine reg4 (by kernel_rfl) ?_
  refine s_ex 0 56 (.move (.tmp 0)) (v := .slice a0 m c0) (by kernel_rfl) (ex_mv (ev rfl h0)) ?_
  refine s_ex 1 57 (.call { callee := .builtin .len, args := #[(.tmp 56)], argTypes := #[52] }) (v := .int .i64 ((m : Nat) : Int)) (by kernel_rfl) (ex_len (ad := a0) (n := m) (c := c0) Ybaf.underlying52 (ev rfl rfl)) ?_
  refine s_ex 2 58 (.makeSlice 26 (.tmp 57) (.tmp 57)) (v := .slice (some ⟨wa.heap.size, 0, none⟩) m m) (by kernel_rfl) (ex_mk (u := .int .i64 ((m : Nat) : Int)) (u' := .int .i64 ((m : Nat) : Int)) (ev rfl rfl) (ev rfl rfl) (mk26 (by omega))) ?_
  refine s_ex 3 18 (.assign (.tmp 58)) (v := .slice (some ⟨wa.heap.size, 0, none⟩) m m) (by kernel_rfl) (ex_as (ev rfl rfl)) ?_
  exact s_end (by kernel_rfl) (hK _  ((((Same.refl.put 56 _).put 57 _).put 58 _).put 18 _) rfl)
set_option maxRecDepth 100000 in
set_option maxHeartbeats 400000 in
theorem f9 (a0 : Option Addr) (m c0 : Nat) (wa : World) (f : Nat → Value) (h0 : f 0 = .slice a0 m c0) (K : Act → World → Prop)
    (hK : ∀ (f' : Nat → Value), Same f f' [61, 60, 59] → f' 60 = .int .i64 ((m : Nat) : Int) → f' 61 = .int .i64 ((0 : Nat) : Int) → K (F4 f') (wa)) :
    Code.wp Ybaf.prog (headC (headC (dropC 7 l4))) (only K) (F4 f) wa := by
  refine reg4 (by kernel_rfl) ?_
  refine s_ex 0 59 (.move (.tmp 0)) (v := .slice a0 m c0) (by kernel_rfl) (ex_mv (ev rfl h0)) ?_
  refine s_ex 1 60 (.call { callee := .builtin .len, args := #[(.tmp 59)], argTypes := #[52] }) (v := .int .i64 ((m : Nat) : Int)) (by kernel_rfl) (ex_len (ad := a0) (n := m) (c := c0) Ybaf.underlying52 (ev rfl rfl)) ?_
  refine s_ex 2 61 (.move (.const (.int .i64 0))) (v := .int .i64 0) (by kernel_rfl) (ex_mv rfl) ?_
  exact s_end (by kernel_rfl) (hK _  (((Same.refl.put 59 _).put 60 _).put 61 _) rfl rfl)
set_option maxRecDepth 100000 in
set_option maxHeartbeats 400000 in
theorem f10 (i m : Nat) (wa : World) (f : Nat → Value) (h60 : f 60 = .int .i64 ((m : Nat) : Int)) (h61 : f 61 = .int .i64 ((i : Nat) : Int)) (K : Act → World → Prop)
    (hK : ∀ (f' : Nat → Value), Same f f' [62] → f' 62 = .bool (decide (i < m)) → K (F4 f') (wa)) :
    Code.wp Ybaf.prog (headC l4a) (only K) (F4 f) wa := by
  refine reg4 (by kernel_rfl) ?_
  refine s_ex 0 62 (.binOp .lss 3 (.tmp 61) (.tmp 60) 3) (v := .bool (decide (i < m))) (by kernel_rfl) (ex_bn (u := .int .i64 ((i : Nat) : Int)) (u' := .int .i64 ((m : Nat) : Int)) (ev rfl h61) (ev rfl h60) (lssI (by simp))) ?_
  exact s_end (by kernel_rfl) (hK _  (Same.refl.put 62 _) rfl)
set_option maxRecDepth 100000 in
set_option maxHeartbeats 400000 in
theorem f11 (i : Nat) (wa : World) (f : Nat → Value) (h61 : f 61 = .int .i64 ((i : Nat) : Int)) (K : Act → World → Prop)
    (hK : ∀ (f' : Nat → Value), Same f f' [19, 63] → f' 19 = .int .i64 ((i : Nat) : Int) → K (F4 f') (wa)) :
    Code.wp Ybaf.prog (headC (blkC (headC (dropC 2 l4a)))) (only K) (F4 f) wa := by
  refine reg4 (by kernel_rfl) ?_
  refine s_ex 0 63 (.move (.tmp 61)) (v := .int .i64 ((i : Nat) : Int)) (by kernel_rfl) (ex_mv (ev rfl h61)) ?_
  refine s_ex 1 19 (.assign (.tmp 63)) (v := .int .i64 ((i : Nat) : Int)) (by kernel_rfl) (ex_as (ev rfl rfl)) ?_
  exact s_end (by kernel_rfl) (hK _  ((Same.refl.put 63 _).put 19 _) rfl)
set_option maxRecDepth 100000 in
set_option maxHeartbeats 400000 in
theorem f12 (xb xo m c0 kb i k : Nat) (u : Value) (wa : World) (hi : i < m) (hk : wa.cell? ⟨xb, xo + i * 4, none⟩ = some (.int .u8 (k : Nat))) (hc : wa.cell? ⟨kb, i, none⟩ = some u) (hf : wa.frozen? ⟨kb, i, none⟩ = false) (f : Nat → Value) (h0 : f 0 = .slice (some ⟨xb, xo, none⟩) m c0) (h16 : f 16 = .slice (some ⟨kb, 0, none⟩) m m) (h19 : f 19 = .int .i64 ((i : Nat) : Int)) (K : Act → World → Prop)
    (hK : ∀ (f' : Nat → Value), Same f f' [72, 71, 70, 69, 68, 67, 66, 65, 64] → K (F4 f') (wa.setCell ⟨kb, i, none⟩ (.int .u8 ((knd k : Nat) : Int)))) :
    Code.wp Ybaf.prog (headC (dropC 1 (blkC (headC (dropC 2 l4a))))) (only K) (F4 f) wa := by
  refine reg4 (by kernel_rfl) ?_
  refine s_ex 0 64 (.move (.tmp 16)) (v := .slice (some ⟨kb, 0, none⟩) m m) (by kernel_rfl) (ex_mv (ev rfl h16)) ?_
  refine s_ex 1 65 (.move (.tmp 19)) (v := .int .i64 ((i : Nat) : Int)) (by kernel_rfl) (ex_mv (ev rfl h19)) ?_
  refine s_ex 2 66 (.move (.tmp 0)) (v := .slice (some ⟨xb, xo, none⟩) m c0) (by kernel_rfl) (ex_mv (ev rfl h0)) ?_
  refine s_ex 3 67 (.move (.tmp 19)) (v := .int .i64 ((i : Nat) : Int)) (by kernel_rfl) (ex_mv (ev rfl h19)) ?_
  refine s_ex 4 68 (.indexAddr 52 (.tmp 66) (.tmp 67)) (v := .pointer (some ⟨xb, xo + i * 4, none⟩)) (by kernel_rfl) (ex_ix (u := .slice (some ⟨xb, xo, none⟩) m c0) (i := .int .i64 ((i : Nat) : Int)) (ev rfl rfl) (ev rfl rfl) (ix52 hi)) ?_
  refine s_ex 5 69 (.fieldAddr 56 (.tmp 68) 0) (v := .pointer (some ⟨xb, xo + i * 4, none⟩)) (by kernel_rfl) (ex_fa (u := .pointer (some ⟨xb, xo + i * 4, none⟩)) (ev rfl rfl) (fa56_0)) ?_
  refine s_ex 6 70 (.load 5 (.tmp 69)) (v := .int .u8 ((k : Nat) : Int)) (by kernel_rfl) (ex_ld (u := .pointer (some ⟨xb, xo + i * 4, none⟩)) (ev rfl rfl) (ld5 hk)) ?_
  refine s_call 7 71 (.call { callee := .value (.func 12), args := #[(.tmp 70)], argTypes := #[5] }) (fn := 12) (args := #[.int .u8 ((k : Nat) : Int)]) (by kernel_rfl) (ex_fn1 (cf12 _) (ev rfl rfl)) (kindR) ?_
  rintro v x ⟨rfl, rfl⟩
  refine s_ex 8 72 (.indexAddr 53 (.tmp 64) (.tmp 65)) (v := .pointer (some ⟨kb, i, none⟩)) (by kernel_rfl) (ex_ix (u := .slice (some ⟨kb, 0, none⟩) m m) (i := .int .i64 ((i : Nat) : Int)) (ev rfl rfl) (ev rfl rfl) (ix53 hi)) ?_
  refine s_st 9 5 (.tmp 72) (.tmp 71) (p := .pointer (some ⟨kb, i, none⟩)) (q := .int .u8 ((knd k : Nat) : Int)) (by kernel_rfl) (ev rfl rfl) (ev rfl rfl) (st5 hc hf) ?_
  exact s_end (by kernel_rfl) (hK _  (((((((((Same.refl.put 64 _).put 65 _).put 66 _).put 67 _).put 68 _).put 69 _).put 70 _).put 71 _).put 72 _))
set_option maxRecDepth 100000 in
set_option maxHeartbeats 400000 in
theorem f14 (i m : Nat) (wa : World) (hi : i < m) (hm : m ≤ 256) (f : Nat → Value) (h61 : f 61 = .int .i64 ((i : Nat) : Int)) (K : Act → World → Prop)
    (hK : ∀ (f' : Nat → Value), Same f f' [61, 86] → f' 61 = .int .i64 ((i + 1 : Nat) : Int) → K (F4 f') (wa)) :
    Code.wp Ybaf.prog (dropC 3 l4a) (only K) (F4 f) wa := by
  refine reg4 (by kernel_rfl) ?_
  refine s_ex 0 86 (.binOp .add 3 (.tmp 61) (.const (.int .i64 1)) 3) (v := .int .i64 ((i + 1 : Nat) : Int)) (by kernel_rfl) (ex_bn (u := .int .i64 ((i : Nat) : Int)) (u' := .int .i64 1) (ev rfl h61) rfl (addI (by omega) (by omega) (by omega))) ?_
  refine s_ex 1 61 (.move (.tmp 86)) (v := .int .i64 ((i + 1 : Nat) : Int)) (by kernel_rfl) (ex_mv (ev rfl rfl)) ?_
  exact s_end (by kernel_rfl) (hK _  ((Same.refl.put 86 _).put 61 _) rfl)
set_option maxRecDepth 100000 in
set_option maxHeartbeats 400000 in
theorem f15 (wa : World) (f : Nat → Value)  (K : Act → World → Prop)
    (hK : ∀ (f' : Nat → Value), Same f f' [20, 87] → f' 20 = .slice (some ⟨wa.heap.size, 0, none⟩) 40 40 → K (F4 f') (wa.alloc (.cells (madeCells #[.int .u8 0] 40) 5))) :
    Code.wp Ybaf.prog (headC (dropC 8 l4)) (only K) (F4 f) wa := by
  refine reg4 (by kernel_rfl) ?_
  refine s_ex 0 87 (.makeSlice 53 (.const (.int .i64 40)) (.const (.int .i64 40))) (v := .slice (some ⟨wa.heap.size, 0, none⟩) 40 40) (by kernel_rfl) (ex_mk (u := .int .i64 40) (u' := .int .i64 40) rfl rfl (mk53 (n := 40) (by omega))) ?_
  refine s_ex 1 20 (.assign (.tmp 87)) (v := .slice (some ⟨wa.heap.size, 0, none⟩) 40 40) (by kernel_rfl) (ex_as (ev rfl rfl)) ?_
  exact s_end (by kernel_rfl) (hK _  ((Same.refl.put 87 _).put 20 _) rfl)
set_option maxRecDepth 100000 in
set_option maxHeartbeats 400000 in
theorem f16 (gp : Nat) (u : Value) (wa : World) (hc : wa.cell? ⟨gp, 0, none⟩ = some u) (hf : wa.frozen? ⟨gp, 0, none⟩ = false) (f : Nat → Value) (h20 : f 20 = .slice (some ⟨gp, 0, none⟩) 40 40) (K : Act → World → Prop)
    (hK : ∀ (f' : Nat → Value), Same f f' [89, 88] → K (F4 f') (wa.setCell ⟨gp, 0, none⟩ (.int .u8 96))) :
    Code.wp Ybaf.prog (headC (dropC 9 l4)) (only K) (F4 f) wa := by
  refine reg4 (by kernel_rfl) ?_
  refine s_ex 0 88 (.move (.tmp 20)) (v := .slice (some ⟨gp, 0, none⟩) 40 40) (by kernel_rfl) (ex_mv (ev rfl h20)) ?_
  refine s_ex 1 89 (.indexAddr 53 (.tmp 88) (.const (.int .i64 0))) (v := .pointer (some ⟨gp, 0, none⟩)) (by kernel_rfl) (ex_ix (u := .slice (some ⟨gp, 0, none⟩) 40 40) (i := .int .i64 0) (ev rfl rfl) rfl (ix53 (i := 0) (by omega))) ?_
  refine s_st 2 5 (.tmp 89) (.const (.int .u8 96)) (p := .pointer (some ⟨gp, 0, none⟩)) (q := .int .u8 96) (by kernel_rfl) (ev rfl rfl) rfl (st5 hc hf) ?_
  exact s_end (by kernel_rfl) (hK _  ((Same.refl.put 88 _).put 89 _))
set_option maxRecDepth 100000 in
set_option maxHeartbeats 400000 in
theorem f17 (gp py : Nat) (u : Value) (wa : World) (hc : wa.cell? ⟨gp, 4, none⟩ = some u) (hf : wa.frozen? ⟨gp, 4, none⟩ = false) (hp : py ≤ 65535) (f : Nat → Value) (h2 : f 2 = .int .u16 ((py : Nat) : Int)) (h20 : f 20 = .slice (some ⟨gp, 0, none⟩) 40 40) (K : Act → World → Prop)
    (hK : ∀ (f' : Nat → Value), Same f f' [94, 93, 92, 91, 90] → K (F4 f') (wa.setCell ⟨gp, 4, none⟩ (.int .u8 ((py / 256 : Nat) : Int)))) :
    Code.wp Ybaf.prog (headC (dropC 10 l4)) (only K) (F4 f) wa := by
  refine reg4 (by kernel_rfl) ?_
  refine s_ex 0 90 (.move (.tmp 20)) (v := .slice (some ⟨gp, 0, none⟩) 40 40) (by kernel_rfl) (ex_mv (ev rfl h20)) ?_
  refine s_ex 1 91 (.move (.tmp 2)) (v := .int .u16 ((py : Nat) : Int)) (by kernel_rfl) (ex_mv (ev rfl h2)) ?_
  refine s_ex 2 92 (.binOp .shr 24 (.tmp 91) (.const (.int .u64 8)) 58) (v := .int .u16 ((py / 256 : Nat) : Int)) (by kernel_rfl) (ex_bn (u := .int .u16 ((py : Nat) : Int)) (u' := .int .u64 8) (ev rfl rfl) rfl (shrH rfl)) ?_
  refine s_ex 3 93 (.convert 24 5 (.tmp 92)) (v := .int .u8 ((py / 256 : Nat) : Int)) (by kernel_rfl) (ex_cv (u := .int .u16 ((py / 256 : Nat) : Int)) (ev rfl rfl) (cv245 (by omega))) ?_
  refine s_ex 4 94 (.indexAddr 53 (.tmp 90) (.const (.int .i64 4))) (v := .pointer (some ⟨gp, 4, none⟩)) (by kernel_rfl) (ex_ix (u := .slice (some ⟨gp, 0, none⟩) 40 40) (i := .int .i64 4) (ev rfl rfl) rfl (ix53 (i := 4) (by omega))) ?_
  refine s_st 5 5 (.tmp 94) (.tmp 93) (p := .pointer (some ⟨gp, 4, none⟩)) (q := .int .u8 ((py / 256 : Nat) : Int)) (by kernel_rfl) (ev rfl rfl) (ev rfl rfl) (st5 hc hf) ?_
  exact s_end (by kernel_rfl) (hK _  (((((Same.refl.put 90 _).put 91 _).put 92 _).put 93 _).put 94 _))
set_option maxRecDepth 100000 in
set_option maxHeartbeats 400000 in
theorem f18 (gp py : Nat) (u : Value) (wa : World) (hc : wa.cell? ⟨gp, 5, none⟩ = some u) (hf : wa.frozen? ⟨gp, 5, none⟩ = false) (f : Nat → Value) (h2 : f 2 = .int .u16 ((py : Nat) : Int)) (h20 : f 20 = .slice (some ⟨gp, 0, none⟩) 40 40) (K : Act → World → Prop)
    (hK : ∀ (f' : Nat → Value), Same f f' [98, 97, 96, 95] → K (F4 f') (wa.setCell ⟨gp, 5, none⟩ (.int .u8 ((py % 256 : Nat) : Int)))) :
    Code.wp Ybaf.prog (headC (dropC 11 l4)) (only K) (F4 f) wa := by
  refine reg4 (by kernel_rfl) ?_
  refine s_ex 0 95 (.move (.tmp 20)) (v := .slice (some ⟨gp, 0, none⟩) 40 40) (by kernel_rfl) (ex_mv (ev rfl h20)) ?_
  refine s_ex 1 96 (.move (.tmp 2)) (v := .int .u16 ((py : Nat) : Int)) (by kernel_rfl) (ex_mv (ev rfl h2)) ?_
  refine s_ex 2 97 (.convert 24 5 (.tmp 96)) (v := .int .u8 ((py % 256 : Nat) : Int)) (by kernel_rfl) (ex_cv (u := .int .u16 ((py : Nat) : Int)) (ev rfl rfl) (cv245 rfl)) ?_
  refine s_ex 3 98 (.indexAddr 53 (.tmp 95) (.const (.int .i64 5))) (v := .pointer (some ⟨gp, 5, none⟩)) (by kernel_rfl) (ex_ix (u := .slice (some ⟨gp, 0, none⟩) 40 40) (i := .int .i64 5) (ev rfl rfl) rfl (ix53 (i := 5) (by omega))) ?_
  refine s_st 4 5 (.tmp 98) (.tmp 97) (p := .pointer (some ⟨gp, 5, none⟩)) (q := .int .u8 ((py % 256 : Nat) : Int)) (by kernel_rfl) (ev rfl rfl) (ev rfl rfl) (st5 hc hf) ?_
  exact s_end (by kernel_rfl) (hK _  ((((Same.refl.put 95 _).put 96 _).put 97 _).put 98 _))
set_option maxRecDepth 100000 in
set_option maxHeartbeats 400000 in
theorem f19 (wa : World) (f : Nat → Value)  (K : Act → World → Prop)
    (hK : ∀ (f' : Nat → Value), Same f f' [21, 99] → f' 21 = .slice (some ⟨wa.heap.size, 0, none⟩) 16 16 → K (F4 f') (wa.alloc (.cells (madeCells #[.int .u8 0] 16) 5))) :
    Code.wp Ybaf.prog (headC (dropC 12 l4)) (only K) (F4 f) wa := by
  refine reg4 (by kernel_rfl) ?_
  refine s_ex 0 99 (.makeSlice 53 (.const (.int .i64 16)) (.const (.int .i64 16))) (v := .slice (some ⟨wa.heap.size, 0, none⟩) 16 16) (by kernel_rfl) (ex_mk (u := .int .i64 16) (u' := .int .i64 16) rfl rfl (mk53 (n := 16) (by omega))) ?_
  refine s_ex 1 21 (.assign (.tmp 99)) (v := .slice (some ⟨wa.heap.size, 0, none⟩) 16 16) (by kernel_rfl) (ex_as (ev rfl rfl)) ?_
  exact s_end (by kernel_rfl) (hK _  ((Same.refl.put 99 _).put 21 _) rfl)
set_option maxRecDepth 100000 in
set_option maxHeartbeats 400000 in
theorem f20 (wa : World) (f : Nat → Value)  (K : Act → World → Prop)
    (hK : ∀ (f' : Nat → Value), Same f f' [22, 100] → f' 22 = .slice (some ⟨wa.heap.size, 0, none⟩) 16 16 → K (F4 f') (wa.alloc (.cells (madeCells #[.int .u8 0] 16) 5))) :
    Code.wp Ybaf.prog (headC (dropC 13 l4)) (only K) (F4 f) wa := by
  refine reg4 (by kernel_rfl) ?_
  refine s_ex 0 100 (.makeSlice 53 (.const (.int .i64 16)) (.const (.int .i64 16))) (v := .slice (some ⟨wa.heap.size, 0, none⟩) 16 16) (by kernel_rfl) (ex_mk (u := .int .i64 16) (u' := .int .i64 16) rfl rfl (mk53 (n := 16) (by omega))) ?_
  refine s_ex 1 22 (.assign (.tmp 100)) (v := .slice (some ⟨wa.heap.size, 0, none⟩) 16 16) (by kernel_rfl) (ex_as (ev rfl rfl)) ?_
  exact s_end (by kernel_rfl) (hK _  ((Same.refl.put 100 _).put 22 _) rfl)
set_option maxRecDepth 100000 in
set_option maxHeartbeats 400000 in
theorem f21 (wa : World) (f : Nat → Value)  (K : Act → World → Prop)
    (hK : ∀ (f' : Nat → Value), Same f f' [23] → f' 23 = .int .i64 ((0 : Nat) : Int) → K (F4 f') (wa)) :
    Code.wp Ybaf.prog (headC (headC (dropC 14 l4))) (only K) (F4 f) wa := by
  refine reg4 (by kernel_rfl) ?_
  refine s_ex 0 23 (.assign (.const (.int .i64 0))) (v := .int .i64 0) (by kernel_rfl) (ex_as rfl) ?_
  exact s_end (by kernel_rfl) (hK _  (Same.refl.put 23 _) rfl)
set_option maxRecDepth 100000 in
set_option maxHeartbeats 400000 in
theorem f22 (j : Nat) (wa : World) (f : Nat → Value) (h23 : f 23 = .int .i64 ((j : Nat) : Int)) (K : Act → World → Prop)
    (hK : ∀ (f' : Nat → Value), Same f f' [102, 101] → f' 102 = .bool (decide (j < 16)) → K (F4 f') (wa)) :
    Code.wp Ybaf.prog (headC (headC l4b)) (only K) (F4 f) wa := by
  refine reg4 (by kernel_rfl) ?_
  refine s_ex 0 101 (.move (.tmp 23)) (v := .int .i64 ((j : Nat) : Int)) (by kernel_rfl) (ex_mv (ev rfl h23)) ?_
  refine s_ex 1 102 (.binOp .lss 3 (.tmp 101) (.const (.int .i64 16)) 3) (v := .bool (decide (j < 16))) (by kernel_rfl) (ex_bn (u := .int .i64 ((j : Nat) : Int)) (u' := .int .i64 16) (ev rfl rfl) rfl (lssI (by simp; omega))) ?_
  exact s_end (by kernel_rfl) (hK _  ((Same.refl.put 101 _).put 102 _) rfl)
set_option maxRecDepth 100000 in
set_option maxHeartbeats 400000 in
theorem f24 (seed j rb : Nat) (u : Value) (wa : World) (hc : wa.cell? ⟨rb, j, none⟩ = some u) (hf : wa.frozen? ⟨rb, j, none⟩ = false) (hj : j < 16) (f : Nat → Value) (h1 : f 1 = .int .u8 ((seed : Nat) : Int)) (h21 : f 21 = .slice (some ⟨rb, 0, none⟩) 16 16) (h23 : f 23 = .int .i64 ((j : Nat) : Int)) (K : Act → World → Prop)
    (hK : ∀ (f' : Nat → Value), Same f f' [111, 110, 109, 108, 107, 106, 105] → K (F4 f') (wa.setCell ⟨rb, j, none⟩ (.int .u8 (((seed + j) % 256 : Nat) : Int)))) :
    Code.wp Ybaf.prog (headC (blkC (headC (dropC 1 l4b)))) (only K) (F4 f) wa := by
  refine reg4 (by kernel_rfl) ?_
  refine s_ex 0 105 (.move (.tmp 21)) (v := .slice (some ⟨rb, 0, none⟩) 16 16) (by kernel_rfl) (ex_mv (ev rfl h21)) ?_
  refine s_ex 1 106 (.move (.tmp 23)) (v := .int .i64 ((j : Nat) : Int)) (by kernel_rfl) (ex_mv (ev rfl h23)) ?_
  refine s_ex 2 107 (.move (.tmp 1)) (v := .int .u8 ((seed : Nat) : Int)) (by kernel_rfl) (ex_mv (ev rfl h1)) ?_
  refine s_ex 3 108 (.move (.tmp 23)) (v := .int .i64 ((j : Nat) : Int)) (by kernel_rfl) (ex_mv (ev rfl h23)) ?_
  refine s_ex 4 109 (.convert 3 5 (.tmp 108)) (v := .int .u8 ((j : Nat) : Int)) (by kernel_rfl) (ex_cv (u := .int .i64 ((j : Nat) : Int)) (ev rfl rfl) (cv35 (by omega))) ?_
  refine s_ex 5 110 (.binOp .add 5 (.tmp 107) (.tmp 109) 5) (v := .int .u8 (((seed + j) % 256 : Nat) : Int)) (by kernel_rfl) (ex_bn (u := .int .u8 ((seed : Nat) : Int)) (u' := .int .u8 ((j : Nat) : Int)) (ev rfl rfl) (ev rfl rfl) (addU rfl)) ?_
  refine s_ex 6 111 (.indexAddr 53 (.tmp 105) (.tmp 106)) (v := .pointer (some ⟨rb, j, none⟩)) (by kernel_rfl) (ex_ix (u := .slice (some ⟨rb, 0, none⟩) 16 16) (i := .int .i64 ((j : Nat) : Int)) (ev rfl rfl) (ev rfl rfl) (ix53 hj)) ?_
  refine s_st 7 5 (.tmp 111) (.tmp 110) (p := .pointer (some ⟨rb, j, none⟩)) (q := .int .u8 (((seed + j) % 256 : Nat) : Int)) (by kernel_rfl) (ev rfl rfl) (ev rfl rfl) (st5 hc hf) ?_
  exact s_end (by kernel_rfl) (hK _  (((((((Same.refl.put 105 _).put 106 _).put 107 _).put 108 _).put 109 _).put 110 _).put 111 _))
set_option maxRecDepth 100000 in
set_option maxHeartbeats 400000 in
theorem f25 (seed j db : Nat) (u : Value) (wa : World) (hc : wa.cell? ⟨db, j, none⟩ = some u) (hf : wa.frozen? ⟨db, j, none⟩ = false) (hj : j < 16) (f : Nat → Value) (h1 : f 1 = .int .u8 ((seed : Nat) : Int)) (h22 : f 22 = .slice (some ⟨db, 0, none⟩) 16 16) (h23 : f 23 = .int .i64 ((j : Nat) : Int)) (K : Act → World → Prop)
    (hK : ∀ (f' : Nat → Value), Same f f' [120, 119, 118, 117, 116, 115, 114, 113, 112] → K (F4 f') (wa.setCell ⟨db, j, none⟩ (.int .u8 (((seed * 3 + j + 1) % 256 : Nat) : Int)))) :
    Code.wp Ybaf.prog (headC (dropC 1 (blkC (headC (dropC 1 l4b))))) (only K) (F4 f) wa := by
  refine reg4 (by kernel_rfl) ?_
  refine s_ex 0 112 (.move (.tmp 22)) (v := .slice (some ⟨db, 0, none⟩) 16 16) (by kernel_rfl) (ex_mv (ev rfl h22)) ?_
  refine s_ex 1 113 (.move (.tmp 23)) (v := .int .i64 ((j : Nat) : Int)) (by kernel_rfl) (ex_mv (ev rfl h23)) ?_
  refine s_ex 2 114 (.move (.tmp 1)) (v := .int .u8 ((seed : Nat) : Int)) (by kernel_rfl) (ex_mv (ev rfl h1)) ?_
  refine s_ex 3 115 (.binOp .mul 5 (.tmp 114) (.const (.int .u8 3)) 5) (v := .int .u8 ((seed * 3 % 256 : Nat) : Int)) (by kernel_rfl) (ex_bn (u := .int .u8 ((seed : Nat) : Int)) (u' := .int .u8 3) (ev rfl rfl) rfl (mulU rfl)) ?_
  refine s_ex 4 116 (.move (.tmp 23)) (v := .int .i64 ((j : Nat) : Int)) (by kernel_rfl) (ex_mv (ev rfl h23)) ?_
  refine s_ex 5 117 (.convert 3 5 (.tmp 116)) (v := .int .u8 ((j : Nat) : Int)) (by kernel_rfl) (ex_cv (u := .int .i64 ((j : Nat) : Int)) (ev rfl rfl) (cv35 (by omega))) ?_
  refine s_ex 6 118 (.binOp .add 5 (.tmp 115) (.tmp 117) 5) (v := .int .u8 (((seed * 3 + j) % 256 : Nat) : Int)) (by kernel_rfl) (ex_bn (u := .int .u8 ((seed * 3 % 256 : Nat) : Int)) (u' := .int .u8 ((j : Nat) : Int)) (ev rfl rfl) (ev rfl rfl) (addU (by omega))) ?_
  refine s_ex 7 119 (.binOp .add 5 (.tmp 118) (.const (.int .u8 1)) 5) (v := .int .u8 (((seed * 3 + j + 1) % 256 : Nat) : Int)) (by kernel_rfl) (ex_bn (u := .int .u8 (((seed * 3 + j) % 256 : Nat) : Int)) (u' := .int .u8 1) (ev rfl rfl) rfl (addU (b := 1) (by omega))) ?_
  refine s_ex 8 120 (.indexAddr 53 (.tmp 112) (.tmp 113)) (v := .pointer (some ⟨db, j, none⟩)) (by kernel_rfl) (ex_ix (u := .slice (some ⟨db, 0, none⟩) 16 16) (i := .int .i64 ((j : Nat) : Int)) (ev rfl rfl) (ev rfl rfl) (ix53 hj)) ?_
  refine s_st 9 5 (.tmp 120) (.tmp 119) (p := .pointer (some ⟨db, j, none⟩)) (q := .int .u8 (((seed * 3 + j + 1) % 256 : Nat) : Int)) (by kernel_rfl) (ev rfl rfl) (ev rfl rfl) (st5 hc hf) ?_
  exact s_end (by kernel_rfl) (hK _  (((((((((Same.refl.put 112 _).put 113 _).put 114 _).put 115 _).put 116 _).put 117 _).put 118 _).put 119 _).put 120 _))
set_option maxRecDepth 100000 in
set_option maxHeartbeats 400000 in
theorem f26 (rb gp j x : Nat) (u : Value) (wa : World) (hc : wa.cell? ⟨gp, 8 + j, none⟩ = some u) (hf : wa.frozen? ⟨gp, 8 + j, none⟩ = false) (hj : j < 16) (hx : wa.cell? ⟨rb, j, none⟩ = some (.int .u8 (x : Nat))) (f : Nat → Value) (h20 : f 20 = .slice (some ⟨gp, 0, none⟩) 40 40) (h21 : f 21 = .slice (some ⟨rb, 0, none⟩) 16 16) (h23 : f 23 = .int .i64 ((j : Nat) : Int)) (K : Act → World → Prop)
    (hK : ∀ (f' : Nat → Value), Same f f' [128, 127, 126, 125, 124, 123, 122, 121] → K (F4 f') (wa.setCell ⟨gp, 8 + j, none⟩ (.int .u8 ((x : Nat) : Int)))) :
    Code.wp Ybaf.prog (headC (dropC 2 (blkC (headC (dropC 1 l4b))))) (only K) (F4 f) wa := by
  refine reg4 (by kernel_rfl) ?_
  refine s_ex 0 121 (.move (.tmp 20)) (v := .slice (some ⟨gp, 0, none⟩) 40 40) (by kernel_rfl) (ex_mv (ev rfl h20)) ?_
  refine s_ex 1 122 (.move (.tmp 23)) (v := .int .i64 ((j : Nat) : Int)) (by kernel_rfl) (ex_mv (ev rfl h23)) ?_
  refine s_ex 2 123 (.binOp .add 3 (.const (.int .i64 8)) (.tmp 122) 3) (v := .int .i64 ((8 + j : Nat) : Int)) (by kernel_rfl) (ex_bn (u := .int .i64 8) (u' := .int .i64 ((j : Nat) : Int)) rfl (ev rfl rfl) (addI (by omega) (by omega) (by omega))) ?_
  refine s_ex 3 124 (.move (.tmp 21)) (v := .slice (some ⟨rb, 0, none⟩) 16 16) (by kernel_rfl) (ex_mv (ev rfl h21)) ?_
  refine s_ex 4 125 (.move (.tmp 23)) (v := .int .i64 ((j : Nat) : Int)) (by kernel_rfl) (ex_mv (ev rfl h23)) ?_
  refine s_ex 5 126 (.indexAddr 53 (.tmp 124) (.tmp 125)) (v := .pointer (some ⟨rb, j, none⟩)) (by kernel_rfl) (ex_ix (u := .slice (some ⟨rb, 0, none⟩) 16 16) (i := .int .i64 ((j : Nat) : Int)) (ev rfl rfl) (ev rfl rfl) (ix53 hj)) ?_
  refine s_ex 6 127 (.load 5 (.tmp 126)) (v := .int .u8 ((x : Nat) : Int)) (by kernel_rfl) (ex_ld (u := .pointer (some ⟨rb, j, none⟩)) (ev rfl rfl) (ld5 hx)) ?_
  refine s_ex 7 128 (.indexAddr 53 (.tmp 121) (.tmp 123)) (v := .pointer (some ⟨gp, 8 + j, none⟩)) (by kernel_rfl) (ex_ix (u := .slice (some ⟨gp, 0, none⟩) 40 40) (i := .int .i64 ((8 + j : Nat) : Int)) (ev rfl rfl) (ev rfl rfl) (ix53 (by omega))) ?_
  refine s_st 8 5 (.tmp 128) (.tmp 127) (p := .pointer (some ⟨gp, 8 + j, none⟩)) (q := .int .u8 ((x : Nat) : Int)) (by kernel_rfl) (ev rfl rfl) (ev rfl rfl) (st5 hc hf) ?_
  exact s_end (by kernel_rfl) (hK _  ((((((((Same.refl.put 121 _).put 122 _).put 123 _).put 124 _).put 125 _).put 126 _).put 127 _).put 128 _))
set_option maxRecDepth 100000 in
set_option maxHeartbeats 400000 in
theorem f27 (db gp j x : Nat) (u : Value) (wa : World) (hc : wa.cell? ⟨gp, 24 + j, none⟩ = some u) (hf : wa.frozen? ⟨gp, 24 + j, none⟩ = false) (hj : j < 16) (hx : wa.cell? ⟨db, j, none⟩ = some (.int .u8 (x : Nat))) (f : Nat → Value) (h20 : f 20 = .slice (some ⟨gp, 0, none⟩) 40 40) (h22 : f 22 = .slice (some ⟨db, 0, none⟩) 16 16) (h23 : f 23 = .int .i64 ((j : Nat) : Int)) (K : Act → World → Prop)
    (hK : ∀ (f' : Nat → Value), Same f f' [136, 135, 134, 133, 132, 131, 130, 129] → K (F4 f') (wa.setCell ⟨gp, 24 + j, none⟩ (.int .u8 ((x : Nat) : Int)))) :
    Code.wp Ybaf.prog (dropC 3 (blkC (headC (dropC 1 l4b)))) (only K) (F4 f) wa := by
  refine reg4 (by kernel_rfl) ?_
  refine s_ex 0 129 (.move (.tmp 20)) (v := .slice (some ⟨gp, 0, none⟩) 40 40) (by kernel_rfl) (ex_mv (ev rfl h20)) ?_
  refine s_ex 1 130 (.move (.tmp 23)) (v := .int .i64 ((j : Nat) : Int)) (by kernel_rfl) (ex_mv (ev rfl h23)) ?_
  refine s_ex 2 131 (.binOp .add 3 (.const (.int .i64 24)) (.tmp 130) 3) (v := .int .i64 ((24 + j : Nat) : Int)) (by kernel_rfl) (ex_bn (u := .int .i64 24) (u' := .int .i64 ((j : Nat) : Int)) rfl (ev rfl rfl) (addI (by omega) (by omega) (by omega))) ?_
  refine s_ex 3 132 (.move (.tmp 22)) (v := .slice (some ⟨db, 0, none⟩) 16 16) (by kernel_rfl) (ex_mv (ev rfl h22)) ?_
  refine s_ex 4 133 (.move (.tmp 23)) (v := .int .i64 ((j : Nat) : Int)) (by kernel_rfl) (ex_mv (ev rfl h23)) ?_
  refine s_ex 5 134 (.indexAddr 53 (.tmp 132) (.tmp 133)) (v := .pointer (some ⟨db, j, none⟩)) (by kernel_rfl) (ex_ix (u := .slice (some ⟨db, 0, none⟩) 16 16) (i := .int .i64 ((j : Nat) : Int)) (ev rfl rfl) (ev rfl rfl) (ix53 hj)) ?_
  refine s_ex 6 135 (.load 5 (.tmp 134)) (v := .int .u8 ((x : Nat) : Int)) (by kernel_rfl) (ex_ld (u := .pointer (some ⟨db, j, none⟩)) (ev rfl rfl) (ld5 hx)) ?_
  refine s_ex 7 136 (.indexAddr 53 (.tmp 129) (.tmp 131)) (v := .pointer (some ⟨gp, 24 + j, none⟩)) (by kernel_rfl) (ex_ix (u := .slice (some ⟨gp, 0, none⟩) 40 40) (i := .int .i64 ((24 + j : Nat) : Int)) (ev rfl rfl) (ev rfl rfl) (ix53 (by omega))) ?_
  refine s_st 8 5 (.tmp 136) (.tmp 135) (p := .pointer (some ⟨gp, 24 + j, none⟩)) (q := .int .u8 ((x : Nat) : Int)) (by kernel_rfl) (ev rfl rfl) (ev rfl rfl) (st5 hc hf) ?_
  exact s_end (by kernel_rfl) (hK _  ((((((((Same.refl.put 129 _).put 130 _).put 131 _).put 132 _).put 133 _).put 134 _).put 135 _).put 136 _))
set_option maxRecDepth 100000 in
set_option maxHeartbeats 400000 in
theorem f23 (j : Nat) (wa : World) (hj : j < 16) (f : Nat → Value) (h23 : f 23 = .int .i64 ((j : Nat) : Int)) (K : Act → World → Prop)
    (hK : ∀ (f' : Nat → Value), Same f f' [23, 104, 103] → f' 23 = .int .i64 ((j + 1 : Nat) : Int) → K (F4 f') (wa)) :
    Code.wp Ybaf.prog (dropC 2 l4b) (only K) (F4 f) wa := by
  refine reg4 (by kernel_rfl) ?_
  refine s_ex 0 103 (.move (.tmp 23)) (v := .int .i64 ((j : Nat) : Int)) (by kernel_rfl) (ex_mv (ev rfl h23)) ?_
  refine s_ex 1 104 (.binOp .add 3 (.tmp 103) (.const (.int .i64 1)) 3) (v := .int .i64 ((j + 1 : Nat) : Int)) (by kernel_rfl) (ex_bn (u := .int .i64 ((j : Nat) : Int)) (u' := .int .i64 1) (ev rfl rfl) rfl (addI (by omega) (by omega) (by omega))) ?_
  refine s_ex 2 23 (.assign (.tmp 104)) (v := .int .i64 ((j + 1 : Nat) : Int)) (by kernel_rfl) (ex_as (ev rfl rfl)) ?_
  exact s_end (by kernel_rfl) (hK _  (((Same.refl.put 103 _).put 104 _).put 23 _) rfl)
set_option maxRecDepth 100000 in
set_option maxHeartbeats 400000 in
theorem f28 (fi : Nat) (wa : World) (f : Nat → Value) (h15 : f 15 = .int .u8 ((fi : Nat) : Int)) (K : Act → World → Prop)
    (hK : ∀ (f' : Nat → Value), Same f f' [24, 137] → f' 24 = .int .u8 ((fi : Nat) : Int) → K (F4 f') (wa)) :
    Code.wp Ybaf.prog (headC (dropC 15 l4)) (only K) (F4 f) wa := by
  refine reg4 (by kernel_rfl) ?_
  refine s_ex 0 137 (.move (.tmp 15)) (v := .int .u8 ((fi : Nat) : Int)) (by kernel_rfl) (ex_mv (ev rfl h15)) ?_
  refine s_ex 1 24 (.assign (.tmp 137)) (v := .int .u8 ((fi : Nat) : Int)) (by kernel_rfl) (ex_as (ev rfl rfl)) ?_
  exact s_end (by kernel_rfl) (hK _  ((Same.refl.put 137 _).put 24 _) rfl)
set_option maxRecDepth 100000 in
set_option maxHeartbeats 400000 in
theorem f29 (a0 : Option Addr) (m c0 : Nat) (wa : World) (f : Nat → Value) (h0 : f 0 = .slice a0 m c0) (K : Act → World → Prop)
    (hK : ∀ (f' : Nat → Value), Same f f' [140, 139, 138] → f' 140 = .bool (decide (0 < m)) → K (F4 f') (wa)) :
    Code.wp Ybaf.prog (headC (headC (dropC 16 l4))) (only K) (F4 f) wa := by
  refine reg4 (by kernel_rfl) ?_
  refine s_ex 0 138 (.move (.tmp 0)) (v := .slice a0 m c0) (by kernel_rfl) (ex_mv (ev rfl h0)) ?_
  refine s_ex 1 139 (.call { callee := .builtin .len, args := #[(.tmp 138)], argTypes := #[52] }) (v := .int .i64 ((m : Nat) : Int)) (by kernel_rfl) (ex_len (ad := a0) (n := m) (c := c0) Ybaf.underlying52 (ev rfl rfl)) ?_
  refine s_ex 2 140 (.binOp .gtr 3 (.tmp 139) (.const (.int .i64 0)) 3) (v := .bool (decide (0 < m))) (by kernel_rfl) (ex_bn (u := .int .i64 ((m : Nat) : Int)) (u' := .int .i64 0) (ev rfl rfl) rfl (gtrI (by simp))) ?_
  exact s_end (by kernel_rfl) (hK _  (((Same.refl.put 138 _).put 139 _).put 140 _) rfl)
set_option maxRecDepth 100000 in
set_option maxHeartbeats 400000 in
theorem f30 (kb m k : Nat) (wa : World) (hm : 0 < m) (hk : wa.cell? ⟨kb, 0, none⟩ = some (.int .u8 (k : Nat))) (f : Nat → Value) (h16 : f 16 = .slice (some ⟨kb, 0, none⟩) m m) (K : Act → World → Prop)
    (hK : ∀ (f' : Nat → Value), Same f f' [24, 143, 142, 141] → f' 24 = .int .u8 ((k : Nat) : Int) → K (F4 f') (wa)) :
    Code.wp Ybaf.prog (thnC (tailC (headC (dropC 16 l4)))) (only K) (F4 f) wa := by
  refine reg4 (by kernel_rfl) ?_
  refine s_ex 0 141 (.move (.tmp 16)) (v := .slice (some ⟨kb, 0, none⟩) m m) (by kernel_rfl) (ex_mv (ev rfl h16)) ?_
  refine s_ex 1 142 (.indexAddr 53 (.tmp 141) (.const (.int .i64 0))) (v := .pointer (some ⟨kb, 0, none⟩)) (by kernel_rfl) (ex_ix (u := .slice (some ⟨kb, 0, none⟩) m m) (i := .int .i64 0) (ev rfl rfl) rfl (ix53 (i := 0) hm)) ?_
  refine s_ex 2 143 (.load 5 (.tmp 142)) (v := .int .u8 ((k : Nat) : Int)) (by kernel_rfl) (ex_ld (u := .pointer (some ⟨kb, 0, none⟩)) (ev rfl rfl) (ld5 hk)) ?_
  refine s_ex 3 24 (.assign (.tmp 143)) (v := .int .u8 ((k : Nat) : Int)) (by kernel_rfl) (ex_as (ev rfl rfl)) ?_
  exact s_end (by kernel_rfl) (hK _  ((((Same.refl.put 141 _).put 142 _).put 143 _).put 24 _) rfl)
set_option maxRecDepth 100000 in
set_option maxHeartbeats 400000 in
theorem f31 (gp k : Nat) (u : Value) (wa : World) (hc : wa.cell? ⟨gp, 6, none⟩ = some u) (hf : wa.frozen? ⟨gp, 6, none⟩ = false) (f : Nat → Value) (h20 : f 20 = .slice (some ⟨gp, 0, none⟩) 40 40) (h24 : f 24 = .int .u8 ((k : Nat) : Int)) (K : Act → World → Prop)
    (hK : ∀ (f' : Nat → Value), Same f f' [146, 145, 144] → K (F4 f') (wa.setCell ⟨gp, 6, none⟩ (.int .u8 ((k : Nat) : Int)))) :
    Code.wp Ybaf.prog (headC (dropC 17 l4)) (only K) (F4 f) wa := by
  refine reg4 (by kernel_rfl) ?_
  refine s_ex 0 144 (.move (.tmp 20)) (v := .slice (some ⟨gp, 0, none⟩) 40 40) (by kernel_rfl) (ex_mv (ev rfl h20)) ?_
  refine s_ex 1 145 (.move (.tmp 24)) (v := .int .u8 ((k : Nat) : Int)) (by kernel_rfl) (ex_mv (ev rfl h24)) ?_
  refine s_ex 2 146 (.indexAddr 53 (.tmp 144) (.const (.int .i64 6))) (v := .pointer (some ⟨gp, 6, none⟩)) (by kernel_rfl) (ex_ix (u := .slice (some ⟨gp, 0, none⟩) 40 40) (i := .int .i64 6) (ev rfl rfl) rfl (ix53 (i := 6) (by omega))) ?_
  refine s_st 3 5 (.tmp 146) (.tmp 145) (p := .pointer (some ⟨gp, 6, none⟩)) (q := .int .u8 ((k : Nat) : Int)) (by kernel_rfl) (ev rfl rfl) (ev rfl rfl) (st5 hc hf) ?_
  exact s_end (by kernel_rfl) (hK _  (((Same.refl.put 144 _).put 145 _).put 146 _))
end Go.Proofs.YbulkblsgFmt

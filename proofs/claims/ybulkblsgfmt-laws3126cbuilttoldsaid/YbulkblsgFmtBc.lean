import Derived.Test.YbulkblsgFmtBb
namespace Go.Proofs.YbulkblsgFmt
open Go.RowKit Go.Extern.Stop Go.Stop Go.Extern
set_option linter.unusedVariables false
set_option linter.unusedSimpArgs false
theorem newE.mono {B : Nat} {w w' : World} {er : Value} (h : newE B w er) (hb : ∀ k, k < w.heap.size → w'.heap[k]? = w.heap[k]?) : newE B w' er := by
  obtain ⟨bb, cs, t, h1, h2, h3⟩ := h
  exact ⟨bb, cs, t, h1, h2, by rw [hb bb (Array.getElem?_eq_some_iff.1 h3).1]; exact h3⟩
theorem Res.mono {b off n c : Nat} {C : Nat → Nat} {zp : Option Addr} {ev : Value} {X0 : Nat} {w w' : World} {pk : Array Value} {ok : Bool} {er : Value} (h : Res b off n c C zp ev X0 w pk ok er) (hb : ∀ k, k < w.heap.size → w'.heap[k]? = w.heap[k]?) : Res b off n c C zp ev X0 w' pk ok er := by
  unfold Res at h ⊢
  split at h
  · rename_i e; rw [if_pos e]; exact ⟨h.1, h.2.1, h.2.2.mono hb⟩
  · rename_i e; rw [if_neg e]
    split at h
    · rename_i e2; exact h
    · rename_i e2; exact ⟨h.1, h.2.1, h.2.2.mono hb⟩
    · rename_i o fg e2
      split at h
      · rename_i e3; rw [if_pos e3]; exact ⟨h.1, h.2.1, h.2.2.mono hb⟩
      · rename_i e3; rw [if_neg e3]
        split at h
        · rename_i e4; rw [if_pos e4]; exact h
        · rename_i e4; rw [if_neg e4]
          split at h
          · rename_i e5; rw [if_pos e5]; exact ⟨h.1, h.2.1, h.2.2.mono hb⟩
          · rename_i e5; rw [if_neg e5]; exact h
theorem Res.form {b off n c : Nat} {C : Nat → Nat} {zp : Option Addr} {ev : Value} {X0 : Nat} {w : World} {pk : Array Value} {ok : Bool} {er : Value} (h : Res b off n c C zp ev X0 w pk ok er) : ∃ (h1 l1 : Int) (p : Option Addr) (h2 l2 : Int) (q t : Option Addr) (tn tc : Nat) (len : Int), pk = pkt h1 l1 p h2 l2 q t tn tc len := by
  have tf : ∀ o len, ∃ (h1 l1 : Int) (p : Option Addr) (h2 l2 : Int) (q t : Option Addr) (tn tc : Nat) (len' : Int), tcpk b off n c C zp o len = pkt h1 l1 p h2 l2 q t tn tc len' := fun o len => by
    unfold tcpk
    split
    · exact ⟨_, _, _, _, _, _, _, _, _, _, rfl⟩
    · exact ⟨_, _, _, _, _, _, _, _, _, _, rfl⟩
  unfold Res at h
  split at h
  · exact ⟨_, _, _, _, _, _, _, _, _, _, h.1⟩
  · split at h
    · exact ⟨_, _, _, _, _, _, _, _, _, _, h.1⟩
    · exact ⟨_, _, _, _, _, _, _, _, _, _, h.1⟩
    · split at h
      · rw [h.1]; exact tf _ _
      · split at h
        · rw [h.1]; exact tf _ _
        · split at h
          · rw [h.1]; exact tf _ _
          · rw [h.1]; exact tf _ _
theorem eqR {v1 v2 : Value} {s : ByteArray} {w : World} (h1 : (convert 53 9 v1).run Ybaf.prog w = .ok (.string s) w) (h2 : (convert 53 9 v2).run Ybaf.prog w = .ok (.string s) w) : Calls Ybaf.prog 18 #[v1, v2] w fun e w' => ∃ v, e = .returned v ∧ (v = .bool true ∧ w' = w) :=
  (equal_any v1 v2 s w h1 h2).mono fun _ _ ⟨h1, h2⟩ => ⟨_, h1, rfl, h2⟩
theorem zeroR {w : World} : Calls Ybaf.prog 15 #[.agg zpk] w fun e w' => ∃ v, e = .returned v ∧ (v = .bool true ∧ Below w.heap.size w w') :=
  (zero_any w).mono fun _ _ ⟨h1, h2⟩ => ⟨_, h1, rfl, h2⟩
theorem adsR {args : Array Value} {w : World} (h : Calls Ybaf.prog 17 args w fun e w' => e = .returned (.bool true) ∧ Below w.heap.size w w') : Calls Ybaf.prog 17 args w fun e w' => ∃ v, e = .returned v ∧ (v = .bool true ∧ Below w.heap.size w w') :=
  h.mono fun _ _ ⟨h1, h2⟩ => ⟨_, h1, rfl, h2⟩
theorem decR {F : Interp} {a0 : Option Addr} {b off n c : Nat} {C : Nat → Nat} {zp : Option Addr} {ev : Value} {w : World} (hF : F.answers w.tape) (ha : 40 ≤ n → a0 = some ⟨b, off, none⟩)
    (hC : ∀ k, k < n → w.cell? ⟨b, off + k, none⟩ = some (.int .u8 ((C k : Nat) : Int)) ∧ C k ≤ 255) (hn : n ≤ 1000000) (hcap : n ≤ c) (hg0 : w.cell? ⟨0, 0, none⟩ = some ev) (hg3 : w.cell? ⟨3, 0, none⟩ = some (.pointer zp)) :
    Calls Ybaf.prog 14 #[.slice a0 n c] w fun e w' => ∃ v, e = .returned v ∧ (∃ pk ok er, v = .tuple #[.agg pk, .bool ok, er] ∧ Below w.heap.size w w' ∧ Res b off n c C zp ev w.heap.size w' pk ok er) :=
  (decode_any F a0 b off n c C zp ev w hF ha hC hn hcap hg0 hg3).mono fun _ _ ⟨pk, ok, er, h1, h2, h3⟩ => ⟨_, h1, pk, ok, er, rfl, h2, h3⟩
theorem isNo {bb : Nat} {ea : Addr} {cs ce : Array Value} {ts te : TypeId} {w : World} (hne : (⟨bb, 0, none⟩ : Addr) ≠ ea) (h1 : w.heap[bb]? = some (.cells cs ts (0, 0))) (h2 : w.heap[ea.block]? = some (.cells ce te (0, 0))) : Calls Ybaf.prog 16 #[.iface 108 (.pointer (some ⟨bb, 0, none⟩)), .iface 108 (.pointer (some ea))] w fun e w' => ∃ v, e = .returned v ∧ (v = .bool false ∧ w' = w) :=
  (is_other ⟨bb, 0, none⟩ ea cs ce ts te w hne h1 h2).mono fun _ _ ⟨h1, h2⟩ => ⟨_, h1, rfl, h2⟩
theorem isYes {ea : Addr} {w : World} : Calls Ybaf.prog 16 #[.iface 108 (.pointer (some ea)), .iface 108 (.pointer (some ea))] w fun e w' => ∃ v, e = .returned v ∧ (v = .bool true ∧ w' = w) :=
  (is_same ea w).mono fun _ _ ⟨h1, h2⟩ => ⟨_, h1, rfl, h2⟩
set_option maxRecDepth 100000 in
set_option maxHeartbeats 400000 in
theorem f59 (F : Interp) (gp n c : Nat) (C : Nat → Nat) (zp : Option Addr) (evv : Value) (wa : World) (hF : F.answers wa.tape) (hC : ∀ k, k < n → wa.cell? ⟨gp, 0 + k, none⟩ = some (.int .u8 ((C k : Nat) : Int)) ∧ C k ≤ 255) (hn : n ≤ 1000000) (hcap : n ≤ c) (hg0 : wa.cell? ⟨0, 0, none⟩ = some evv) (hg3 : wa.cell? ⟨3, 0, none⟩ = some (.pointer zp)) (f : Nat → Value) (h32 : f 32 = .slice (some ⟨gp, 0, none⟩) n c) (K : Act → World → Prop)
    (hK : ∀ (f' : Nat → Value) (NP : Nat) (ok : Bool) (er : Value) (pk : Array Value) (wy : World), Same f f' [35, 34, 33, 239, 238, 237, 234, 236, 235] → f' 33 = .pointer (some ⟨NP, 0, none⟩) → f' 34 = .bool ok → f' 35 = er → Res gp 0 n c C zp evv wa.heap.size wy pk ok er → Below wa.heap.size wa wy → wa.heap.size ≤ NP → wy.heap[NP]? = some (.cells pk 67 (0, 0)) → K (F4 f') (wy)) :
    Code.wp Ybaf.prog (headC (dropC 24 l4)) (only K) (F4 f) wa := by
  refine reg4 (by kernel_rfl) ?_
  refine s_ex 0 235 (.move (.tmp 32)) (v := .slice (some ⟨gp, 0, none⟩) n c) (by kernel_rfl) (ex_mv (ev rfl h32)) ?_
  refine s_call 1 236 (.call { callee := .value (.func 14), args := #[(.tmp 235)], argTypes := #[53] }) (fn := 14) (args := #[.slice (some ⟨gp, 0, none⟩) n c]) (by kernel_rfl) (ex_fn1 (cf14 _) (ev rfl rfl)) (decR hF (fun _ => rfl) hC hn hcap hg0 hg3) ?_
  rintro v x ⟨pk, ok, er, rfl, bx, hres⟩
  obtain ⟨h1, l1, p, h2, l2, q, t, tn, tc, len, rfl⟩ := hres.form
  refine s_ex 2 234 (.move (.tmp 236)) (v := .tuple #[.agg (pkt h1 l1 p h2 l2 q t tn tc len), .bool ok, er]) (by kernel_rfl) (ex_mv (ev rfl rfl)) ?_
  refine s_ex 3 237 (.extract (.tmp 234) 0) (v := .agg (pkt h1 l1 p h2 l2 q t tn tc len)) (by kernel_rfl) (ex_xt (u := .tuple #[.agg (pkt h1 l1 p h2 l2 q t tn tc len), .bool ok, er]) (ev rfl rfl) (by kernel_rfl)) ?_
  refine s_ex 4 238 (.extract (.tmp 234) 1) (v := .bool ok) (by kernel_rfl) (ex_xt (u := .tuple #[.agg (pkt h1 l1 p h2 l2 q t tn tc len), .bool ok, er]) (ev rfl rfl) (by kernel_rfl)) ?_
  refine s_ex 5 239 (.extract (.tmp 234) 2) (v := er) (by kernel_rfl) (ex_xt (u := .tuple #[.agg (pkt h1 l1 p h2 l2 q t tn tc len), .bool ok, er]) (ev rfl rfl) (by kernel_rfl)) ?_
  refine s_ex 6 33 (.alloc 67) (v := .pointer (some ⟨x.heap.size, 0, none⟩)) (by kernel_rfl) (ex_al (al67 _)) ?_
  refine s_st 7 67 (.tmp 33) (.tmp 237) (p := .pointer (some ⟨x.heap.size, 0, none⟩)) (q := .agg (pkt h1 l1 p h2 l2 q t tn tc len)) (by kernel_rfl) (ev rfl rfl) (ev rfl rfl) (run_storeAt_new x 67 zpk (pkt h1 l1 p h2 l2 q t tn tc len) (by kernel_rfl) rfl (by kernel_rfl)) ?_
  refine s_ex 8 34 (.assign (.tmp 238)) (v := .bool ok) (by kernel_rfl) (ex_as (ev rfl rfl)) ?_
  refine s_ex 9 35 (.assign (.tmp 239)) (v := er) (by kernel_rfl) (ex_as (ev rfl rfl)) ?_
  exact s_end (by kernel_rfl) (hK _ x.heap.size ok er _ _  (((((((((Same.refl.put 235 _).put 236 _).put 234 _).put 237 _).put 238 _).put 239 _).put 33 _).put 34 _).put 35 _) rfl rfl rfl  (hres.mono (fun k hk => Below.heap_alloc _ _ _ hk)) (al bx _) bx.size (heap_alloc_new _ _))
set_option maxRecDepth 100000 in
set_option maxHeartbeats 400000 in
theorem f60 (l : Nat) (wa : World) (f : Nat → Value) (h31 : f 31 = .int .i64 ((l : Nat) : Int)) (K : Act → World → Prop)
    (hK : ∀ (f' : Nat → Value), Same f f' [241, 240] → f' 241 = .bool (decide (l < 40)) → K (F4 f') (wa)) :
    Code.wp Ybaf.prog (headC (headC (dropC 25 l4))) (only K) (F4 f) wa := by
  refine reg4 (by kernel_rfl) ?_
  refine s_ex 0 240 (.move (.tmp 31)) (v := .int .i64 ((l : Nat) : Int)) (by kernel_rfl) (ex_mv (ev rfl h31)) ?_
  refine s_ex 1 241 (.binOp .lss 3 (.tmp 240) (.const (.int .i64 40)) 3) (v := .bool (decide (l < 40))) (by kernel_rfl) (ex_bn (u := .int .i64 ((l : Nat) : Int)) (u' := .int .i64 40) (ev rfl rfl) rfl (lssI (by simp; omega))) ?_
  exact s_end (by kernel_rfl) (hK _  ((Same.refl.put 240 _).put 241 _) rfl)
set_option maxRecDepth 100000 in
set_option maxHeartbeats 400000 in
theorem f61 (NP : Nat) (wa : World) (ea : Addr) (bb : Nat) (cs ce : Array Value) (ts te : TypeId) (hbb : wa.heap[bb]? = some (.cells cs ts (0, 0))) (hea : wa.heap[ea.block]? = some (.cells ce te (0, 0))) (hne : (⟨bb, 0, none⟩ : Addr) ≠ ea) (hg0 : wa.cell? ⟨0, 0, none⟩ = some (.iface 108 (.pointer (some ea)))) (hp : wa.heap[NP]? = some (.cells zpk 67 (0, 0))) (f : Nat → Value) (h33 : f 33 = .pointer (some ⟨NP, 0, none⟩)) (h34 : f 34 = .bool false) (h35 : f 35 = .iface 108 (.pointer (some ⟨bb, 0, none⟩))) (K : Act → World → Prop)
    (hK : ∀ (f' : Nat → Value) (wy : World), Same f f' [14, 257, 256, 255, 254, 253, 252, 251, 250, 249, 248, 247, 246, 245, 244, 243, 242] → f' 14 = .bool true → Below wa.heap.size wa wy → K (F4 f') (wy)) :
    Code.wp Ybaf.prog (headC (thnC (tailC (headC (dropC 25 l4))))) (only K) (F4 f) wa := by
  refine reg4 (by kernel_rfl) ?_
  refine s_ex 0 242 (.load 67 (.tmp 33)) (v := .agg zpk) (by kernel_rfl) (ex_ld (u := .pointer (some ⟨NP, 0, none⟩)) (ev rfl h33) (ld67 hp)) ?_
  refine s_call 1 243 (.call { callee := .value (.func 15), args := #[(.tmp 242)], argTypes := #[67] }) (fn := 15) (args := #[.agg zpk]) (by kernel_rfl) (ex_fn1 (cf15 _) (ev rfl rfl)) (zeroR) ?_
  rintro v x ⟨rfl, bx⟩
  have gx : x.cell? ⟨0, 0, none⟩ = some (.iface 108 (.pointer (some ea))) := by rw [bx.cell (World.block_lt_of_cell? wa _ hg0)]; exact hg0
  have bbx : x.heap[bb]? = some (.cells cs ts (0, 0)) := by rw [bx.block _ (Array.getElem?_eq_some_iff.1 hbb).1]; exact hbb
  have eax : x.heap[ea.block]? = some (.cells ce te (0, 0)) := by rw [bx.block _ (Array.getElem?_eq_some_iff.1 hea).1]; exact hea
  refine s_ex 2 244 (.move (.tmp 243)) (v := .bool true) (by kernel_rfl) (ex_mv (ev rfl rfl)) ?_
  refine s_g 3 245 2 244 true (.move (.tmp 34)) (v := .bool false) (by kernel_rfl) (by kernel_rfl) (by rfl) (by rfl) (ex_mv (ev rfl h34)) ?_
  refine s_g 4 246 2 244 true (.unOp .not 4 (.tmp 245)) (v := .bool true) (by kernel_rfl) (by kernel_rfl) (by rfl) (by rfl) (ex_not (b := false) (ev rfl rfl)) ?_
  refine s_ex 5 247 (.pick (.tmp 244) (.tmp 246) (.const (.bool false))) (v := .bool true) (by kernel_rfl) (ex_pickt (ev rfl rfl) (ev rfl rfl)) ?_
  refine s_ex 6 248 (.move (.tmp 247)) (v := .bool true) (by kernel_rfl) (ex_mv (ev rfl rfl)) ?_
  refine s_g 7 249 6 248 true (.move (.tmp 35)) (v := .iface 108 (.pointer (some ⟨bb, 0, none⟩))) (by kernel_rfl) (by kernel_rfl) (by rfl) (by rfl) (ex_mv (ev rfl h35)) ?_
  refine s_g 8 250 6 248 true (.binOp .neq 30 (.tmp 249) (.const (.nilIface)) 30) (v := .bool true) (by kernel_rfl) (by kernel_rfl) (by rfl) (by rfl) (ex_bn (u := .iface 108 (.pointer (some ⟨bb, 0, none⟩))) (u' := .nilIface) (ev rfl rfl) rfl (newNe)) ?_
  refine s_ex 9 251 (.pick (.tmp 248) (.tmp 250) (.const (.bool false))) (v := .bool true) (by kernel_rfl) (ex_pickt (ev rfl rfl) (ev rfl rfl)) ?_
  refine s_ex 10 252 (.move (.tmp 251)) (v := .bool true) (by kernel_rfl) (ex_mv (ev rfl rfl)) ?_
  refine s_g 11 253 10 252 true (.move (.tmp 35)) (v := .iface 108 (.pointer (some ⟨bb, 0, none⟩))) (by kernel_rfl) (by kernel_rfl) (by rfl) (by rfl) (ex_mv (ev rfl h35)) ?_
  refine s_g 12 254 10 252 true (.load 30 (.global 0)) (v := .iface 108 (.pointer (some ea))) (by kernel_rfl) (by kernel_rfl) (by rfl) (by rfl) (ex_ld (u := .pointer (some ⟨0, 0, none⟩)) rfl (ld30 gx)) ?_
  refine s_gc 13 255 10 252 true (.call { callee := .value (.func 16), args := #[(.tmp 253), (.tmp 254)], argTypes := #[30, 30] }) (fn := 16) (args := #[.iface 108 (.pointer (some ⟨bb, 0, none⟩)), .iface 108 (.pointer (some ea))]) (by kernel_rfl) (by kernel_rfl) (by rfl) (by rfl) (ex_fn2 (cf16 _) (ev rfl rfl) (ev rfl rfl)) (isNo hne bbx eax) ?_
  rintro v y ⟨rfl, rfl⟩
  refine s_g 14 256 10 252 true (.unOp .not 4 (.tmp 255)) (v := .bool true) (by kernel_rfl) (by kernel_rfl) (by rfl) (by rfl) (ex_not (b := false) (ev rfl rfl)) ?_
  refine s_ex 15 257 (.pick (.tmp 252) (.tmp 256) (.const (.bool false))) (v := .bool true) (by kernel_rfl) (ex_pickt (ev rfl rfl) (ev rfl rfl)) ?_
  refine s_ex 16 14 (.assign (.tmp 257)) (v := .bool true) (by kernel_rfl) (ex_as (ev rfl rfl)) ?_
  exact s_end (by kernel_rfl) (hK _ _  (((((((((((((((((Same.refl.put 242 _).put 243 _).put 244 _).put 245 _).put 246 _).put 247 _).put 248 _).put 249 _).put 250 _).put 251 _).put 252 _).put 253 _).put 254 _).put 255 _).put 256 _).put 257 _).put 14 _) rfl  bx)
set_option maxRecDepth 100000 in
set_option maxHeartbeats 400000 in
theorem f62 (wa : World) (f : Nat → Value)  (K : Act → World → Prop)
    (hK : ∀ (f' : Nat → Value), Same f f' [36] → f' 36 = .bool false → K (F4 f') (wa)) :
    Code.wp Ybaf.prog (headC (dropC 26 l4)) (only K) (F4 f) wa := by
  refine reg4 (by kernel_rfl) ?_
  refine s_ex 0 36 (.assign (.const (.bool false))) (v := .bool false) (by kernel_rfl) (ex_as rfl) ?_
  exact s_end (by kernel_rfl) (hK _  (Same.refl.put 36 _) rfl)
set_option maxRecDepth 100000 in
set_option maxHeartbeats 400000 in
theorem f63 (a0 : Option Addr) (m c0 : Nat) (wa : World) (f : Nat → Value) (h0 : f 0 = .slice a0 m c0) (K : Act → World → Prop)
    (hK : ∀ (f' : Nat → Value), Same f f' [260, 259, 258] → f' 259 = .int .i64 ((m : Nat) : Int) → f' 260 = .int .i64 ((0 : Nat) : Int) → K (F4 f') (wa)) :
    Code.wp Ybaf.prog (headC (headC (dropC 27 l4))) (only K) (F4 f) wa := by
  refine reg4 (by kernel_rfl) ?_
  refine s_ex 0 258 (.move (.tmp 0)) (v := .slice a0 m c0) (by kernel_rfl) (ex_mv (ev rfl h0)) ?_
  refine s_ex 1 259 (.call { callee := .builtin .len, args := #[(.tmp 258)], argTypes := #[52] }) (v := .int .i64 ((m : Nat) : Int)) (by kernel_rfl) (ex_len (ad := a0) (n := m) (c := c0) Ybaf.underlying52 (ev rfl rfl)) ?_
  refine s_ex 2 260 (.move (.const (.int .i64 0))) (v := .int .i64 0) (by kernel_rfl) (ex_mv rfl) ?_
  exact s_end (by kernel_rfl) (hK _  (((Same.refl.put 258 _).put 259 _).put 260 _) rfl rfl)
set_option maxRecDepth 100000 in
set_option maxHeartbeats 400000 in
theorem f64 (i m : Nat) (wa : World) (f : Nat → Value) (h259 : f 259 = .int .i64 ((m : Nat) : Int)) (h260 : f 260 = .int .i64 ((i : Nat) : Int)) (K : Act → World → Prop)
    (hK : ∀ (f' : Nat → Value), Same f f' [261] → f' 261 = .bool (decide (i < m)) → K (F4 f') (wa)) :
    Code.wp Ybaf.prog (headC l4e) (only K) (F4 f) wa := by
  refine reg4 (by kernel_rfl) ?_
  refine s_ex 0 261 (.binOp .lss 3 (.tmp 260) (.tmp 259) 3) (v := .bool (decide (i < m))) (by kernel_rfl) (ex_bn (u := .int .i64 ((i : Nat) : Int)) (u' := .int .i64 ((m : Nat) : Int)) (ev rfl h260) (ev rfl h259) (lssI (by simp))) ?_
  exact s_end (by kernel_rfl) (hK _  (Same.refl.put 261 _) rfl)
set_option maxRecDepth 100000 in
set_option maxHeartbeats 400000 in
theorem f65 (i : Nat) (wa : World) (f : Nat → Value) (h260 : f 260 = .int .i64 ((i : Nat) : Int)) (K : Act → World → Prop)
    (hK : ∀ (f' : Nat → Value), Same f f' [37, 262] → f' 37 = .int .i64 ((i : Nat) : Int) → K (F4 f') (wa)) :
    Code.wp Ybaf.prog (headC l4g) (only K) (F4 f) wa := by
  refine reg4 (by kernel_rfl) ?_
  refine s_ex 0 262 (.move (.tmp 260)) (v := .int .i64 ((i : Nat) : Int)) (by kernel_rfl) (ex_mv (ev rfl h260)) ?_
  refine s_ex 1 37 (.assign (.tmp 262)) (v := .int .i64 ((i : Nat) : Int)) (by kernel_rfl) (ex_as (ev rfl rfl)) ?_
  exact s_end (by kernel_rfl) (hK _  ((Same.refl.put 262 _).put 37 _) rfl)
set_option maxRecDepth 100000 in
set_option maxHeartbeats 400000 in
theorem f66 (ob m i o : Nat) (wa : World) (hi : i < m) (ho : wa.cell? ⟨ob, i, none⟩ = some (.int .i64 (o : Nat))) (f : Nat → Value) (h18 : f 18 = .slice (some ⟨ob, 0, none⟩) m m) (h37 : f 37 = .int .i64 ((i : Nat) : Int)) (K : Act → World → Prop)
    (hK : ∀ (f' : Nat → Value), Same f f' [38, 266, 265, 264, 263] → f' 38 = .int .i64 ((o : Nat) : Int) → K (F4 f') (wa)) :
    Code.wp Ybaf.prog (headC (dropC 1 l4g)) (only K) (F4 f) wa := by
  refine reg4 (by kernel_rfl) ?_
  refine s_ex 0 263 (.move (.tmp 18)) (v := .slice (some ⟨ob, 0, none⟩) m m) (by kernel_rfl) (ex_mv (ev rfl h18)) ?_
  refine s_ex 1 264 (.move (.tmp 37)) (v := .int .i64 ((i : Nat) : Int)) (by kernel_rfl) (ex_mv (ev rfl h37)) ?_
  refine s_ex 2 265 (.indexAddr 26 (.tmp 263) (.tmp 264)) (v := .pointer (some ⟨ob, i, none⟩)) (by kernel_rfl) (ex_ix (u := .slice (some ⟨ob, 0, none⟩) m m) (i := .int .i64 ((i : Nat) : Int)) (ev rfl rfl) (ev rfl rfl) (ix26 hi)) ?_
  refine s_ex 3 266 (.load 3 (.tmp 265)) (v := .int .i64 ((o : Nat) : Int)) (by kernel_rfl) (ex_ld (u := .pointer (some ⟨ob, i, none⟩)) (ev rfl rfl) (ld3 ho)) ?_
  refine s_ex 4 38 (.assign (.tmp 266)) (v := .int .i64 ((o : Nat) : Int)) (by kernel_rfl) (ex_as (ev rfl rfl)) ?_
  exact s_end (by kernel_rfl) (hK _  (((((Same.refl.put 263 _).put 264 _).put 265 _).put 266 _).put 38 _) rfl)
set_option maxRecDepth 100000 in
set_option maxHeartbeats 400000 in
theorem f67 (wa : World) (f : Nat → Value)  (K : Act → World → Prop)
    (hK : ∀ (f' : Nat → Value), Same f f' [39] → f' 39 = .int .i64 ((2 : Nat) : Int) → K (F4 f') (wa)) :
    Code.wp Ybaf.prog (headC (dropC 2 l4g)) (only K) (F4 f) wa := by
  refine reg4 (by kernel_rfl) ?_
  refine s_ex 0 39 (.assign (.const (.int .i64 2))) (v := .int .i64 2) (by kernel_rfl) (ex_as rfl) ?_
  exact s_end (by kernel_rfl) (hK _  (Same.refl.put 39 _) rfl)
set_option maxRecDepth 100000 in
set_option maxHeartbeats 400000 in
theorem f68 (kb m i k : Nat) (wa : World) (hi : i < m) (hk : wa.cell? ⟨kb, i, none⟩ = some (.int .u8 (k : Nat))) (f : Nat → Value) (h16 : f 16 = .slice (some ⟨kb, 0, none⟩) m m) (h37 : f 37 = .int .i64 ((i : Nat) : Int)) (K : Act → World → Prop)
    (hK : ∀ (f' : Nat → Value), Same f f' [271, 270, 269, 268, 267] → f' 271 = .bool (decide (k = 44)) → K (F4 f') (wa)) :
    Code.wp Ybaf.prog (headC (headC (dropC 3 l4g))) (only K) (F4 f) wa := by
  refine reg4 (by kernel_rfl) ?_
  refine s_ex 0 267 (.move (.tmp 16)) (v := .slice (some ⟨kb, 0, none⟩) m m) (by kernel_rfl) (ex_mv (ev rfl h16)) ?_
  refine s_ex 1 268 (.move (.tmp 37)) (v := .int .i64 ((i : Nat) : Int)) (by kernel_rfl) (ex_mv (ev rfl h37)) ?_
  refine s_ex 2 269 (.indexAddr 53 (.tmp 267) (.tmp 268)) (v := .pointer (some ⟨kb, i, none⟩)) (by kernel_rfl) (ex_ix (u := .slice (some ⟨kb, 0, none⟩) m m) (i := .int .i64 ((i : Nat) : Int)) (ev rfl rfl) (ev rfl rfl) (ix53 hi)) ?_
  refine s_ex 3 270 (.load 5 (.tmp 269)) (v := .int .u8 ((k : Nat) : Int)) (by kernel_rfl) (ex_ld (u := .pointer (some ⟨kb, i, none⟩)) (ev rfl rfl) (ld5 hk)) ?_
  refine s_ex 4 271 (.binOp .eql 5 (.tmp 270) (.const (.int .u8 44)) 5) (v := .bool (decide (k = 44))) (by kernel_rfl) (ex_bn (u := .int .u8 ((k : Nat) : Int)) (u' := .int .u8 44) (ev rfl rfl) rfl (eqlU (beq44 k))) ?_
  exact s_end (by kernel_rfl) (hK _  (((((Same.refl.put 267 _).put 268 _).put 269 _).put 270 _).put 271 _) rfl)
set_option maxRecDepth 100000 in
set_option maxHeartbeats 400000 in
theorem f72 (kb m i k : Nat) (wa : World) (hi : i < m) (hk : wa.cell? ⟨kb, i, none⟩ = some (.int .u8 (k : Nat))) (f : Nat → Value) (h16 : f 16 = .slice (some ⟨kb, 0, none⟩) m m) (h37 : f 37 = .int .i64 ((i : Nat) : Int)) (K : Act → World → Prop)
    (hK : ∀ (f' : Nat → Value), Same f f' [309, 308, 307, 306, 305] → f' 309 = .bool (decide (k = 44)) → K (F4 f') (wa)) :
    Code.wp Ybaf.prog (headC (dropC 5 l4g)) (only K) (F4 f) wa := by
  refine reg4 (by kernel_rfl) ?_
  refine s_ex 0 305 (.move (.tmp 16)) (v := .slice (some ⟨kb, 0, none⟩) m m) (by kernel_rfl) (ex_mv (ev rfl h16)) ?_
  refine s_ex 1 306 (.move (.tmp 37)) (v := .int .i64 ((i : Nat) : Int)) (by kernel_rfl) (ex_mv (ev rfl h37)) ?_
  refine s_ex 2 307 (.indexAddr 53 (.tmp 305) (.tmp 306)) (v := .pointer (some ⟨kb, i, none⟩)) (by kernel_rfl) (ex_ix (u := .slice (some ⟨kb, 0, none⟩) m m) (i := .int .i64 ((i : Nat) : Int)) (ev rfl rfl) (ev rfl rfl) (ix53 hi)) ?_
  refine s_ex 3 308 (.load 5 (.tmp 307)) (v := .int .u8 ((k : Nat) : Int)) (by kernel_rfl) (ex_ld (u := .pointer (some ⟨kb, i, none⟩)) (ev rfl rfl) (ld5 hk)) ?_
  refine s_ex 4 309 (.binOp .eql 5 (.tmp 308) (.const (.int .u8 44)) 5) (v := .bool (decide (k = 44))) (by kernel_rfl) (ex_bn (u := .int .u8 ((k : Nat) : Int)) (u' := .int .u8 44) (ev rfl rfl) rfl (eqlU (beq44 k))) ?_
  exact s_end (by kernel_rfl) (hK _  (((((Same.refl.put 305 _).put 306 _).put 307 _).put 308 _).put 309 _) rfl)
set_option maxRecDepth 100000 in
set_option maxHeartbeats 400000 in
theorem f69 (wa : World) (f : Nat → Value)  (K : Act → World → Prop)
    (hK : ∀ (f' : Nat → Value), Same f f' [39] → f' 39 = .int .i64 ((8 : Nat) : Int) → K (F4 f') (wa)) :
    Code.wp Ybaf.prog (thnC (tailC (headC (dropC 3 l4g)))) (only K) (F4 f) wa := by
  refine reg4 (by kernel_rfl) ?_
  refine s_ex 0 39 (.assign (.const (.int .i64 8))) (v := .int .i64 8) (by kernel_rfl) (ex_as rfl) ?_
  exact s_end (by kernel_rfl) (hK _  (Same.refl.put 39 _) rfl)
set_option maxRecDepth 100000 in
set_option maxHeartbeats 400000 in
theorem f70 (l o nd : Nat) (wa : World) (ho : o ≤ 1000000) (hnd : nd ≤ 8) (f : Nat → Value) (h31 : f 31 = .int .i64 ((l : Nat) : Int)) (h38 : f 38 = .int .i64 ((o : Nat) : Int)) (h39 : f 39 = .int .i64 ((nd : Nat) : Int)) (K : Act → World → Prop)
    (hK : ∀ (f' : Nat → Value), Same f f' [276, 275, 274, 273, 272] → f' 276 = .bool (decide (l < o + nd)) → K (F4 f') (wa)) :
    Code.wp Ybaf.prog (headC (headC (dropC 4 l4g))) (only K) (F4 f) wa := by
  refine reg4 (by kernel_rfl) ?_
  refine s_ex 0 272 (.move (.tmp 31)) (v := .int .i64 ((l : Nat) : Int)) (by kernel_rfl) (ex_mv (ev rfl h31)) ?_
  refine s_ex 1 273 (.move (.tmp 38)) (v := .int .i64 ((o : Nat) : Int)) (by kernel_rfl) (ex_mv (ev rfl h38)) ?_
  refine s_ex 2 274 (.move (.tmp 39)) (v := .int .i64 ((nd : Nat) : Int)) (by kernel_rfl) (ex_mv (ev rfl h39)) ?_
  refine s_ex 3 275 (.binOp .add 3 (.tmp 273) (.tmp 274) 3) (v := .int .i64 ((o + nd : Nat) : Int)) (by kernel_rfl) (ex_bn (u := .int .i64 ((o : Nat) : Int)) (u' := .int .i64 ((nd : Nat) : Int)) (ev rfl rfl) (ev rfl rfl) (addI (by omega) (by omega) (by omega))) ?_
  refine s_ex 4 276 (.binOp .lss 3 (.tmp 272) (.tmp 275) 3) (v := .bool (decide (l < o + nd))) (by kernel_rfl) (ex_bn (u := .int .i64 ((l : Nat) : Int)) (u' := .int .i64 ((o + nd : Nat) : Int)) (ev rfl rfl) (ev rfl rfl) (lssI (by simp; omega))) ?_
  exact s_end (by kernel_rfl) (hK _  (((((Same.refl.put 272 _).put 273 _).put 274 _).put 275 _).put 276 _) rfl)
set_option maxRecDepth 100000 in
set_option maxHeartbeats 400000 in
theorem f71 (NP : Nat) (wa : World) (ea : Addr) (bb : Nat) (cs ce : Array Value) (ts te : TypeId) (hbb : wa.heap[bb]? = some (.cells cs ts (0, 0))) (hea : wa.heap[ea.block]? = some (.cells ce te (0, 0))) (hne : (⟨bb, 0, none⟩ : Addr) ≠ ea) (hg0 : wa.cell? ⟨0, 0, none⟩ = some (.iface 108 (.pointer (some ea)))) (C : Nat → Nat) (zp : Option Addr) (rb db : Nat) (hX : ∀ k, k < 40 → C k ≤ 255) (hs : ∀ k, k < 16 → wa.cell? ⟨rb, k, none⟩ = some (.int .u8 ((C (8 + k) : Nat) : Int))) (hd : ∀ k, k < 16 → wa.cell? ⟨db, k, none⟩ = some (.int .u8 ((C (24 + k) : Nat) : Int))) (hp : wa.heap[NP]? = some (.cells (hdr C zp none 0 0 0) 67 (0, 0))) (f : Nat → Value) (h21 : f 21 = .slice (some ⟨rb, 0, none⟩) 16 16) (h22 : f 22 = .slice (some ⟨db, 0, none⟩) 16 16) (h33 : f 33 = .pointer (some ⟨NP, 0, none⟩)) (h34 : f 34 = .bool false) (h35 : f 35 = .iface 108 (.pointer (some ⟨bb, 0, none⟩))) (K : Act → World → Prop)
    (hK : ∀ (f' : Nat → Value) (wy : World), Same f f' [14, 304, 303, 302, 301, 300, 299, 298, 297, 296, 295, 294, 293, 292, 291, 290, 289, 288, 287, 286, 285, 284, 283, 282, 281, 280, 279, 278, 277] → f' 14 = .bool true → Below wa.heap.size wa wy → K (F4 f') (wy)) :
    Code.wp Ybaf.prog (headC (thnC (tailC (headC (dropC 4 l4g))))) (only K) (F4 f) wa := by
  refine reg4 (by kernel_rfl) ?_
  refine s_ex 0 277 (.load 67 (.tmp 33)) (v := .agg (hdr C zp none 0 0 0)) (by kernel_rfl) (ex_ld (u := .pointer (some ⟨NP, 0, none⟩)) (ev rfl h33) (ld67 hp)) ?_
  refine s_ex 1 278 (.move (.tmp 21)) (v := .slice (some ⟨rb, 0, none⟩) 16 16) (by kernel_rfl) (ex_mv (ev rfl h21)) ?_
  refine s_ex 2 279 (.move (.tmp 22)) (v := .slice (some ⟨db, 0, none⟩) 16 16) (by kernel_rfl) (ex_mv (ev rfl h22)) ?_
  refine s_call 3 280 (.call { callee := .value (.func 17), args := #[(.tmp 277), (.tmp 278), (.tmp 279)], argTypes := #[67, 53, 53] }) (fn := 17) (args := #[.agg (hdr C zp none 0 0 0), .slice (some ⟨rb, 0, none⟩) 16 16, .slice (some ⟨db, 0, none⟩) 16 16]) (by kernel_rfl) (ex_fn3 (cf17 _) (ev rfl rfl) (ev rfl rfl) (ev rfl rfl)) (adsR (addrs_any (fun k => C (8 + k)) (fun k => C (24 + k)) zp zp none 0 0 0 rb 0 16 db 0 16 wa (fun k hk => hX _ (by omega)) (fun k hk => hX _ (by omega)) (fun k hk => by rw [Nat.zero_add]; exact hs k hk) (fun k hk => by rw [Nat.zero_add]; exact hd k hk))) ?_
  rintro v x ⟨rfl, bx⟩
  have gx : x.cell? ⟨0, 0, none⟩ = some (.iface 108 (.pointer (some ea))) := by rw [bx.cell (World.block_lt_of_cell? wa _ hg0)]; exact hg0
  have bbx : x.heap[bb]? = some (.cells cs ts (0, 0)) := by rw [bx.block _ (Array.getElem?_eq_some_iff.1 hbb).1]; exact hbb
  have eax : x.heap[ea.block]? = some (.cells ce te (0, 0)) := by rw [bx.block _ (Array.getElem?_eq_some_iff.1 hea).1]; exact hea
  have px : x.heap[NP]? = some (.cells (hdr C zp none 0 0 0) 67 (0, 0)) := by rw [bx.block _ (Array.getElem?_eq_some_iff.1 hp).1]; exact hp
  have c6 : x.cell? ⟨NP, 6, none⟩ = some (.slice none 0 0) := by rw [cell_of_row _ _ 6 _ 67 (0, 0) px]; rfl
  have c7 : x.cell? ⟨NP, 7, none⟩ = some (.int .i64 0) := by rw [cell_of_row _ _ 7 _ 67 (0, 0) px]; rfl
  refine s_ex 4 281 (.move (.tmp 280)) (v := .bool true) (by kernel_rfl) (ex_mv (ev rfl rfl)) ?_
  refine s_g 5 282 4 281 true (.fieldAddr 67 (.tmp 33) 2) (v := .pointer (some ⟨NP, 6, none⟩)) (by kernel_rfl) (by kernel_rfl) (by rfl) (by rfl) (ex_fa (u := .pointer (some ⟨NP, 0, none⟩)) (ev rfl h33) (fa67_2 _ _)) ?_
  refine s_g 6 283 4 281 true (.load 53 (.tmp 282)) (v := .slice none 0 0) (by kernel_rfl) (by kernel_rfl) (by rfl) (by rfl) (ex_ld (u := .pointer (some ⟨NP, 6, none⟩)) (ev rfl rfl) (ld53 c6)) ?_
  refine s_g 7 284 4 281 true (.binOp .eql 53 (.tmp 283) (.const (.slice none 0 0)) 53) (v := .bool true) (by kernel_rfl) (by kernel_rfl) (by rfl) (by rfl) (ex_bn (u := .slice none 0 0) (u' := .slice none 0 0) (ev rfl rfl) rfl (nilSl)) ?_
  refine s_ex 8 285 (.pick (.tmp 281) (.tmp 284) (.const (.bool false))) (v := .bool true) (by kernel_rfl) (ex_pickt (ev rfl rfl) (ev rfl rfl)) ?_
  refine s_ex 9 286 (.move (.tmp 285)) (v := .bool true) (by kernel_rfl) (ex_mv (ev rfl rfl)) ?_
  refine s_g 10 287 9 286 true (.fieldAddr 67 (.tmp 33) 3) (v := .pointer (some ⟨NP, 7, none⟩)) (by kernel_rfl) (by kernel_rfl) (by rfl) (by rfl) (ex_fa (u := .pointer (some ⟨NP, 0, none⟩)) (ev rfl h33) (fa67_3 _ _)) ?_
  refine s_g 11 288 9 286 true (.load 3 (.tmp 287)) (v := .int .i64 0) (by kernel_rfl) (by kernel_rfl) (by rfl) (by rfl) (ex_ld (u := .pointer (some ⟨NP, 7, none⟩)) (ev rfl rfl) (ld3 c7)) ?_
  refine s_g 12 289 9 286 true (.binOp .eql 3 (.tmp 288) (.const (.int .i64 0)) 3) (v := .bool true) (by kernel_rfl) (by kernel_rfl) (by rfl) (by rfl) (ex_bn (u := .int .i64 0) (u' := .int .i64 0) (ev rfl rfl) rfl (eqlI rfl)) ?_
  refine s_ex 13 290 (.pick (.tmp 286) (.tmp 289) (.const (.bool false))) (v := .bool true) (by kernel_rfl) (ex_pickt (ev rfl rfl) (ev rfl rfl)) ?_
  refine s_ex 14 291 (.move (.tmp 290)) (v := .bool true) (by kernel_rfl) (ex_mv (ev rfl rfl)) ?_
  refine s_g 15 292 14 291 true (.move (.tmp 34)) (v := .bool false) (by kernel_rfl) (by kernel_rfl) (by rfl) (by rfl) (ex_mv (ev rfl h34)) ?_
  refine s_g 16 293 14 291 true (.unOp .not 4 (.tmp 292)) (v := .bool true) (by kernel_rfl) (by kernel_rfl) (by rfl) (by rfl) (ex_not (b := false) (ev rfl rfl)) ?_
  refine s_ex 17 294 (.pick (.tmp 291) (.tmp 293) (.const (.bool false))) (v := .bool true) (by kernel_rfl) (ex_pickt (ev rfl rfl) (ev rfl rfl)) ?_
  refine s_ex 18 295 (.move (.tmp 294)) (v := .bool true) (by kernel_rfl) (ex_mv (ev rfl rfl)) ?_
  refine s_g 19 296 18 295 true (.move (.tmp 35)) (v := .iface 108 (.pointer (some ⟨bb, 0, none⟩))) (by kernel_rfl) (by kernel_rfl) (by rfl) (by rfl) (ex_mv (ev rfl h35)) ?_
  refine s_g 20 297 18 295 true (.binOp .neq 30 (.tmp 296) (.const (.nilIface)) 30) (v := .bool true) (by kernel_rfl) (by kernel_rfl) (by rfl) (by rfl) (ex_bn (u := .iface 108 (.pointer (some ⟨bb, 0, none⟩))) (u' := .nilIface) (ev rfl rfl) rfl (newNe)) ?_
  refine s_ex 21 298 (.pick (.tmp 295) (.tmp 297) (.const (.bool false))) (v := .bool true) (by kernel_rfl) (ex_pickt (ev rfl rfl) (ev rfl rfl)) ?_
  refine s_ex 22 299 (.move (.tmp 298)) (v := .bool true) (by kernel_rfl) (ex_mv (ev rfl rfl)) ?_
  refine s_g 23 300 22 299 true (.move (.tmp 35)) (v := .iface 108 (.pointer (some ⟨bb, 0, none⟩))) (by kernel_rfl) (by kernel_rfl) (by rfl) (by rfl) (ex_mv (ev rfl h35)) ?_
  refine s_g 24 301 22 299 true (.load 30 (.global 0)) (v := .iface 108 (.pointer (some ea))) (by kernel_rfl) (by kernel_rfl) (by rfl) (by rfl) (ex_ld (u := .pointer (some ⟨0, 0, none⟩)) rfl (ld30 gx)) ?_
  refine s_gc 25 302 22 299 true (.call { callee := .value (.func 16), args := #[(.tmp 300), (.tmp 301)], argTypes := #[30, 30] }) (fn := 16) (args := #[.iface 108 (.pointer (some ⟨bb, 0, none⟩)), .iface 108 (.pointer (some ea))]) (by kernel_rfl) (by kernel_rfl) (by rfl) (by rfl) (ex_fn2 (cf16 _) (ev rfl rfl) (ev rfl rfl)) (isNo hne bbx eax) ?_
  rintro v y ⟨rfl, rfl⟩
  refine s_g 26 303 22 299 true (.unOp .not 4 (.tmp 302)) (v := .bool true) (by kernel_rfl) (by kernel_rfl) (by rfl) (by rfl) (ex_not (b := false) (ev rfl rfl)) ?_
  refine s_ex 27 304 (.pick (.tmp 299) (.tmp 303) (.const (.bool false))) (v := .bool true) (by kernel_rfl) (ex_pickt (ev rfl rfl) (ev rfl rfl)) ?_
  refine s_ex 28 14 (.assign (.tmp 304)) (v := .bool true) (by kernel_rfl) (ex_as (ev rfl rfl)) ?_
  exact s_end (by kernel_rfl) (hK _ _  (((((((((((((((((((((((((((((Same.refl.put 277 _).put 278 _).put 279 _).put 280 _).put 281 _).put 282 _).put 283 _).put 284 _).put 285 _).put 286 _).put 287 _).put 288 _).put 289 _).put 290 _).put 291 _).put 292 _).put 293 _).put 294 _).put 295 _).put 296 _).put 297 _).put 298 _).put 299 _).put 300 _).put 301 _).put 302 _).put 303 _).put 304 _).put 14 _) rfl  bx)
set_option maxRecDepth 100000 in
set_option maxHeartbeats 400000 in
theorem f73 (xb xo m c0 i fr : Nat) (wa : World) (hi : i < m) (hr : wa.cell? ⟨xb, xo + i * 4 + 2, none⟩ = some (.int .u16 (fr : Nat))) (f : Nat → Value) (h0 : f 0 = .slice (some ⟨xb, xo, none⟩) m c0) (h37 : f 37 = .int .i64 ((i : Nat) : Int)) (K : Act → World → Prop)
    (hK : ∀ (f' : Nat → Value), Same f f' [316, 315, 314, 313, 312, 311, 310] → f' 316 = .bool (hiF fr) → K (F4 f') (wa)) :
    Code.wp Ybaf.prog (headC (headC (thnC (dropC 6 l4g)))) (only K) (F4 f) wa := by
  refine reg4 (by kernel_rfl) ?_
  refine s_ex 0 310 (.move (.tmp 0)) (v := .slice (some ⟨xb, xo, none⟩) m c0) (by kernel_rfl) (ex_mv (ev rfl h0)) ?_
  refine s_ex 1 311 (.move (.tmp 37)) (v := .int .i64 ((i : Nat) : Int)) (by kernel_rfl) (ex_mv (ev rfl h37)) ?_
  refine s_ex 2 312 (.indexAddr 52 (.tmp 310) (.tmp 311)) (v := .pointer (some ⟨xb, xo + i * 4, none⟩)) (by kernel_rfl) (ex_ix (u := .slice (some ⟨xb, xo, none⟩) m c0) (i := .int .i64 ((i : Nat) : Int)) (ev rfl rfl) (ev rfl rfl) (ix52 hi)) ?_
  refine s_ex 3 313 (.fieldAddr 56 (.tmp 312) 2) (v := .pointer (some ⟨xb, xo + i * 4 + 2, none⟩)) (by kernel_rfl) (ex_fa (u := .pointer (some ⟨xb, xo + i * 4, none⟩)) (ev rfl rfl) (fa56_2)) ?_
  refine s_ex 4 314 (.load 24 (.tmp 313)) (v := .int .u16 ((fr : Nat) : Int)) (by kernel_rfl) (ex_ld (u := .pointer (some ⟨xb, xo + i * 4 + 2, none⟩)) (ev rfl rfl) (ld24 hr)) ?_
  refine s_ex 5 315 (.binOp .and 24 (.tmp 314) (.const (.int .u16 65528)) 24) (v := .int .u16 (bits .and .u16 ((fr : Nat) : Int) 65528)) (by kernel_rfl) (ex_bn (u := .int .u16 ((fr : Nat) : Int)) (u' := .int .u16 65528) (ev rfl rfl) rfl (hiA)) ?_
  refine s_ex 6 316 (.binOp .neq 24 (.tmp 315) (.const (.int .u16 0)) 24) (v := .bool (hiF fr)) (by kernel_rfl) (ex_bn (u := .int .u16 (bits .and .u16 ((fr : Nat) : Int) 65528)) (u' := .int .u16 0) (ev rfl rfl) rfl (hiN)) ?_
  exact s_end (by kernel_rfl) (hK _  (((((((Same.refl.put 310 _).put 311 _).put 312 _).put 313 _).put 314 _).put 315 _).put 316 _) rfl)
set_option maxRecDepth 100000 in
set_option maxHeartbeats 400000 in
theorem f74 (NP : Nat) (wa : World) (hp : wa.heap[NP]? = some (.cells zpk 67 (0, 0))) (f : Nat → Value) (h33 : f 33 = .pointer (some ⟨NP, 0, none⟩)) (h34 : f 34 = .bool false) (h35 : f 35 = .nilIface) (K : Act → World → Prop)
    (hK : ∀ (f' : Nat → Value) (wy : World), Same f f' [14, 326, 325, 324, 323, 322, 321, 320, 319, 318, 317] → f' 14 = .bool true → Below wa.heap.size wa wy → K (F4 f') (wy)) :
    Code.wp Ybaf.prog (headC (thnC (tailC (headC (thnC (dropC 6 l4g)))))) (only K) (F4 f) wa := by
  refine reg4 (by kernel_rfl) ?_
  refine s_ex 0 317 (.load 67 (.tmp 33)) (v := .agg zpk) (by kernel_rfl) (ex_ld (u := .pointer (some ⟨NP, 0, none⟩)) (ev rfl h33) (ld67 hp)) ?_
  refine s_call 1 318 (.call { callee := .value (.func 15), args := #[(.tmp 317)], argTypes := #[67] }) (fn := 15) (args := #[.agg zpk]) (by kernel_rfl) (ex_fn1 (cf15 _) (ev rfl rfl)) (zeroR) ?_
  rintro v x ⟨rfl, bx⟩
  refine s_ex 2 319 (.move (.tmp 318)) (v := .bool true) (by kernel_rfl) (ex_mv (ev rfl rfl)) ?_
  refine s_g 3 320 2 319 true (.move (.tmp 34)) (v := .bool false) (by kernel_rfl) (by kernel_rfl) (by rfl) (by rfl) (ex_mv (ev rfl h34)) ?_
  refine s_g 4 321 2 319 true (.unOp .not 4 (.tmp 320)) (v := .bool true) (by kernel_rfl) (by kernel_rfl) (by rfl) (by rfl) (ex_not (b := false) (ev rfl rfl)) ?_
  refine s_ex 5 322 (.pick (.tmp 319) (.tmp 321) (.const (.bool false))) (v := .bool true) (by kernel_rfl) (ex_pickt (ev rfl rfl) (ev rfl rfl)) ?_
  refine s_ex 6 323 (.move (.tmp 322)) (v := .bool true) (by kernel_rfl) (ex_mv (ev rfl rfl)) ?_
  refine s_g 7 324 6 323 true (.move (.tmp 35)) (v := .nilIface) (by kernel_rfl) (by kernel_rfl) (by rfl) (by rfl) (ex_mv (ev rfl h35)) ?_
  refine s_g 8 325 6 323 true (.binOp .eql 30 (.tmp 324) (.const (.nilIface)) 30) (v := .bool true) (by kernel_rfl) (by kernel_rfl) (by rfl) (by rfl) (ex_bn (u := .nilIface) (u' := .nilIface) (ev rfl rfl) rfl (nilE)) ?_
  refine s_ex 9 326 (.pick (.tmp 323) (.tmp 325) (.const (.bool false))) (v := .bool true) (by kernel_rfl) (ex_pickt (ev rfl rfl) (ev rfl rfl)) ?_
  refine s_ex 10 14 (.assign (.tmp 326)) (v := .bool true) (by kernel_rfl) (ex_as (ev rfl rfl)) ?_
  exact s_end (by kernel_rfl) (hK _ _  (((((((((((Same.refl.put 317 _).put 318 _).put 319 _).put 320 _).put 321 _).put 322 _).put 323 _).put 324 _).put 325 _).put 326 _).put 14 _) rfl  bx)
set_option maxRecDepth 100000 in
set_option maxHeartbeats 400000 in
theorem f79 (NP : Nat) (wa : World) (hp : wa.heap[NP]? = some (.cells zpk 67 (0, 0))) (f : Nat → Value) (h33 : f 33 = .pointer (some ⟨NP, 0, none⟩)) (h34 : f 34 = .bool false) (h35 : f 35 = .nilIface) (K : Act → World → Prop)
    (hK : ∀ (f' : Nat → Value) (wy : World), Same f f' [14, 345, 344, 343, 342, 341, 340, 339, 338, 337, 336] → f' 14 = .bool true → Below wa.heap.size wa wy → K (F4 f') (wy)) :
    Code.wp Ybaf.prog (headC (thnC (tailC (headC (dropC 28 l4))))) (only K) (F4 f) wa := by
  refine reg4 (by kernel_rfl) ?_
  refine s_ex 0 336 (.load 67 (.tmp 33)) (v := .agg zpk) (by kernel_rfl) (ex_ld (u := .pointer (some ⟨NP, 0, none⟩)) (ev rfl h33) (ld67 hp)) ?_
  refine s_call 1 337 (.call { callee := .value (.func 15), args := #[(.tmp 336)], argTypes := #[67] }) (fn := 15) (args := #[.agg zpk]) (by kernel_rfl) (ex_fn1 (cf15 _) (ev rfl rfl)) (zeroR) ?_
  rintro v x ⟨rfl, bx⟩
  refine s_ex 2 338 (.move (.tmp 337)) (v := .bool true) (by kernel_rfl) (ex_mv (ev rfl rfl)) ?_
  refine s_g 3 339 2 338 true (.move (.tmp 34)) (v := .bool false) (by kernel_rfl) (by kernel_rfl) (by rfl) (by rfl) (ex_mv (ev rfl h34)) ?_
  refine s_g 4 340 2 338 true (.unOp .not 4 (.tmp 339)) (v := .bool true) (by kernel_rfl) (by kernel_rfl) (by rfl) (by rfl) (ex_not (b := false) (ev rfl rfl)) ?_
  refine s_ex 5 341 (.pick (.tmp 338) (.tmp 340) (.const (.bool false))) (v := .bool true) (by kernel_rfl) (ex_pickt (ev rfl rfl) (ev rfl rfl)) ?_
  refine s_ex 6 342 (.move (.tmp 341)) (v := .bool true) (by kernel_rfl) (ex_mv (ev rfl rfl)) ?_
  refine s_g 7 343 6 342 true (.move (.tmp 35)) (v := .nilIface) (by kernel_rfl) (by kernel_rfl) (by rfl) (by rfl) (ex_mv (ev rfl h35)) ?_
  refine s_g 8 344 6 342 true (.binOp .eql 30 (.tmp 343) (.const (.nilIface)) 30) (v := .bool true) (by kernel_rfl) (by kernel_rfl) (by rfl) (by rfl) (ex_bn (u := .nilIface) (u' := .nilIface) (ev rfl rfl) rfl (nilE)) ?_
  refine s_ex 9 345 (.pick (.tmp 342) (.tmp 344) (.const (.bool false))) (v := .bool true) (by kernel_rfl) (ex_pickt (ev rfl rfl) (ev rfl rfl)) ?_
  refine s_ex 10 14 (.assign (.tmp 345)) (v := .bool true) (by kernel_rfl) (ex_as (ev rfl rfl)) ?_
  exact s_end (by kernel_rfl) (hK _ _  (((((((((((Same.refl.put 336 _).put 337 _).put 338 _).put 339 _).put 340 _).put 341 _).put 342 _).put 343 _).put 344 _).put 345 _).put 14 _) rfl  bx)
set_option maxRecDepth 100000 in
set_option maxHeartbeats 400000 in
theorem f75 (xb xo m c0 i fr : Nat) (wa : World) (hi : i < m) (hr : wa.cell? ⟨xb, xo + i * 4 + 2, none⟩ = some (.int .u16 (fr : Nat))) (f : Nat → Value) (h0 : f 0 = .slice (some ⟨xb, xo, none⟩) m c0) (h37 : f 37 = .int .i64 ((i : Nat) : Int)) (K : Act → World → Prop)
    (hK : ∀ (f' : Nat → Value), Same f f' [333, 332, 331, 330, 329, 328, 327] → f' 333 = .bool (loF fr) → K (F4 f') (wa)) :
    Code.wp Ybaf.prog (headC (tailC (thnC (dropC 6 l4g)))) (only K) (F4 f) wa := by
  refine reg4 (by kernel_rfl) ?_
  refine s_ex 0 327 (.move (.tmp 0)) (v := .slice (some ⟨xb, xo, none⟩) m c0) (by kernel_rfl) (ex_mv (ev rfl h0)) ?_
  refine s_ex 1 328 (.move (.tmp 37)) (v := .int .i64 ((i : Nat) : Int)) (by kernel_rfl) (ex_mv (ev rfl h37)) ?_
  refine s_ex 2 329 (.indexAddr 52 (.tmp 327) (.tmp 328)) (v := .pointer (some ⟨xb, xo + i * 4, none⟩)) (by kernel_rfl) (ex_ix (u := .slice (some ⟨xb, xo, none⟩) m c0) (i := .int .i64 ((i : Nat) : Int)) (ev rfl rfl) (ev rfl rfl) (ix52 hi)) ?_
  refine s_ex 3 330 (.fieldAddr 56 (.tmp 329) 2) (v := .pointer (some ⟨xb, xo + i * 4 + 2, none⟩)) (by kernel_rfl) (ex_fa (u := .pointer (some ⟨xb, xo + i * 4, none⟩)) (ev rfl rfl) (fa56_2)) ?_
  refine s_ex 4 331 (.load 24 (.tmp 330)) (v := .int .u16 ((fr : Nat) : Int)) (by kernel_rfl) (ex_ld (u := .pointer (some ⟨xb, xo + i * 4 + 2, none⟩)) (ev rfl rfl) (ld24 hr)) ?_
  refine s_ex 5 332 (.binOp .and 24 (.tmp 331) (.const (.int .u16 1)) 24) (v := .int .u16 (bits .and .u16 ((fr : Nat) : Int) 1)) (by kernel_rfl) (ex_bn (u := .int .u16 ((fr : Nat) : Int)) (u' := .int .u16 1) (ev rfl rfl) rfl (loA)) ?_
  refine s_ex 6 333 (.binOp .neq 24 (.tmp 332) (.const (.int .u16 0)) 24) (v := .bool (loF fr)) (by kernel_rfl) (ex_bn (u := .int .u16 (bits .and .u16 ((fr : Nat) : Int) 1)) (u' := .int .u16 0) (ev rfl rfl) rfl (loN)) ?_
  exact s_end (by kernel_rfl) (hK _  (((((((Same.refl.put 327 _).put 328 _).put 329 _).put 330 _).put 331 _).put 332 _).put 333 _) rfl)
set_option maxRecDepth 100000 in
set_option maxHeartbeats 400000 in
theorem f76 (wa : World) (f : Nat → Value)  (K : Act → World → Prop)
    (hK : ∀ (f' : Nat → Value), Same f f' [36] → f' 36 = .bool true → K (F4 f') (wa)) :
    Code.wp Ybaf.prog (thnC (tailC (tailC (thnC (dropC 6 l4g))))) (only K) (F4 f) wa := by
  refine reg4 (by kernel_rfl) ?_
  refine s_ex 0 36 (.assign (.const (.bool true))) (v := .bool true) (by kernel_rfl) (ex_as rfl) ?_
  exact s_end (by kernel_rfl) (hK _  (Same.refl.put 36 _) rfl)
set_option maxRecDepth 100000 in
set_option maxHeartbeats 400000 in
theorem f77 (i m : Nat) (wa : World) (hi : i < m) (hm : m ≤ 256) (f : Nat → Value) (h260 : f 260 = .int .i64 ((i : Nat) : Int)) (K : Act → World → Prop)
    (hK : ∀ (f' : Nat → Value), Same f f' [260, 334] → f' 260 = .int .i64 ((i + 1 : Nat) : Int) → K (F4 f') (wa)) :
    Code.wp Ybaf.prog (dropC 3 l4e) (only K) (F4 f) wa := by
  refine reg4 (by kernel_rfl) ?_
  refine s_ex 0 334 (.binOp .add 3 (.tmp 260) (.const (.int .i64 1)) 3) (v := .int .i64 ((i + 1 : Nat) : Int)) (by kernel_rfl) (ex_bn (u := .int .i64 ((i : Nat) : Int)) (u' := .int .i64 1) (ev rfl h260) rfl (addI (by omega) (by omega) (by omega))) ?_
  refine s_ex 1 260 (.move (.tmp 334)) (v := .int .i64 ((i + 1 : Nat) : Int)) (by kernel_rfl) (ex_mv (ev rfl rfl)) ?_
  exact s_end (by kernel_rfl) (hK _  ((Same.refl.put 334 _).put 260 _) rfl)
set_option maxRecDepth 100000 in
set_option maxHeartbeats 400000 in
theorem f78 (udp : Bool) (wa : World) (f : Nat → Value) (h3 : f 3 = .bool udp) (K : Act → World → Prop)
    (hK : ∀ (f' : Nat → Value), Same f f' [335] → f' 335 = .bool udp → K (F4 f') (wa)) :
    Code.wp Ybaf.prog (headC (headC (dropC 28 l4))) (only K) (F4 f) wa := by
  refine reg4 (by kernel_rfl) ?_
  refine s_ex 0 335 (.move (.tmp 3)) (v := .bool udp) (by kernel_rfl) (ex_mv (ev rfl h3)) ?_
  exact s_end (by kernel_rfl) (hK _  (Same.refl.put 335 _) rfl)
set_option maxRecDepth 100000 in
set_option maxHeartbeats 400000 in
theorem f80 (py h : Nat) (wa : World) (hp : py ≤ 65535) (hh : h ≤ 1000000) (f : Nat → Value) (h2 : f 2 = .int .u16 ((py : Nat) : Int)) (h30 : f 30 = .int .i64 ((h : Nat) : Int)) (K : Act → World → Prop)
    (hK : ∀ (f' : Nat → Value), Same f f' [40, 350, 349, 348, 347, 346] → f' 40 = .int .i64 ((py : Int) + 40 - (h : Int)) → K (F4 f') (wa)) :
    Code.wp Ybaf.prog (headC (dropC 29 l4)) (only K) (F4 f) wa := by
  refine reg4 (by kernel_rfl) ?_
  refine s_ex 0 346 (.move (.tmp 2)) (v := .int .u16 ((py : Nat) : Int)) (by kernel_rfl) (ex_mv (ev rfl h2)) ?_
  refine s_ex 1 347 (.convert 24 3 (.tmp 346)) (v := .int .i64 ((py : Nat) : Int)) (by kernel_rfl) (ex_cv (u := .int .u16 ((py : Nat) : Int)) (ev rfl rfl) (cv243 py hp _)) ?_
  refine s_ex 2 348 (.move (.tmp 30)) (v := .int .i64 ((h : Nat) : Int)) (by kernel_rfl) (ex_mv (ev rfl h30)) ?_
  refine s_ex 3 349 (.binOp .sub 3 (.tmp 348) (.const (.int .i64 40)) 3) (v := .int .i64 ((h : Int) - 40)) (by kernel_rfl) (ex_bn (u := .int .i64 ((h : Nat) : Int)) (u' := .int .i64 40) (ev rfl rfl) rfl (subI rfl (by omega) (by omega))) ?_
  refine s_ex 4 350 (.binOp .sub 3 (.tmp 347) (.tmp 349) 3) (v := .int .i64 ((py : Int) + 40 - (h : Int))) (by kernel_rfl) (ex_bn (u := .int .i64 ((py : Nat) : Int)) (u' := .int .i64 ((h : Int) - 40)) (ev rfl rfl) (ev rfl rfl) (subI (by omega) (by omega) (by omega))) ?_
  refine s_ex 5 40 (.assign (.tmp 350)) (v := .int .i64 ((py : Int) + 40 - (h : Int))) (by kernel_rfl) (ex_as (ev rfl rfl)) ?_
  exact s_end (by kernel_rfl) (hK _  ((((((Same.refl.put 346 _).put 347 _).put 348 _).put 349 _).put 350 _).put 40 _) rfl)
set_option maxRecDepth 100000 in
set_option maxHeartbeats 400000 in
theorem f81 (NP : Nat) (wa : World) (C : Nat → Nat) (zp : Option Addr) (rb db : Nat) (hX : ∀ k, k < 40 → C k ≤ 255) (hs : ∀ k, k < 16 → wa.cell? ⟨rb, k, none⟩ = some (.int .u8 ((C (8 + k) : Nat) : Int))) (hd : ∀ k, k < 16 → wa.cell? ⟨db, k, none⟩ = some (.int .u8 ((C (24 + k) : Nat) : Int))) (tt : Option Addr) (tn tc : Nat) (len : Int) (hp : wa.heap[NP]? = some (.cells (hdr C zp tt tn tc len) 67 (0, 0))) (f : Nat → Value) (h21 : f 21 = .slice (some ⟨rb, 0, none⟩) 16 16) (h22 : f 22 = .slice (some ⟨db, 0, none⟩) 16 16) (h33 : f 33 = .pointer (some ⟨NP, 0, none⟩)) (K : Act → World → Prop)
    (hK : ∀ (f' : Nat → Value) (wy : World), Same f f' [355, 354, 353, 352, 351] → f' 355 = .bool false → Below wa.heap.size wa wy → K (F4 f') (wy)) :
    Code.wp Ybaf.prog (headC (headC (dropC 30 l4))) (only K) (F4 f) wa := by
  refine reg4 (by kernel_rfl) ?_
  refine s_ex 0 351 (.load 67 (.tmp 33)) (v := .agg (hdr C zp tt tn tc len)) (by kernel_rfl) (ex_ld (u := .pointer (some ⟨NP, 0, none⟩)) (ev rfl h33) (ld67 hp)) ?_
  refine s_ex 1 352 (.move (.tmp 21)) (v := .slice (some ⟨rb, 0, none⟩) 16 16) (by kernel_rfl) (ex_mv (ev rfl h21)) ?_
  refine s_ex 2 353 (.move (.tmp 22)) (v := .slice (some ⟨db, 0, none⟩) 16 16) (by kernel_rfl) (ex_mv (ev rfl h22)) ?_
  refine s_call 3 354 (.call { callee := .value (.func 17), args := #[(.tmp 351), (.tmp 352), (.tmp 353)], argTypes := #[67, 53, 53] }) (fn := 17) (args := #[.agg (hdr C zp tt tn tc len), .slice (some ⟨rb, 0, none⟩) 16 16, .slice (some ⟨db, 0, none⟩) 16 16]) (by kernel_rfl) (ex_fn3 (cf17 _) (ev rfl rfl) (ev rfl rfl) (ev rfl rfl)) (adsR (addrs_any (fun k => C (8 + k)) (fun k => C (24 + k)) zp zp tt tn tc len rb 0 16 db 0 16 wa (fun k hk => hX _ (by omega)) (fun k hk => hX _ (by omega)) (fun k hk => by rw [Nat.zero_add]; exact hs k hk) (fun k hk => by rw [Nat.zero_add]; exact hd k hk))) ?_
  rintro v x ⟨rfl, bx⟩
  refine s_ex 4 355 (.unOp .not 4 (.tmp 354)) (v := .bool false) (by kernel_rfl) (ex_not (b := true) (ev rfl rfl)) ?_
  exact s_end (by kernel_rfl) (hK _ _  (((((Same.refl.put 351 _).put 352 _).put 353 _).put 354 _).put 355 _) rfl  bx)
set_option maxRecDepth 100000 in
set_option maxHeartbeats 400000 in
theorem f83 (l h : Nat) (wa : World) (f : Nat → Value) (h30 : f 30 = .int .i64 ((h : Nat) : Int)) (h31 : f 31 = .int .i64 ((l : Nat) : Int)) (K : Act → World → Prop)
    (hK : ∀ (f' : Nat → Value), Same f f' [358, 357, 356] → f' 358 = .bool (decide (h ≤ l)) → K (F4 f') (wa)) :
    Code.wp Ybaf.prog (headC (headC (dropC 31 l4))) (only K) (F4 f) wa := by
  refine reg4 (by kernel_rfl) ?_
  refine s_ex 0 356 (.move (.tmp 31)) (v := .int .i64 ((l : Nat) : Int)) (by kernel_rfl) (ex_mv (ev rfl h31)) ?_
  refine s_ex 1 357 (.move (.tmp 30)) (v := .int .i64 ((h : Nat) : Int)) (by kernel_rfl) (ex_mv (ev rfl h30)) ?_
  refine s_ex 2 358 (.binOp .geq 3 (.tmp 356) (.tmp 357) 3) (v := .bool (decide (h ≤ l))) (by kernel_rfl) (ex_bn (u := .int .i64 ((l : Nat) : Int)) (u' := .int .i64 ((h : Nat) : Int)) (ev rfl rfl) (ev rfl rfl) (geqI (by simp))) ?_
  exact s_end (by kernel_rfl) (hK _  (((Same.refl.put 356 _).put 357 _).put 358 _) rfl)
set_option maxRecDepth 100000 in
set_option maxHeartbeats 400000 in
theorem f84 (NP gp n cap h l : Nat) (wa : World) (C : Nat → Nat) (zp : Option Addr) (len : Int) (hh : h ≤ l) (hl : l ≤ cap) (hl2 : l ≤ 1000000) (s : ByteArray) (q1 : (convert 53 9 (.slice (some ⟨gp, 0 + sh cap h, none⟩) (l - h) (cap - h))).run Ybaf.prog wa.drew = .ok (.string s) wa.drew) (hp : wa.heap[NP]? = some (.cells (hdr C zp (some ⟨gp, 0 + sh cap h, none⟩) (l - h) (cap - h) len) 67 (0, 0))) (f : Nat → Value) (h20 : f 20 = .slice (some ⟨gp, 0, none⟩) n cap) (h30 : f 30 = .int .i64 ((h : Nat) : Int)) (h31 : f 31 = .int .i64 ((l : Nat) : Int)) (h33 : f 33 = .pointer (some ⟨NP, 0, none⟩)) (K : Act → World → Prop)
    (hK : ∀ (f' : Nat → Value), Same f f' [375, 374, 373, 368, 372, 371, 370, 369, 367, 366, 365, 361, 360, 364, 363, 362, 359] → f' 375 = .bool false → K (F4 f') (wa.drew)) :
    Code.wp Ybaf.prog (headC (thnC (tailC (headC (dropC 31 l4))))) (only K) (F4 f) wa := by
  have c6 : wa.cell? ⟨NP, 6, none⟩ = some (.slice (some ⟨gp, 0 + sh cap h, none⟩) (l - h) (cap - h)) := by rw [cell_of_row _ _ 6 _ 67 (0, 0) hp]; rfl
  have c7 : wa.cell? ⟨NP, 7, none⟩ = some (.int .i64 len) := by rw [cell_of_row _ _ 7 _ 67 (0, 0) hp]; rfl
  refine any4 17 (by kernel_rfl) (by kernel_rfl) ?_
  refine a_take 0 359 (.fieldAddr 67 (.tmp 33) 2) (v := .pointer (some ⟨NP, 6, none⟩)) (by kernel_rfl) (by kernel_rfl) (by kernel_rfl) (by kernel_rfl) (fun _ _ _ h => h) (fun _ => (ex_fa (u := .pointer (some ⟨NP, 0, none⟩)) (ev rfl h33) (fa67_2 _ _))) ?_
  refine a_take 3 362 (.move (.tmp 31)) (v := .int .i64 ((l : Nat) : Int)) (by kernel_rfl) (by kernel_rfl) (by kernel_rfl) (by kernel_rfl) (fun _ _ _ h => h) (fun _ => (ex_mv (ev rfl h31))) ?_
  refine a_take 4 363 (.move (.tmp 30)) (v := .int .i64 ((h : Nat) : Int)) (by kernel_rfl) (by kernel_rfl) (by kernel_rfl) (by kernel_rfl) (fun _ _ _ h => h) (fun _ => (ex_mv (ev rfl h30))) ?_
  refine a_take 5 364 (.binOp .sub 3 (.tmp 362) (.tmp 363) 3) (v := .int .i64 ((l - h : Nat) : Int)) (by kernel_rfl) (by kernel_rfl) (by kernel_rfl) (by kernel_rfl) (fun _ _ _ h => h) (fun _ => (ex_bn (u := .int .i64 ((l : Nat) : Int)) (u' := .int .i64 ((h : Nat) : Int)) (ev rfl rfl) (ev rfl rfl) (subI (by omega) (by omega) (by omega)))) ?_
  refine a_1 1 360 (.load 53 (.tmp 359)) (v := .slice (some ⟨gp, 0 + sh cap h, none⟩) (l - h) (cap - h)) (by kernel_rfl) (by kernel_rfl) (ex_ld (u := .pointer (some ⟨NP, 6, none⟩)) (ev rfl rfl) (ld53 (w := wa.drew) c6)) ?_
  refine a_take 2 361 (.call { callee := .builtin .len, args := #[(.tmp 360)], argTypes := #[53] }) (v := .int .i64 (((l - h) : Nat) : Int)) (by kernel_rfl) (by kernel_rfl) (by kernel_rfl) (by kernel_rfl) (fun _ _ _ h => h) (fun _ => (ex_len (ad := (some ⟨gp, 0 + sh cap h, none⟩)) (n := (l - h)) (c := (cap - h)) Ybaf.underlying53 (ev rfl rfl))) ?_
  refine a_take 6 365 (.binOp .neq 3 (.tmp 361) (.tmp 364) 3) (v := .bool false) (by kernel_rfl) (by kernel_rfl) (by kernel_rfl) (by kernel_rfl) (fun _ _ _ h => h) (fun _ => (ex_bn (u := .int .i64 (((l - h) : Nat) : Int)) (u' := .int .i64 ((l - h : Nat) : Int)) (ev rfl rfl) (ev rfl rfl) (neqI (by simp)))) ?_
  refine a_take 7 366 (.move (.tmp 365)) (v := .bool false) (by kernel_rfl) (by kernel_rfl) (by kernel_rfl) (by kernel_rfl) (fun _ _ _ h => h) (fun _ => (ex_mv (ev rfl rfl))) ?_
  refine a_takeg 8 367 7 366 false (.fieldAddr 67 (.tmp 33) 2) (v := .pointer (some ⟨NP, 6, none⟩)) (by kernel_rfl) (by kernel_rfl) (by rfl) (by rfl) (by kernel_rfl) (by kernel_rfl) (by kernel_rfl) (fun _ _ _ h => h) (fun _ => (ex_fa (u := .pointer (some ⟨NP, 0, none⟩)) (ev rfl h33) (fa67_2 _ _))) ?_
  refine a_takeg 10 369 7 366 false (.move (.tmp 20)) (v := .slice (some ⟨gp, 0, none⟩) n cap) (by kernel_rfl) (by kernel_rfl) (by rfl) (by rfl) (by kernel_rfl) (by kernel_rfl) (by kernel_rfl) (fun _ _ _ h => h) (fun _ => (ex_mv (ev rfl h20))) ?_
  refine a_takeg 11 370 7 366 false (.move (.tmp 30)) (v := .int .i64 ((h : Nat) : Int)) (by kernel_rfl) (by kernel_rfl) (by rfl) (by rfl) (by kernel_rfl) (by kernel_rfl) (by kernel_rfl) (fun _ _ _ h => h) (fun _ => (ex_mv (ev rfl h30))) ?_
  refine a_takeg 12 371 7 366 false (.move (.tmp 31)) (v := .int .i64 ((l : Nat) : Int)) (by kernel_rfl) (by kernel_rfl) (by rfl) (by rfl) (by kernel_rfl) (by kernel_rfl) (by kernel_rfl) (fun _ _ _ h => h) (fun _ => (ex_mv (ev rfl h31))) ?_
  refine a_takeg 13 372 7 366 false (.slice 53 (.tmp 369) (some (.tmp 370)) (some (.tmp 371)) none) (v := .slice (some ⟨gp, 0 + sh cap h, none⟩) (l - h) (cap - h)) (by kernel_rfl) (by kernel_rfl) (by rfl) (by rfl) (by kernel_rfl) (by kernel_rfl) (by kernel_rfl) (fun _ _ _ h => h) (fun _ => (ex_sllh (u := .slice (some ⟨gp, 0, none⟩) n cap) (lo := .int .i64 ((h : Nat) : Int)) (hi := .int .i64 ((l : Nat) : Int)) (ev rfl rfl) (ev rfl rfl) (ev rfl rfl) (sl53lh hh hl))) ?_
  refine a_1g 9 368 7 366 false (.load 53 (.tmp 367)) (v := .slice (some ⟨gp, 0 + sh cap h, none⟩) (l - h) (cap - h)) (by kernel_rfl) (by kernel_rfl) (by rfl) (by rfl) (by kernel_rfl) (ex_ld (u := .pointer (some ⟨NP, 6, none⟩)) (ev rfl rfl) (ld53 (w := wa.drew) c6)) ?_
  refine a_1cg 14 373 7 366 false (.call { callee := .value (.func 18), args := #[(.tmp 368), (.tmp 372)], argTypes := #[53, 53] }) (fn := 18) (args := #[.slice (some ⟨gp, 0 + sh cap h, none⟩) (l - h) (cap - h), .slice (some ⟨gp, 0 + sh cap h, none⟩) (l - h) (cap - h)]) (by kernel_rfl) (by kernel_rfl) (by rfl) (by rfl) (by kernel_rfl) (ex_fn2 (cf18 _) (ev rfl rfl) (ev rfl rfl)) (eqR (w := wa.drew) q1 q1) ?_
  rintro v x ⟨rfl, rfl⟩
  refine a_takeg 15 374 7 366 false (.unOp .not 4 (.tmp 373)) (v := .bool false) (by kernel_rfl) (by kernel_rfl) (by rfl) (by rfl) (by kernel_rfl) (by kernel_rfl) (by kernel_rfl) (fun _ _ _ h => h) (fun _ => (ex_not (b := true) (ev rfl rfl))) ?_
  refine a_take 16 375 (.pick (.tmp 366) (.const (.bool true)) (.tmp 374)) (v := .bool false) (by kernel_rfl) (by kernel_rfl) (by kernel_rfl) (by kernel_rfl) (fun _ _ _ h => h) (fun _ => (ex_pickf (ev rfl rfl) (ev rfl rfl))) ?_
  exact a_end (by kernel_rfl) (hK _ (((((((((((((((((Same.refl.put 359 _).put 362 _).put 363 _).put 364 _).put 360 _).put 361 _).put 365 _).put 366 _).put 367 _).put 369 _).put 370 _).put 371 _).put 372 _).put 368 _).put 373 _).put 374 _).put 375 _) rfl)
set_option maxRecDepth 100000 in
set_option maxHeartbeats 400000 in
theorem f86 (NP : Nat) (wa : World) (C : Nat → Nat) (zp : Option Addr) (len : Int) (hp : wa.heap[NP]? = some (.cells (hdr C zp none 0 0 len) 67 (0, 0))) (f : Nat → Value) (h33 : f 33 = .pointer (some ⟨NP, 0, none⟩)) (K : Act → World → Prop)
    (hK : ∀ (f' : Nat → Value), Same f f' [378, 377, 376] → f' 378 = .bool false → K (F4 f') (wa)) :
    Code.wp Ybaf.prog (headC (elsC (tailC (headC (dropC 31 l4))))) (only K) (F4 f) wa := by
  have c6 : wa.cell? ⟨NP, 6, none⟩ = some (.slice none 0 0) := by rw [cell_of_row _ _ 6 _ 67 (0, 0) hp]; rfl
  have c7 : wa.cell? ⟨NP, 7, none⟩ = some (.int .i64 len) := by rw [cell_of_row _ _ 7 _ 67 (0, 0) hp]; rfl
  refine reg4 (by kernel_rfl) ?_
  refine s_ex 0 376 (.fieldAddr 67 (.tmp 33) 2) (v := .pointer (some ⟨NP, 6, none⟩)) (by kernel_rfl) (ex_fa (u := .pointer (some ⟨NP, 0, none⟩)) (ev rfl h33) (fa67_2 _ _)) ?_
  refine s_ex 1 377 (.load 53 (.tmp 376)) (v := .slice none 0 0) (by kernel_rfl) (ex_ld (u := .pointer (some ⟨NP, 6, none⟩)) (ev rfl rfl) (ld53 c6)) ?_
  refine s_ex 2 378 (.binOp .neq 53 (.tmp 377) (.const (.slice none 0 0)) 53) (v := .bool false) (by kernel_rfl) (ex_bn (u := .slice none 0 0) (u' := .slice none 0 0) (ev rfl rfl) rfl (nilSlN)) ?_
  exact s_end (by kernel_rfl) (hK _  (((Same.refl.put 376 _).put 377 _).put 378 _) rfl)
set_option maxRecDepth 100000 in
set_option maxHeartbeats 400000 in
theorem f88a (py h l : Nat) (fg : Bool) (wa : World) (hr : py + 40 < h) (f : Nat → Value) (h30 : f 30 = .int .i64 ((h : Nat) : Int)) (h31 : f 31 = .int .i64 ((l : Nat) : Int)) (h36 : f 36 = .bool fg) (h40 : f 40 = .int .i64 ((py : Int) + 40 - (h : Int))) (K : Act → World → Prop)
    (hK : ∀ (f' : Nat → Value), Same f f' [388, 387, 386, 385, 384, 383, 382, 381, 380, 379] → f' 388 = .bool true → K (F4 f') (wa)) :
    Code.wp Ybaf.prog (headC (headC (dropC 32 l4))) (only K) (F4 f) wa := by
  refine reg4 (by kernel_rfl) ?_
  refine s_ex 0 379 (.move (.tmp 40)) (v := .int .i64 ((py : Int) + 40 - (h : Int))) (by kernel_rfl) (ex_mv (ev rfl h40)) ?_
  refine s_ex 1 380 (.binOp .lss 3 (.tmp 379) (.const (.int .i64 0)) 3) (v := .bool true) (by kernel_rfl) (ex_bn (u := .int .i64 ((py : Int) + 40 - (h : Int))) (u' := .int .i64 0) (ev rfl rfl) rfl (lssI (decide_eq_true (by omega)))) ?_
  refine s_ex 2 381 (.move (.tmp 380)) (v := .bool true) (by kernel_rfl) (ex_mv (ev rfl rfl)) ?_
  refine s_no 3 382 2 381 false (.move (.tmp 36)) (by kernel_rfl) (by kernel_rfl) (by rfl) (by rfl) ?_
  refine s_ex 4 383 (.pick (.tmp 381) (.const (.bool true)) (.tmp 382)) (v := .bool true) (by kernel_rfl) (ex_pickt (ev rfl rfl) rfl) ?_
  refine s_ex 5 384 (.move (.tmp 383)) (v := .bool true) (by kernel_rfl) (ex_mv (ev rfl rfl)) ?_
  refine s_no 6 385 5 384 false (.move (.tmp 31)) (by kernel_rfl) (by kernel_rfl) (by rfl) (by rfl) ?_
  refine s_no 7 386 5 384 false (.move (.tmp 30)) (by kernel_rfl) (by kernel_rfl) (by rfl) (by rfl) ?_
  refine s_no 8 387 5 384 false (.binOp .lss 3 (.tmp 385) (.tmp 386) 3) (by kernel_rfl) (by kernel_rfl) (by rfl) (by rfl) ?_
  refine s_ex 9 388 (.pick (.tmp 384) (.const (.bool true)) (.tmp 387)) (v := .bool true) (by kernel_rfl) (ex_pickt (ev rfl rfl) rfl) ?_
  exact s_end (by kernel_rfl) (hK _  ((((((((((Same.refl.put 379 _).put 380 _).put 381 _).put 382 _).put 383 _).put 384 _).put 385 _).put 386 _).put 387 _).put 388 _) rfl)
set_option maxRecDepth 100000 in
set_option maxHeartbeats 400000 in
theorem f88b (py h l : Nat) (wa : World) (hr : ¬ py + 40 < h) (f : Nat → Value) (h30 : f 30 = .int .i64 ((h : Nat) : Int)) (h31 : f 31 = .int .i64 ((l : Nat) : Int)) (h36 : f 36 = .bool true) (h40 : f 40 = .int .i64 ((py : Int) + 40 - (h : Int))) (K : Act → World → Prop)
    (hK : ∀ (f' : Nat → Value), Same f f' [388, 387, 386, 385, 384, 383, 382, 381, 380, 379] → f' 388 = .bool true → K (F4 f') (wa)) :
    Code.wp Ybaf.prog (headC (headC (dropC 32 l4))) (only K) (F4 f) wa := by
  refine reg4 (by kernel_rfl) ?_
  refine s_ex 0 379 (.move (.tmp 40)) (v := .int .i64 ((py : Int) + 40 - (h : Int))) (by kernel_rfl) (ex_mv (ev rfl h40)) ?_
  refine s_ex 1 380 (.binOp .lss 3 (.tmp 379) (.const (.int .i64 0)) 3) (v := .bool false) (by kernel_rfl) (ex_bn (u := .int .i64 ((py : Int) + 40 - (h : Int))) (u' := .int .i64 0) (ev rfl rfl) rfl (lssI (decide_eq_false (by omega)))) ?_
  refine s_ex 2 381 (.move (.tmp 380)) (v := .bool false) (by kernel_rfl) (ex_mv (ev rfl rfl)) ?_
  refine s_g 3 382 2 381 false (.move (.tmp 36)) (v := .bool true) (by kernel_rfl) (by kernel_rfl) (by rfl) (by rfl) (ex_mv (ev rfl h36)) ?_
  refine s_ex 4 383 (.pick (.tmp 381) (.const (.bool true)) (.tmp 382)) (v := .bool true) (by kernel_rfl) (ex_pickf (ev rfl rfl) (ev rfl rfl)) ?_
  refine s_ex 5 384 (.move (.tmp 383)) (v := .bool true) (by kernel_rfl) (ex_mv (ev rfl rfl)) ?_
  refine s_no 6 385 5 384 false (.move (.tmp 31)) (by kernel_rfl) (by kernel_rfl) (by rfl) (by rfl) ?_
  refine s_no 7 386 5 384 false (.move (.tmp 30)) (by kernel_rfl) (by kernel_rfl) (by rfl) (by rfl) ?_
  refine s_no 8 387 5 384 false (.binOp .lss 3 (.tmp 385) (.tmp 386) 3) (by kernel_rfl) (by kernel_rfl) (by rfl) (by rfl) ?_
  refine s_ex 9 388 (.pick (.tmp 384) (.const (.bool true)) (.tmp 387)) (v := .bool true) (by kernel_rfl) (ex_pickt (ev rfl rfl) rfl) ?_
  exact s_end (by kernel_rfl) (hK _  ((((((((((Same.refl.put 379 _).put 380 _).put 381 _).put 382 _).put 383 _).put 384 _).put 385 _).put 386 _).put 387 _).put 388 _) rfl)
set_option maxRecDepth 100000 in
set_option maxHeartbeats 400000 in
theorem f88c (py h l : Nat) (wa : World) (hr : ¬ py + 40 < h) (hl : l < h) (f : Nat → Value) (h30 : f 30 = .int .i64 ((h : Nat) : Int)) (h31 : f 31 = .int .i64 ((l : Nat) : Int)) (h36 : f 36 = .bool false) (h40 : f 40 = .int .i64 ((py : Int) + 40 - (h : Int))) (K : Act → World → Prop)
    (hK : ∀ (f' : Nat → Value), Same f f' [388, 387, 386, 385, 384, 383, 382, 381, 380, 379] → f' 388 = .bool true → K (F4 f') (wa)) :
    Code.wp Ybaf.prog (headC (headC (dropC 32 l4))) (only K) (F4 f) wa := by
  refine reg4 (by kernel_rfl) ?_
  refine s_ex 0 379 (.move (.tmp 40)) (v := .int .i64 ((py : Int) + 40 - (h : Int))) (by kernel_rfl) (ex_mv (ev rfl h40)) ?_
  refine s_ex 1 380 (.binOp .lss 3 (.tmp 379) (.const (.int .i64 0)) 3) (v := .bool false) (by kernel_rfl) (ex_bn (u := .int .i64 ((py : Int) + 40 - (h : Int))) (u' := .int .i64 0) (ev rfl rfl) rfl (lssI (decide_eq_false (by omega)))) ?_
  refine s_ex 2 381 (.move (.tmp 380)) (v := .bool false) (by kernel_rfl) (ex_mv (ev rfl rfl)) ?_
  refine s_g 3 382 2 381 false (.move (.tmp 36)) (v := .bool false) (by kernel_rfl) (by kernel_rfl) (by rfl) (by rfl) (ex_mv (ev rfl h36)) ?_
  refine s_ex 4 383 (.pick (.tmp 381) (.const (.bool true)) (.tmp 382)) (v := .bool false) (by kernel_rfl) (ex_pickf (ev rfl rfl) (ev rfl rfl)) ?_
  refine s_ex 5 384 (.move (.tmp 383)) (v := .bool false) (by kernel_rfl) (ex_mv (ev rfl rfl)) ?_
  refine s_g 6 385 5 384 false (.move (.tmp 31)) (v := .int .i64 ((l : Nat) : Int)) (by kernel_rfl) (by kernel_rfl) (by rfl) (by rfl) (ex_mv (ev rfl h31)) ?_
  refine s_g 7 386 5 384 false (.move (.tmp 30)) (v := .int .i64 ((h : Nat) : Int)) (by kernel_rfl) (by kernel_rfl) (by rfl) (by rfl) (ex_mv (ev rfl h30)) ?_
  refine s_g 8 387 5 384 false (.binOp .lss 3 (.tmp 385) (.tmp 386) 3) (v := .bool true) (by kernel_rfl) (by kernel_rfl) (by rfl) (by rfl) (ex_bn (u := .int .i64 ((l : Nat) : Int)) (u' := .int .i64 ((h : Nat) : Int)) (ev rfl rfl) (ev rfl rfl) (lssI (decide_eq_true (by omega)))) ?_
  refine s_ex 9 388 (.pick (.tmp 384) (.const (.bool true)) (.tmp 387)) (v := .bool true) (by kernel_rfl) (ex_pickf (ev rfl rfl) (ev rfl rfl)) ?_
  exact s_end (by kernel_rfl) (hK _  ((((((((((Same.refl.put 379 _).put 380 _).put 381 _).put 382 _).put 383 _).put 384 _).put 385 _).put 386 _).put 387 _).put 388 _) rfl)
set_option maxRecDepth 100000 in
set_option maxHeartbeats 400000 in
theorem f88d (py h l : Nat) (wa : World) (hr : ¬ py + 40 < h) (hl : ¬ l < h) (f : Nat → Value) (h30 : f 30 = .int .i64 ((h : Nat) : Int)) (h31 : f 31 = .int .i64 ((l : Nat) : Int)) (h36 : f 36 = .bool false) (h40 : f 40 = .int .i64 ((py : Int) + 40 - (h : Int))) (K : Act → World → Prop)
    (hK : ∀ (f' : Nat → Value), Same f f' [388, 387, 386, 385, 384, 383, 382, 381, 380, 379] → f' 388 = .bool false → K (F4 f') (wa)) :
    Code.wp Ybaf.prog (headC (headC (dropC 32 l4))) (only K) (F4 f) wa := by
  refine reg4 (by kernel_rfl) ?_
  refine s_ex 0 379 (.move (.tmp 40)) (v := .int .i64 ((py : Int) + 40 - (h : Int))) (by kernel_rfl) (ex_mv (ev rfl h40)) ?_
  refine s_ex 1 380 (.binOp .lss 3 (.tmp 379) (.const (.int .i64 0)) 3) (v := .bool false) (by kernel_rfl) (ex_bn (u := .int .i64 ((py : Int) + 40 - (h : Int))) (u' := .int .i64 0) (ev rfl rfl) rfl (lssI (decide_eq_false (by omega)))) ?_
  refine s_ex 2 381 (.move (.tmp 380)) (v := .bool false) (by kernel_rfl) (ex_mv (ev rfl rfl)) ?_
  refine s_g 3 382 2 381 false (.move (.tmp 36)) (v := .bool false) (by kernel_rfl) (by kernel_rfl) (by rfl) (by rfl) (ex_mv (ev rfl h36)) ?_
  refine s_ex 4 383 (.pick (.tmp 381) (.const (.bool true)) (.tmp 382)) (v := .bool false) (by kernel_rfl) (ex_pickf (ev rfl rfl) (ev rfl rfl)) ?_
  refine s_ex 5 384 (.move (.tmp 383)) (v := .bool false) (by kernel_rfl) (ex_mv (ev rfl rfl)) ?_
  refine s_g 6 385 5 384 false (.move (.tmp 31)) (v := .int .i64 ((l : Nat) : Int)) (by kernel_rfl) (by kernel_rfl) (by rfl) (by rfl) (ex_mv (ev rfl h31)) ?_
  refine s_g 7 386 5 384 false (.move (.tmp 30)) (v := .int .i64 ((h : Nat) : Int)) (by kernel_rfl) (by kernel_rfl) (by rfl) (by rfl) (ex_mv (ev rfl h30)) ?_
  refine s_g 8 387 5 384 false (.binOp .lss 3 (.tmp 385) (.tmp 386) 3) (v := .bool false) (by kernel_rfl) (by kernel_rfl) (by rfl) (by rfl) (ex_bn (u := .int .i64 ((l : Nat) : Int)) (u' := .int .i64 ((h : Nat) : Int)) (ev rfl rfl) (ev rfl rfl) (lssI (decide_eq_false (by omega)))) ?_
  refine s_ex 9 388 (.pick (.tmp 384) (.const (.bool true)) (.tmp 387)) (v := .bool false) (by kernel_rfl) (ex_pickf (ev rfl rfl) (ev rfl rfl)) ?_
  exact s_end (by kernel_rfl) (hK _  ((((((((((Same.refl.put 379 _).put 380 _).put 381 _).put 382 _).put 383 _).put 384 _).put 385 _).put 386 _).put 387 _).put 388 _) rfl)
set_option maxRecDepth 100000 in
set_option maxHeartbeats 400000 in
theorem f89a (NP py h : Nat) (fg : Bool) (wa : World) (C : Nat → Nat) (zp : Option Addr) (ea : Addr) (bb : Nat) (cs ce : Array Value) (ts te : TypeId) (hbb : wa.heap[bb]? = some (.cells cs ts (0, 0))) (hea : wa.heap[ea.block]? = some (.cells ce te (0, 0))) (hne : (⟨bb, 0, none⟩ : Addr) ≠ ea) (hg0 : wa.cell? ⟨0, 0, none⟩ = some (.iface 108 (.pointer (some ea)))) (tt : Option Addr) (tn tc : Nat) (hp : wa.heap[NP]? = some (.cells (hdr C zp tt tn tc 0) 67 (0, 0))) (hr : py + 40 < h) (f : Nat → Value) (h33 : f 33 = .pointer (some ⟨NP, 0, none⟩)) (h34 : f 34 = .bool false) (h35 : f 35 = .iface 108 (.pointer (some ⟨bb, 0, none⟩))) (h36 : f 36 = .bool fg) (h40 : f 40 = .int .i64 ((py : Int) + 40 - (h : Int))) (K : Act → World → Prop)
    (hK : ∀ (f' : Nat → Value), Same f f' [14, 410, 409, 408, 407, 406, 405, 404, 403, 402, 401, 400, 399, 398, 397, 396, 395, 394, 393, 392, 391, 390, 389] → f' 14 = .bool true → K (F4 f') (wa)) :
    Code.wp Ybaf.prog (headC (thnC (tailC (headC (dropC 32 l4))))) (only K) (F4 f) wa := by
  have c7 : wa.cell? ⟨NP, 7, none⟩ = some (.int .i64 0) := by rw [cell_of_row _ _ 7 _ 67 (0, 0) hp]; rfl
  refine reg4 (by kernel_rfl) ?_
  refine s_ex 0 389 (.move (.tmp 34)) (v := .bool false) (by kernel_rfl) (ex_mv (ev rfl h34)) ?_
  refine s_ex 1 390 (.unOp .not 4 (.tmp 389)) (v := .bool true) (by kernel_rfl) (ex_not (b := false) (ev rfl rfl)) ?_
  refine s_ex 2 391 (.move (.tmp 390)) (v := .bool true) (by kernel_rfl) (ex_mv (ev rfl rfl)) ?_
  refine s_g 3 392 2 391 true (.move (.tmp 35)) (v := .iface 108 (.pointer (some ⟨bb, 0, none⟩))) (by kernel_rfl) (by kernel_rfl) (by rfl) (by rfl) (ex_mv (ev rfl h35)) ?_
  refine s_g 4 393 2 391 true (.binOp .neq 30 (.tmp 392) (.const (.nilIface)) 30) (v := .bool true) (by kernel_rfl) (by kernel_rfl) (by rfl) (by rfl) (ex_bn (u := .iface 108 (.pointer (some ⟨bb, 0, none⟩))) (u' := .nilIface) (ev rfl rfl) rfl (newNe)) ?_
  refine s_ex 5 394 (.pick (.tmp 391) (.tmp 393) (.const (.bool false))) (v := .bool true) (by kernel_rfl) (ex_pickt (ev rfl rfl) (ev rfl rfl)) ?_
  refine s_ex 6 395 (.move (.tmp 394)) (v := .bool true) (by kernel_rfl) (ex_mv (ev rfl rfl)) ?_
  refine s_g 7 396 6 395 true (.fieldAddr 67 (.tmp 33) 3) (v := .pointer (some ⟨NP, 7, none⟩)) (by kernel_rfl) (by kernel_rfl) (by rfl) (by rfl) (ex_fa (u := .pointer (some ⟨NP, 0, none⟩)) (ev rfl h33) (fa67_3 _ _)) ?_
  refine s_g 8 397 6 395 true (.load 3 (.tmp 396)) (v := .int .i64 0) (by kernel_rfl) (by kernel_rfl) (by rfl) (by rfl) (ex_ld (u := .pointer (some ⟨NP, 7, none⟩)) (ev rfl rfl) (ld3 c7)) ?_
  refine s_g 9 398 6 395 true (.binOp .eql 3 (.tmp 397) (.const (.int .i64 0)) 3) (v := .bool true) (by kernel_rfl) (by kernel_rfl) (by rfl) (by rfl) (ex_bn (u := .int .i64 0) (u' := .int .i64 0) (ev rfl rfl) rfl (eqlI rfl)) ?_
  refine s_ex 10 399 (.pick (.tmp 395) (.tmp 398) (.const (.bool false))) (v := .bool true) (by kernel_rfl) (ex_pickt (ev rfl rfl) (ev rfl rfl)) ?_
  refine s_ex 11 400 (.move (.tmp 399)) (v := .bool true) (by kernel_rfl) (ex_mv (ev rfl rfl)) ?_
  refine s_g 12 401 11 400 true (.move (.tmp 35)) (v := .iface 108 (.pointer (some ⟨bb, 0, none⟩))) (by kernel_rfl) (by kernel_rfl) (by rfl) (by rfl) (ex_mv (ev rfl h35)) ?_
  refine s_g 13 402 11 400 true (.load 30 (.global 0)) (v := .iface 108 (.pointer (some ea))) (by kernel_rfl) (by kernel_rfl) (by rfl) (by rfl) (ex_ld (u := .pointer (some ⟨0, 0, none⟩)) rfl (ld30 hg0)) ?_
  refine s_gc 14 403 11 400 true (.call { callee := .value (.func 16), args := #[(.tmp 401), (.tmp 402)], argTypes := #[30, 30] }) (fn := 16) (args := #[.iface 108 (.pointer (some ⟨bb, 0, none⟩)), .iface 108 (.pointer (some ea))]) (by kernel_rfl) (by kernel_rfl) (by rfl) (by rfl) (ex_fn2 (cf16 _) (ev rfl rfl) (ev rfl rfl)) (isNo hne hbb hea) ?_
  rintro v x ⟨rfl, rfl⟩
  refine s_g 15 404 11 400 true (.move (.tmp 40)) (v := .int .i64 ((py : Int) + 40 - (h : Int))) (by kernel_rfl) (by kernel_rfl) (by rfl) (by rfl) (ex_mv (ev rfl h40)) ?_
  refine s_g 16 405 11 400 true (.binOp .geq 3 (.tmp 404) (.const (.int .i64 0)) 3) (v := .bool false) (by kernel_rfl) (by kernel_rfl) (by rfl) (by rfl) (ex_bn (u := .int .i64 ((py : Int) + 40 - (h : Int))) (u' := .int .i64 0) (ev rfl rfl) rfl (geqI (decide_eq_false (by omega)))) ?_
  refine s_g 17 406 11 400 true (.move (.tmp 405)) (v := .bool false) (by kernel_rfl) (by kernel_rfl) (by rfl) (by rfl) (ex_mv (ev rfl rfl)) ?_
  refine s_no 18 407 17 406 true (.move (.tmp 36)) (by kernel_rfl) (by kernel_rfl) (by rfl) (by rfl) ?_
  refine s_g 19 408 11 400 true (.pick (.tmp 406) (.tmp 407) (.const (.bool false))) (v := .bool false) (by kernel_rfl) (by kernel_rfl) (by rfl) (by rfl) (ex_pickf (ev rfl rfl) rfl) ?_
  refine s_g 20 409 11 400 true (.binOp .eql 4 (.tmp 403) (.tmp 408) 4) (v := .bool true) (by kernel_rfl) (by kernel_rfl) (by rfl) (by rfl) (ex_bn (u := .bool false) (u' := .bool false) (ev rfl rfl) (ev rfl rfl) (eqlB)) ?_
  refine s_ex 21 410 (.pick (.tmp 400) (.tmp 409) (.const (.bool false))) (v := .bool true) (by kernel_rfl) (ex_pickt (ev rfl rfl) (ev rfl rfl)) ?_
  refine s_ex 22 14 (.assign (.tmp 410)) (v := .bool true) (by kernel_rfl) (ex_as (ev rfl rfl)) ?_
  exact s_end (by kernel_rfl) (hK _  (((((((((((((((((((((((Same.refl.put 389 _).put 390 _).put 391 _).put 392 _).put 393 _).put 394 _).put 395 _).put 396 _).put 397 _).put 398 _).put 399 _).put 400 _).put 401 _).put 402 _).put 403 _).put 404 _).put 405 _).put 406 _).put 407 _).put 408 _).put 409 _).put 410 _).put 14 _) rfl)
set_option maxRecDepth 100000 in
set_option maxHeartbeats 400000 in
theorem f89b (NP py h : Nat) (wa : World) (C : Nat → Nat) (zp : Option Addr) (ea : Addr) (hg0 : wa.cell? ⟨0, 0, none⟩ = some (.iface 108 (.pointer (some ea)))) (tt : Option Addr) (tn tc : Nat) (hp : wa.heap[NP]? = some (.cells (hdr C zp tt tn tc 0) 67 (0, 0))) (hr : ¬ py + 40 < h) (f : Nat → Value) (h33 : f 33 = .pointer (some ⟨NP, 0, none⟩)) (h34 : f 34 = .bool false) (h35 : f 35 = .iface 108 (.pointer (some ea))) (h36 : f 36 = .bool true) (h40 : f 40 = .int .i64 ((py : Int) + 40 - (h : Int))) (K : Act → World → Prop)
    (hK : ∀ (f' : Nat → Value), Same f f' [14, 410, 409, 408, 407, 406, 405, 404, 403, 402, 401, 400, 399, 398, 397, 396, 395, 394, 393, 392, 391, 390, 389] → f' 14 = .bool true → K (F4 f') (wa)) :
    Code.wp Ybaf.prog (headC (thnC (tailC (headC (dropC 32 l4))))) (only K) (F4 f) wa := by
  have c7 : wa.cell? ⟨NP, 7, none⟩ = some (.int .i64 0) := by rw [cell_of_row _ _ 7 _ 67 (0, 0) hp]; rfl
  refine reg4 (by kernel_rfl) ?_
  refine s_ex 0 389 (.move (.tmp 34)) (v := .bool false) (by kernel_rfl) (ex_mv (ev rfl h34)) ?_
  refine s_ex 1 390 (.unOp .not 4 (.tmp 389)) (v := .bool true) (by kernel_rfl) (ex_not (b := false) (ev rfl rfl)) ?_
  refine s_ex 2 391 (.move (.tmp 390)) (v := .bool true) (by kernel_rfl) (ex_mv (ev rfl rfl)) ?_
  refine s_g 3 392 2 391 true (.move (.tmp 35)) (v := .iface 108 (.pointer (some ea))) (by kernel_rfl) (by kernel_rfl) (by rfl) (by rfl) (ex_mv (ev rfl h35)) ?_
  refine s_g 4 393 2 391 true (.binOp .neq 30 (.tmp 392) (.const (.nilIface)) 30) (v := .bool true) (by kernel_rfl) (by kernel_rfl) (by rfl) (by rfl) (ex_bn (u := .iface 108 (.pointer (some ea))) (u' := .nilIface) (ev rfl rfl) rfl (newNe)) ?_
  refine s_ex 5 394 (.pick (.tmp 391) (.tmp 393) (.const (.bool false))) (v := .bool true) (by kernel_rfl) (ex_pickt (ev rfl rfl) (ev rfl rfl)) ?_
  refine s_ex 6 395 (.move (.tmp 394)) (v := .bool true) (by kernel_rfl) (ex_mv (ev rfl rfl)) ?_
  refine s_g 7 396 6 395 true (.fieldAddr 67 (.tmp 33) 3) (v := .pointer (some ⟨NP, 7, none⟩)) (by kernel_rfl) (by kernel_rfl) (by rfl) (by rfl) (ex_fa (u := .pointer (some ⟨NP, 0, none⟩)) (ev rfl h33) (fa67_3 _ _)) ?_
  refine s_g 8 397 6 395 true (.load 3 (.tmp 396)) (v := .int .i64 0) (by kernel_rfl) (by kernel_rfl) (by rfl) (by rfl) (ex_ld (u := .pointer (some ⟨NP, 7, none⟩)) (ev rfl rfl) (ld3 c7)) ?_
  refine s_g 9 398 6 395 true (.binOp .eql 3 (.tmp 397) (.const (.int .i64 0)) 3) (v := .bool true) (by kernel_rfl) (by kernel_rfl) (by rfl) (by rfl) (ex_bn (u := .int .i64 0) (u' := .int .i64 0) (ev rfl rfl) rfl (eqlI rfl)) ?_
  refine s_ex 10 399 (.pick (.tmp 395) (.tmp 398) (.const (.bool false))) (v := .bool true) (by kernel_rfl) (ex_pickt (ev rfl rfl) (ev rfl rfl)) ?_
  refine s_ex 11 400 (.move (.tmp 399)) (v := .bool true) (by kernel_rfl) (ex_mv (ev rfl rfl)) ?_
  refine s_g 12 401 11 400 true (.move (.tmp 35)) (v := .iface 108 (.pointer (some ea))) (by kernel_rfl) (by kernel_rfl) (by rfl) (by rfl) (ex_mv (ev rfl h35)) ?_
  refine s_g 13 402 11 400 true (.load 30 (.global 0)) (v := .iface 108 (.pointer (some ea))) (by kernel_rfl) (by kernel_rfl) (by rfl) (by rfl) (ex_ld (u := .pointer (some ⟨0, 0, none⟩)) rfl (ld30 hg0)) ?_
  refine s_gc 14 403 11 400 true (.call { callee := .value (.func 16), args := #[(.tmp 401), (.tmp 402)], argTypes := #[30, 30] }) (fn := 16) (args := #[.iface 108 (.pointer (some ea)), .iface 108 (.pointer (some ea))]) (by kernel_rfl) (by kernel_rfl) (by rfl) (by rfl) (ex_fn2 (cf16 _) (ev rfl rfl) (ev rfl rfl)) (isYes) ?_
  rintro v x ⟨rfl, rfl⟩
  refine s_g 15 404 11 400 true (.move (.tmp 40)) (v := .int .i64 ((py : Int) + 40 - (h : Int))) (by kernel_rfl) (by kernel_rfl) (by rfl) (by rfl) (ex_mv (ev rfl h40)) ?_
  refine s_g 16 405 11 400 true (.binOp .geq 3 (.tmp 404) (.const (.int .i64 0)) 3) (v := .bool true) (by kernel_rfl) (by kernel_rfl) (by rfl) (by rfl) (ex_bn (u := .int .i64 ((py : Int) + 40 - (h : Int))) (u' := .int .i64 0) (ev rfl rfl) rfl (geqI (decide_eq_true (by omega)))) ?_
  refine s_g 17 406 11 400 true (.move (.tmp 405)) (v := .bool true) (by kernel_rfl) (by kernel_rfl) (by rfl) (by rfl) (ex_mv (ev rfl rfl)) ?_
  refine s_g 18 407 17 406 true (.move (.tmp 36)) (v := .bool true) (by kernel_rfl) (by kernel_rfl) (by rfl) (by rfl) (ex_mv (ev rfl h36)) ?_
  refine s_g 19 408 11 400 true (.pick (.tmp 406) (.tmp 407) (.const (.bool false))) (v := .bool true) (by kernel_rfl) (by kernel_rfl) (by rfl) (by rfl) (ex_pickt (ev rfl rfl) (ev rfl rfl)) ?_
  refine s_g 20 409 11 400 true (.binOp .eql 4 (.tmp 403) (.tmp 408) 4) (v := .bool true) (by kernel_rfl) (by kernel_rfl) (by rfl) (by rfl) (ex_bn (u := .bool true) (u' := .bool true) (ev rfl rfl) (ev rfl rfl) (eqlB)) ?_
  refine s_ex 21 410 (.pick (.tmp 400) (.tmp 409) (.const (.bool false))) (v := .bool true) (by kernel_rfl) (ex_pickt (ev rfl rfl) (ev rfl rfl)) ?_
  refine s_ex 22 14 (.assign (.tmp 410)) (v := .bool true) (by kernel_rfl) (ex_as (ev rfl rfl)) ?_
  exact s_end (by kernel_rfl) (hK _  (((((((((((((((((((((((Same.refl.put 389 _).put 390 _).put 391 _).put 392 _).put 393 _).put 394 _).put 395 _).put 396 _).put 397 _).put 398 _).put 399 _).put 400 _).put 401 _).put 402 _).put 403 _).put 404 _).put 405 _).put 406 _).put 407 _).put 408 _).put 409 _).put 410 _).put 14 _) rfl)
set_option maxRecDepth 100000 in
set_option maxHeartbeats 400000 in
theorem f89c (NP py h : Nat) (wa : World) (C : Nat → Nat) (zp : Option Addr) (ea : Addr) (bb : Nat) (cs ce : Array Value) (ts te : TypeId) (hbb : wa.heap[bb]? = some (.cells cs ts (0, 0))) (hea : wa.heap[ea.block]? = some (.cells ce te (0, 0))) (hne : (⟨bb, 0, none⟩ : Addr) ≠ ea) (hg0 : wa.cell? ⟨0, 0, none⟩ = some (.iface 108 (.pointer (some ea)))) (tt : Option Addr) (tn tc : Nat) (hp : wa.heap[NP]? = some (.cells (hdr C zp tt tn tc 0) 67 (0, 0))) (hr : ¬ py + 40 < h) (f : Nat → Value) (h33 : f 33 = .pointer (some ⟨NP, 0, none⟩)) (h34 : f 34 = .bool false) (h35 : f 35 = .iface 108 (.pointer (some ⟨bb, 0, none⟩))) (h36 : f 36 = .bool false) (h40 : f 40 = .int .i64 ((py : Int) + 40 - (h : Int))) (K : Act → World → Prop)
    (hK : ∀ (f' : Nat → Value), Same f f' [14, 410, 409, 408, 407, 406, 405, 404, 403, 402, 401, 400, 399, 398, 397, 396, 395, 394, 393, 392, 391, 390, 389] → f' 14 = .bool true → K (F4 f') (wa)) :
    Code.wp Ybaf.prog (headC (thnC (tailC (headC (dropC 32 l4))))) (only K) (F4 f) wa := by
  have c7 : wa.cell? ⟨NP, 7, none⟩ = some (.int .i64 0) := by rw [cell_of_row _ _ 7 _ 67 (0, 0) hp]; rfl
  refine reg4 (by kernel_rfl) ?_
  refine s_ex 0 389 (.move (.tmp 34)) (v := .bool false) (by kernel_rfl) (ex_mv (ev rfl h34)) ?_
  refine s_ex 1 390 (.unOp .not 4 (.tmp 389)) (v := .bool true) (by kernel_rfl) (ex_not (b := false) (ev rfl rfl)) ?_
  refine s_ex 2 391 (.move (.tmp 390)) (v := .bool true) (by kernel_rfl) (ex_mv (ev rfl rfl)) ?_
  refine s_g 3 392 2 391 true (.move (.tmp 35)) (v := .iface 108 (.pointer (some ⟨bb, 0, none⟩))) (by kernel_rfl) (by kernel_rfl) (by rfl) (by rfl) (ex_mv (ev rfl h35)) ?_
  refine s_g 4 393 2 391 true (.binOp .neq 30 (.tmp 392) (.const (.nilIface)) 30) (v := .bool true) (by kernel_rfl) (by kernel_rfl) (by rfl) (by rfl) (ex_bn (u := .iface 108 (.pointer (some ⟨bb, 0, none⟩))) (u' := .nilIface) (ev rfl rfl) rfl (newNe)) ?_
  refine s_ex 5 394 (.pick (.tmp 391) (.tmp 393) (.const (.bool false))) (v := .bool true) (by kernel_rfl) (ex_pickt (ev rfl rfl) (ev rfl rfl)) ?_
  refine s_ex 6 395 (.move (.tmp 394)) (v := .bool true) (by kernel_rfl) (ex_mv (ev rfl rfl)) ?_
  refine s_g 7 396 6 395 true (.fieldAddr 67 (.tmp 33) 3) (v := .pointer (some ⟨NP, 7, none⟩)) (by kernel_rfl) (by kernel_rfl) (by rfl) (by rfl) (ex_fa (u := .pointer (some ⟨NP, 0, none⟩)) (ev rfl h33) (fa67_3 _ _)) ?_
  refine s_g 8 397 6 395 true (.load 3 (.tmp 396)) (v := .int .i64 0) (by kernel_rfl) (by kernel_rfl) (by rfl) (by rfl) (ex_ld (u := .pointer (some ⟨NP, 7, none⟩)) (ev rfl rfl) (ld3 c7)) ?_
  refine s_g 9 398 6 395 true (.binOp .eql 3 (.tmp 397) (.const (.int .i64 0)) 3) (v := .bool true) (by kernel_rfl) (by kernel_rfl) (by rfl) (by rfl) (ex_bn (u := .int .i64 0) (u' := .int .i64 0) (ev rfl rfl) rfl (eqlI rfl)) ?_
  refine s_ex 10 399 (.pick (.tmp 395) (.tmp 398) (.const (.bool false))) (v := .bool true) (by kernel_rfl) (ex_pickt (ev rfl rfl) (ev rfl rfl)) ?_
  refine s_ex 11 400 (.move (.tmp 399)) (v := .bool true) (by kernel_rfl) (ex_mv (ev rfl rfl)) ?_
  refine s_g 12 401 11 400 true (.move (.tmp 35)) (v := .iface 108 (.pointer (some ⟨bb, 0, none⟩))) (by kernel_rfl) (by kernel_rfl) (by rfl) (by rfl) (ex_mv (ev rfl h35)) ?_
  refine s_g 13 402 11 400 true (.load 30 (.global 0)) (v := .iface 108 (.pointer (some ea))) (by kernel_rfl) (by kernel_rfl) (by rfl) (by rfl) (ex_ld (u := .pointer (some ⟨0, 0, none⟩)) rfl (ld30 hg0)) ?_
  refine s_gc 14 403 11 400 true (.call { callee := .value (.func 16), args := #[(.tmp 401), (.tmp 402)], argTypes := #[30, 30] }) (fn := 16) (args := #[.iface 108 (.pointer (some ⟨bb, 0, none⟩)), .iface 108 (.pointer (some ea))]) (by kernel_rfl) (by kernel_rfl) (by rfl) (by rfl) (ex_fn2 (cf16 _) (ev rfl rfl) (ev rfl rfl)) (isNo hne hbb hea) ?_
  rintro v x ⟨rfl, rfl⟩
  refine s_g 15 404 11 400 true (.move (.tmp 40)) (v := .int .i64 ((py : Int) + 40 - (h : Int))) (by kernel_rfl) (by kernel_rfl) (by rfl) (by rfl) (ex_mv (ev rfl h40)) ?_
  refine s_g 16 405 11 400 true (.binOp .geq 3 (.tmp 404) (.const (.int .i64 0)) 3) (v := .bool true) (by kernel_rfl) (by kernel_rfl) (by rfl) (by rfl) (ex_bn (u := .int .i64 ((py : Int) + 40 - (h : Int))) (u' := .int .i64 0) (ev rfl rfl) rfl (geqI (decide_eq_true (by omega)))) ?_
  refine s_g 17 406 11 400 true (.move (.tmp 405)) (v := .bool true) (by kernel_rfl) (by kernel_rfl) (by rfl) (by rfl) (ex_mv (ev rfl rfl)) ?_
  refine s_g 18 407 17 406 true (.move (.tmp 36)) (v := .bool false) (by kernel_rfl) (by kernel_rfl) (by rfl) (by rfl) (ex_mv (ev rfl h36)) ?_
  refine s_g 19 408 11 400 true (.pick (.tmp 406) (.tmp 407) (.const (.bool false))) (v := .bool false) (by kernel_rfl) (by kernel_rfl) (by rfl) (by rfl) (ex_pickt (ev rfl rfl) (ev rfl rfl)) ?_
  refine s_g 20 409 11 400 true (.binOp .eql 4 (.tmp 403) (.tmp 408) 4) (v := .bool true) (by kernel_rfl) (by kernel_rfl) (by rfl) (by rfl) (ex_bn (u := .bool false) (u' := .bool false) (ev rfl rfl) (ev rfl rfl) (eqlB)) ?_
  refine s_ex 21 410 (.pick (.tmp 400) (.tmp 409) (.const (.bool false))) (v := .bool true) (by kernel_rfl) (ex_pickt (ev rfl rfl) (ev rfl rfl)) ?_
  refine s_ex 22 14 (.assign (.tmp 410)) (v := .bool true) (by kernel_rfl) (ex_as (ev rfl rfl)) ?_
  exact s_end (by kernel_rfl) (hK _  (((((((((((((((((((((((Same.refl.put 389 _).put 390 _).put 391 _).put 392 _).put 393 _).put 394 _).put 395 _).put 396 _).put 397 _).put 398 _).put 399 _).put 400 _).put 401 _).put 402 _).put 403 _).put 404 _).put 405 _).put 406 _).put 407 _).put 408 _).put 409 _).put 410 _).put 14 _) rfl)
set_option maxRecDepth 100000 in
set_option maxHeartbeats 400000 in
theorem f90 (NP py h : Nat) (wa : World) (C : Nat → Nat) (zp tt : Option Addr) (tn tc : Nat) (hp : wa.heap[NP]? = some (.cells (hdr C zp tt tn tc ((py : Int) + 40 - (h : Int))) 67 (0, 0))) (f : Nat → Value) (h33 : f 33 = .pointer (some ⟨NP, 0, none⟩)) (h34 : f 34 = .bool true) (h35 : f 35 = .nilIface) (h40 : f 40 = .int .i64 ((py : Int) + 40 - (h : Int))) (K : Act → World → Prop)
    (hK : ∀ (f' : Nat → Value), Same f f' [14, 421, 420, 419, 418, 417, 416, 415, 414, 413, 412, 411] → f' 14 = .bool true → K (F4 f') (wa)) :
    Code.wp Ybaf.prog (headC (dropC 33 l4)) (only K) (F4 f) wa := by
  have c7 : wa.cell? ⟨NP, 7, none⟩ = some (.int .i64 ((py : Int) + 40 - (h : Int))) := by rw [cell_of_row _ _ 7 _ 67 (0, 0) hp]; rfl
  refine reg4 (by kernel_rfl) ?_
  refine s_ex 0 411 (.move (.tmp 34)) (v := .bool true) (by kernel_rfl) (ex_mv (ev rfl h34)) ?_
  refine s_ex 1 412 (.move (.tmp 411)) (v := .bool true) (by kernel_rfl) (ex_mv (ev rfl rfl)) ?_
  refine s_g 2 413 1 412 true (.move (.tmp 35)) (v := .nilIface) (by kernel_rfl) (by kernel_rfl) (by rfl) (by rfl) (ex_mv (ev rfl h35)) ?_
  refine s_g 3 414 1 412 true (.binOp .eql 30 (.tmp 413) (.const (.nilIface)) 30) (v := .bool true) (by kernel_rfl) (by kernel_rfl) (by rfl) (by rfl) (ex_bn (u := .nilIface) (u' := .nilIface) (ev rfl rfl) rfl (nilE)) ?_
  refine s_ex 4 415 (.pick (.tmp 412) (.tmp 414) (.const (.bool false))) (v := .bool true) (by kernel_rfl) (ex_pickt (ev rfl rfl) (ev rfl rfl)) ?_
  refine s_ex 5 416 (.move (.tmp 415)) (v := .bool true) (by kernel_rfl) (ex_mv (ev rfl rfl)) ?_
  refine s_g 6 417 5 416 true (.fieldAddr 67 (.tmp 33) 3) (v := .pointer (some ⟨NP, 7, none⟩)) (by kernel_rfl) (by kernel_rfl) (by rfl) (by rfl) (ex_fa (u := .pointer (some ⟨NP, 0, none⟩)) (ev rfl h33) (fa67_3 _ _)) ?_
  refine s_g 7 418 5 416 true (.load 3 (.tmp 417)) (v := .int .i64 ((py : Int) + 40 - (h : Int))) (by kernel_rfl) (by kernel_rfl) (by rfl) (by rfl) (ex_ld (u := .pointer (some ⟨NP, 7, none⟩)) (ev rfl rfl) (ld3 c7)) ?_
  refine s_g 8 419 5 416 true (.move (.tmp 40)) (v := .int .i64 ((py : Int) + 40 - (h : Int))) (by kernel_rfl) (by kernel_rfl) (by rfl) (by rfl) (ex_mv (ev rfl h40)) ?_
  refine s_g 9 420 5 416 true (.binOp .eql 3 (.tmp 418) (.tmp 419) 3) (v := .bool true) (by kernel_rfl) (by kernel_rfl) (by rfl) (by rfl) (ex_bn (u := .int .i64 ((py : Int) + 40 - (h : Int))) (u' := .int .i64 ((py : Int) + 40 - (h : Int))) (ev rfl rfl) (ev rfl rfl) (eqlI (by simp))) ?_
  refine s_ex 10 421 (.pick (.tmp 416) (.tmp 420) (.const (.bool false))) (v := .bool true) (by kernel_rfl) (ex_pickt (ev rfl rfl) (ev rfl rfl)) ?_
  refine s_ex 11 14 (.assign (.tmp 421)) (v := .bool true) (by kernel_rfl) (ex_as (ev rfl rfl)) ?_
  exact s_end (by kernel_rfl) (hK _  ((((((((((((Same.refl.put 411 _).put 412 _).put 413 _).put 414 _).put 415 _).put 416 _).put 417 _).put 418 _).put 419 _).put 420 _).put 421 _).put 14 _) rfl)
end Go.Proofs.YbulkblsgFmt

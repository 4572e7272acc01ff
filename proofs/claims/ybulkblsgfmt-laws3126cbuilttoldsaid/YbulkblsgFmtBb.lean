import Derived.Test.YbulkblsgFmtBa
import Derived.Test.YbulkblsgFmtAn
import Derived.Deep.Upon
namespace Go.Proofs.YbulkblsgFmt
open Go.RowKit Go.Extern.Stop Go.Stop Go.Extern
set_option linter.unusedVariables false
set_option linter.unusedSimpArgs false
def byt (G : Nat → Nat) (n : Nat) : List Value := (List.range n).map (fun k => .int .u8 ((G k : Nat) : Int))
theorem byt_len (G : Nat → Nat) (n : Nat) : (byt G n).length = n := by simp [byt]
theorem byt_at (G : Nat → Nat) (n k : Nat) (h : k < n) : (byt G n)[k]? = some (.int .u8 ((G k : Nat) : Int)) := by simp [byt, h]
theorem byt_one (G : Nat → Nat) (n : Nat) : ∀ u ∈ byt G n, u.oneCell' = true := by
  intro u hu
  simp only [byt, List.mem_map] at hu
  obtain ⟨k, _, rfl⟩ := hu
  rfl
theorem beq44 (k : Nat) : (((k : Nat) : Int) == 44) = decide (k = 44) := by
  by_cases h : k = 44
  · subst h; rfl
  · rw [decide_eq_false h]; simp; omega
theorem iparts {P : Program} {t : TypeId} {v : Value} {n b : Nat} (h : (P.info? t).map (fun i => (i.zero, i.size, i.bytes)) = some (some v, n, b)) : ∃ i, P.info? t = some i ∧ i.zero = some v ∧ i.size = n ∧ i.bytes = b := by
  cases hq : P.info? t with
  | none => simp [hq] at h
  | some i => simp [hq] at h; exact ⟨i, rfl, h.1, h.2.1, h.2.2⟩
unseal W4 in
/-- An append of bytes that lie in a slice. -/
theorem s_app {c : Code} {Q : Exit → Act → World → Prop} {f : Nat → Value} {w : World} (i d s x : Nat) (hk : key (opAt c i) = (none, some d, .call { callee := .builtin .append, args := #[.tmp s, .tmp x], argTypes := #[53, 53] })) (hs422 : Nat.blt s 422 = true) (hx422 : Nat.blt x 422 = true) (base : Nat) (v : Value) (n : Nat) (xs : List Value) (hs : f s = v) (hown : w.ownsRow base 5 1 v n xs)
    (ad : Addr) (m c' : Nat) (news : List Value) (hx : f x = .slice (some ad) m c') (hl : news.length = m) (hnews : ∀ j u, news[j]? = some u → w.cell? (ad.add j) = some u) (h1 : ∀ u ∈ news, u.oneCell' = true) (hm : 0 < m) (hn : n + m ≤ 1000000) (hbase : base ≤ w.heap.size)
    (h : ∀ g cap w', w'.ownsRow base 5 1 (.slice (some ⟨g, 0, none⟩) (n + m) cap) (n + m) (xs ++ news) → w.grownBy w' v.ownBlock → (v.ownBlock = some g ∨ g = w.heap.size) → g < w'.heap.size → W4 c Q (i + 1) (upd f d (.slice (some ⟨g, 0, none⟩) (n + m) cap)) w') : W4 c Q i f w := by
  have hg : (opAt c i).guard = none := congrArg (·.1) hk
  have hd : (opAt c i).dst = some d := congrArg (·.2.1) hk
  have ho := (congrArg (·.2.2) hk : (opAt c i).op = _)
  obtain ⟨i5, hi5, hz5, hs5, hb5⟩ := iparts info5'
  unfold W4
  rw [drop_of_at (at_of_key hk (Or.inl rfl))]
  refine wpList_plain hg fun K2 hK2 => ?_
  refine wp_append_lies _ (.tmp s) (.tmp x) 53 ho base 5 i5 _ 1 1 Ybaf.underlying53 hi5 hz5 hs5 hb5 rfl (by omega) v n xs (ev hs422 hs) hown ad m c' news (ev hx422 hx) (by omega) hnews h1 hm (by unfold maxLen; omega) (by omega) hbase w.heap.size rfl ?_
  intro g cap w' q1 q2 q3 q4
  refine hK2 _ _ ?_
  rw [hd, Fm_put]
  exact h g cap w' q1 q2 q3 q4
unseal W4 in
/-- Nothing is appended. -/
theorem s_app0 {c : Code} {Q : Exit → Act → World → Prop} {f : Nat → Value} {w : World} (i d s x : Nat) (hk : key (opAt c i) = (none, some d, .call { callee := .builtin .append, args := #[.tmp s, .tmp x], argTypes := #[53, 53] })) (hs422 : Nat.blt s 422 = true) (hx422 : Nat.blt x 422 = true) (gb n cap : Nat) (hs : f s = .slice (some ⟨gb, 0, none⟩) n cap) (hcap : n ≤ cap)
    (a0 : Option Addr) (c' : Nat) (hx : f x = .slice a0 0 c') (h : W4 c Q (i + 1) (upd f d (.slice (some ⟨gb, 0, none⟩) n cap)) w) : W4 c Q i f w := by
  have hg : (opAt c i).guard = none := congrArg (·.1) hk
  have hd : (opAt c i).dst = some d := congrArg (·.2.1) hk
  have ho := (congrArg (·.2.2) hk : (opAt c i).op = _)
  obtain ⟨i5, hi5, hz5, hs5, hb5⟩ := iparts info5'
  have hr : (Builtin.append_ #[53, 53] (opAt c i).type #[.slice (some ⟨gb, 0, none⟩) n cap, .slice a0 0 c']).run Ybaf.prog w = .ok (.slice (some ⟨gb, 0, none⟩) n cap) w := by
    cases a0 <;> simp [Builtin.append_, run_underlying Ybaf.underlying53, sizeOf, typeInfo, hi5, Builtin.lenOf, Builtin.firstCells, hcap, storeCells, loadCells, loadCellsFrom]
  unfold W4
  rw [drop_of_at (at_of_key hk (Or.inl rfl))]
  refine pl d hg hd (v := .slice (some ⟨gb, 0, none⟩) n cap) (w' := w) ?_ (by rw [Fm_put]; exact h)
  unfold execOp
  simp only [ho, resolve, invoke, builtin, Sem.run_bind, Sem.run_pure, Result.andThen_ok, List.map_toArray, List.map_cons, List.map_nil, evN hs422 hs, evN hx422 hx, hr]
theorem ld56 {x y z u : Value} {b o : Nat} {w : World} (h0 : w.cell? ⟨b, o, none⟩ = some x) (h1 : w.cell? ⟨b, o + 1, none⟩ = some y) (h2 : w.cell? ⟨b, o + 2, none⟩ = some z) (h3 : w.cell? ⟨b, o + 3, none⟩ = some u) : (Instr.loadAt 56 (.pointer (some ⟨b, o, none⟩))).run Ybaf.prog w = .ok (.agg #[x, y, z, u]) w :=
  run_loadAt_mid w b o 56 [x, y, z, u] _ (fun j v hv => by
    match j with
    | 0 => exact h0.trans hv
    | 1 => exact h1.trans hv
    | 2 => exact h2.trans hv
    | 3 => exact h3.trans hv
    | j + 4 => simp at hv) Ybaf.underlying56 rfl (by kernel_rfl)
theorem al56 (w : World) : (Instr.alloc 56 true (.tuple #[])).run Ybaf.prog w = .ok (.pointer (some ⟨w.heap.size, 0, none⟩)) (w.alloc (.cells #[.int .u8 0, .int .u8 0, .int .u16 0, .int .u8 0] 56)) := by kernel_rfl
set_option maxRecDepth 100000 in
set_option maxHeartbeats 400000 in
theorem f13 (xb xo m c0 kb sb i k l : Nat) (u : Value) (wa : World) (hi : i < m) (hk : wa.cell? ⟨kb, i, none⟩ = some (.int .u8 (k : Nat))) (hl : wa.cell? ⟨xb, xo + i * 4 + 1, none⟩ = some (.int .u8 (l : Nat))) (hl2 : l ≤ 255) (hc : wa.cell? ⟨sb, i, none⟩ = some u) (hf : wa.frozen? ⟨sb, i, none⟩ = false) (f : Nat → Value) (h0 : f 0 = .slice (some ⟨xb, xo, none⟩) m c0) (h16 : f 16 = .slice (some ⟨kb, 0, none⟩) m m) (h17 : f 17 = .slice (some ⟨sb, 0, none⟩) m m) (h19 : f 19 = .int .i64 ((i : Nat) : Int)) (K : Act → World → Prop)
    (hK : ∀ (f' : Nat → Value), Same f f' [85, 84, 83, 78, 82, 81, 80, 79, 77, 76, 75, 74, 73] → K (F4 f') (wa.drew.setCell ⟨sb, i, none⟩ (.int .i64 ((siz k l : Nat) : Int)))) :
    Code.wp Ybaf.prog (dropC 2 (blkC (headC (dropC 2 l4a)))) (only K) (F4 f) wa := by
  refine any4 14 (by kernel_rfl) (by kernel_rfl) ?_
  refine a_take 0 73 (.move (.tmp 17)) (v := .slice (some ⟨sb, 0, none⟩) m m) (by kernel_rfl) (by kernel_rfl) (by kernel_rfl) (by kernel_rfl) (fun _ _ _ h => h) (fun _ => (ex_mv (ev rfl h17))) ?_
  refine a_take 1 74 (.move (.tmp 19)) (v := .int .i64 ((i : Nat) : Int)) (by kernel_rfl) (by kernel_rfl) (by kernel_rfl) (by kernel_rfl) (fun _ _ _ h => h) (fun _ => (ex_mv (ev rfl h19))) ?_
  refine a_take 2 75 (.move (.tmp 16)) (v := .slice (some ⟨kb, 0, none⟩) m m) (by kernel_rfl) (by kernel_rfl) (by kernel_rfl) (by kernel_rfl) (fun _ _ _ h => h) (fun _ => (ex_mv (ev rfl h16))) ?_
  refine a_take 3 76 (.move (.tmp 19)) (v := .int .i64 ((i : Nat) : Int)) (by kernel_rfl) (by kernel_rfl) (by kernel_rfl) (by kernel_rfl) (fun _ _ _ h => h) (fun _ => (ex_mv (ev rfl h19))) ?_
  refine a_take 4 77 (.indexAddr 53 (.tmp 75) (.tmp 76)) (v := .pointer (some ⟨kb, i, none⟩)) (by kernel_rfl) (by kernel_rfl) (by kernel_rfl) (by kernel_rfl) (fun _ _ _ h => h) (fun _ => (ex_ix (u := .slice (some ⟨kb, 0, none⟩) m m) (i := .int .i64 ((i : Nat) : Int)) (ev rfl rfl) (ev rfl rfl) (ix53 hi))) ?_
  refine a_take 6 79 (.move (.tmp 0)) (v := .slice (some ⟨xb, xo, none⟩) m c0) (by kernel_rfl) (by kernel_rfl) (by kernel_rfl) (by kernel_rfl) (fun _ _ _ h => h) (fun _ => (ex_mv (ev rfl h0))) ?_
  refine a_take 7 80 (.move (.tmp 19)) (v := .int .i64 ((i : Nat) : Int)) (by kernel_rfl) (by kernel_rfl) (by kernel_rfl) (by kernel_rfl) (fun _ _ _ h => h) (fun _ => (ex_mv (ev rfl h19))) ?_
  refine a_take 8 81 (.indexAddr 52 (.tmp 79) (.tmp 80)) (v := .pointer (some ⟨xb, xo + i * 4, none⟩)) (by kernel_rfl) (by kernel_rfl) (by kernel_rfl) (by kernel_rfl) (fun _ _ _ h => h) (fun _ => (ex_ix (u := .slice (some ⟨xb, xo, none⟩) m c0) (i := .int .i64 ((i : Nat) : Int)) (ev rfl rfl) (ev rfl rfl) (ix52 hi))) ?_
  refine a_take 9 82 (.fieldAddr 56 (.tmp 81) 1) (v := .pointer (some ⟨xb, xo + i * 4 + 1, none⟩)) (by kernel_rfl) (by kernel_rfl) (by kernel_rfl) (by kernel_rfl) (fun _ _ _ h => h) (fun _ => (ex_fa (u := .pointer (some ⟨xb, xo + i * 4, none⟩)) (ev rfl rfl) (fa56_1))) ?_
  refine a_2 5 78 10 83 (.load 5 (.tmp 77)) (.load 5 (.tmp 82)) (v := .int .u8 ((k : Nat) : Int)) (u := .int .u8 ((l : Nat) : Int)) (by kernel_rfl) (by kernel_rfl) (by kernel_rfl) (ex_ld (u := .pointer (some ⟨kb, i, none⟩)) (ev rfl rfl) (ld5 (w := wa.drew) hk)) (ex_ld (u := .pointer (some ⟨xb, xo + i * 4 + 1, none⟩)) (ev rfl rfl) (ld5 (w := wa.drew) hl)) ?_ ?_
  · skip
    refine a_1 10 83 (.load 5 (.tmp 82)) (v := .int .u8 ((l : Nat) : Int)) (by kernel_rfl) (by kernel_rfl) (ex_ld (u := .pointer (some ⟨xb, xo + i * 4 + 1, none⟩)) (ev rfl rfl) (ld5 (w := wa.drew) hl)) ?_
    refine a_1c 11 84 (.call { callee := .value (.func 13), args := #[(.tmp 78), (.tmp 83)], argTypes := #[5, 5] }) (fn := 13) (args := #[.int .u8 ((k : Nat) : Int), .int .u8 ((l : Nat) : Int)]) (by kernel_rfl) (by kernel_rfl) (ex_fn2 (cf13 _) (ev rfl rfl) (ev rfl rfl)) (sizeR hl2) ?_
    rintro v x ⟨rfl, rfl⟩
    refine a_1 12 85 (.indexAddr 26 (.tmp 73) (.tmp 74)) (v := .pointer (some ⟨sb, i, none⟩)) (by kernel_rfl) (by kernel_rfl) (ex_ix (u := .slice (some ⟨sb, 0, none⟩) m m) (i := .int .i64 ((i : Nat) : Int)) (ev rfl rfl) (ev rfl rfl) (ix26 hi)) ?_
    refine a_st 13 3 (.tmp 85) (.tmp 84) (p := .pointer (some ⟨sb, i, none⟩)) (q := .int .i64 ((siz k l : Nat) : Int)) (by kernel_rfl) (by kernel_rfl) (ev rfl rfl) (ev rfl rfl) (st3m (w := wa.drew) hc hf) ?_
    exact a_end (by kernel_rfl) (hK _ (fun k hk => (((((((((((((Same.refl.put 73 _).put 74 _).put 75 _).put 76 _).put 77 _).put 79 _).put 80 _).put 81 _).put 82 _).put 78 _).put 83 _).put 84 _).put 85 _) k (by simpa [Bool.or_comm, Bool.or_left_comm, Bool.or_assoc] using hk)))
  · skip
    refine a_1 5 78 (.load 5 (.tmp 77)) (v := .int .u8 ((k : Nat) : Int)) (by kernel_rfl) (by kernel_rfl) (ex_ld (u := .pointer (some ⟨kb, i, none⟩)) (ev rfl rfl) (ld5 (w := wa.drew) hk)) ?_
    refine a_1c 11 84 (.call { callee := .value (.func 13), args := #[(.tmp 78), (.tmp 83)], argTypes := #[5, 5] }) (fn := 13) (args := #[.int .u8 ((k : Nat) : Int), .int .u8 ((l : Nat) : Int)]) (by kernel_rfl) (by kernel_rfl) (ex_fn2 (cf13 _) (ev rfl rfl) (ev rfl rfl)) (sizeR hl2) ?_
    rintro v x ⟨rfl, rfl⟩
    refine a_1 12 85 (.indexAddr 26 (.tmp 73) (.tmp 74)) (v := .pointer (some ⟨sb, i, none⟩)) (by kernel_rfl) (by kernel_rfl) (ex_ix (u := .slice (some ⟨sb, 0, none⟩) m m) (i := .int .i64 ((i : Nat) : Int)) (ev rfl rfl) (ev rfl rfl) (ix26 hi)) ?_
    refine a_st 13 3 (.tmp 85) (.tmp 84) (p := .pointer (some ⟨sb, i, none⟩)) (q := .int .i64 ((siz k l : Nat) : Int)) (by kernel_rfl) (by kernel_rfl) (ev rfl rfl) (ev rfl rfl) (st3m (w := wa.drew) hc hf) ?_
    exact a_end (by kernel_rfl) (hK _ (fun k hk => (((((((((((((Same.refl.put 73 _).put 74 _).put 75 _).put 76 _).put 77 _).put 79 _).put 80 _).put 81 _).put 82 _).put 83 _).put 78 _).put 84 _).put 85 _) k (by simpa [Bool.or_comm, Bool.or_left_comm, Bool.or_assoc] using hk)))
set_option maxRecDepth 100000 in
set_option maxHeartbeats 400000 in
theorem f32 (a0 : Option Addr) (m c0 : Nat) (wa : World) (f : Nat → Value) (h0 : f 0 = .slice a0 m c0) (K : Act → World → Prop)
    (hK : ∀ (f' : Nat → Value), Same f f' [149, 148, 147] → f' 148 = .int .i64 ((m : Nat) : Int) → f' 149 = .int .i64 ((0 : Nat) : Int) → K (F4 f') (wa)) :
    Code.wp Ybaf.prog (headC (headC (dropC 18 l4))) (only K) (F4 f) wa := by
  refine reg4 (by kernel_rfl) ?_
  refine s_ex 0 147 (.move (.tmp 0)) (v := .slice a0 m c0) (by kernel_rfl) (ex_mv (ev rfl h0)) ?_
  refine s_ex 1 148 (.call { callee := .builtin .len, args := #[(.tmp 147)], argTypes := #[52] }) (v := .int .i64 ((m : Nat) : Int)) (by kernel_rfl) (ex_len (ad := a0) (n := m) (c := c0) Ybaf.underlying52 (ev rfl rfl)) ?_
  refine s_ex 2 149 (.move (.const (.int .i64 0))) (v := .int .i64 0) (by kernel_rfl) (ex_mv rfl) ?_
  exact s_end (by kernel_rfl) (hK _  (((Same.refl.put 147 _).put 148 _).put 149 _) rfl rfl)
set_option maxRecDepth 100000 in
set_option maxHeartbeats 400000 in
theorem f33 (i m : Nat) (wa : World) (f : Nat → Value) (h148 : f 148 = .int .i64 ((m : Nat) : Int)) (h149 : f 149 = .int .i64 ((i : Nat) : Int)) (K : Act → World → Prop)
    (hK : ∀ (f' : Nat → Value), Same f f' [150] → f' 150 = .bool (decide (i < m)) → K (F4 f') (wa)) :
    Code.wp Ybaf.prog (headC l4c) (only K) (F4 f) wa := by
  refine reg4 (by kernel_rfl) ?_
  refine s_ex 0 150 (.binOp .lss 3 (.tmp 149) (.tmp 148) 3) (v := .bool (decide (i < m))) (by kernel_rfl) (ex_bn (u := .int .i64 ((i : Nat) : Int)) (u' := .int .i64 ((m : Nat) : Int)) (ev rfl h149) (ev rfl h148) (lssI (by simp))) ?_
  exact s_end (by kernel_rfl) (hK _  (Same.refl.put 150 _) rfl)
set_option maxRecDepth 100000 in
set_option maxHeartbeats 400000 in
theorem f34 (i : Nat) (wa : World) (f : Nat → Value) (h149 : f 149 = .int .i64 ((i : Nat) : Int)) (K : Act → World → Prop)
    (hK : ∀ (f' : Nat → Value), Same f f' [25, 151] → f' 25 = .int .i64 ((i : Nat) : Int) → K (F4 f') (wa)) :
    Code.wp Ybaf.prog (headC l4d) (only K) (F4 f) wa := by
  refine reg4 (by kernel_rfl) ?_
  refine s_ex 0 151 (.move (.tmp 149)) (v := .int .i64 ((i : Nat) : Int)) (by kernel_rfl) (ex_mv (ev rfl h149)) ?_
  refine s_ex 1 25 (.assign (.tmp 151)) (v := .int .i64 ((i : Nat) : Int)) (by kernel_rfl) (ex_as (ev rfl rfl)) ?_
  exact s_end (by kernel_rfl) (hK _  ((Same.refl.put 151 _).put 25 _) rfl)
set_option maxRecDepth 100000 in
set_option maxHeartbeats 400000 in
theorem f35 (xb xo m c0 i k l fr z : Nat) (wa : World) (hi : i < m) (hk : wa.cell? ⟨xb, xo + i * 4, none⟩ = some (.int .u8 (k : Nat))) (hl : wa.cell? ⟨xb, xo + i * 4 + 1, none⟩ = some (.int .u8 (l : Nat))) (hr : wa.cell? ⟨xb, xo + i * 4 + 2, none⟩ = some (.int .u16 (fr : Nat))) (hz : wa.cell? ⟨xb, xo + i * 4 + 3, none⟩ = some (.int .u8 (z : Nat))) (f : Nat → Value) (h0 : f 0 = .slice (some ⟨xb, xo, none⟩) m c0) (h25 : f 25 = .int .i64 ((i : Nat) : Int)) (K : Act → World → Prop)
    (hK : ∀ (f' : Nat → Value), Same f f' [26, 155, 154, 153, 152] → f' 26 = .pointer (some ⟨wa.heap.size, 0, none⟩) → K (F4 f') (wa.alloc (.cells #[.int .u8 ((k : Nat) : Int), .int .u8 ((l : Nat) : Int), .int .u16 ((fr : Nat) : Int), .int .u8 ((z : Nat) : Int)] 56))) :
    Code.wp Ybaf.prog (headC (dropC 1 l4d)) (only K) (F4 f) wa := by
  refine reg4 (by kernel_rfl) ?_
  refine s_ex 0 152 (.move (.tmp 0)) (v := .slice (some ⟨xb, xo, none⟩) m c0) (by kernel_rfl) (ex_mv (ev rfl h0)) ?_
  refine s_ex 1 153 (.move (.tmp 25)) (v := .int .i64 ((i : Nat) : Int)) (by kernel_rfl) (ex_mv (ev rfl h25)) ?_
  refine s_ex 2 154 (.indexAddr 52 (.tmp 152) (.tmp 153)) (v := .pointer (some ⟨xb, xo + i * 4, none⟩)) (by kernel_rfl) (ex_ix (u := .slice (some ⟨xb, xo, none⟩) m c0) (i := .int .i64 ((i : Nat) : Int)) (ev rfl rfl) (ev rfl rfl) (ix52 hi)) ?_
  refine s_ex 3 155 (.load 56 (.tmp 154)) (v := .agg #[.int .u8 ((k : Nat) : Int), .int .u8 ((l : Nat) : Int), .int .u16 ((fr : Nat) : Int), .int .u8 ((z : Nat) : Int)]) (by kernel_rfl) (ex_ld (u := .pointer (some ⟨xb, xo + i * 4, none⟩)) (ev rfl rfl) (ld56 hk hl hr hz)) ?_
  refine s_ex 4 26 (.alloc 56) (v := .pointer (some ⟨wa.heap.size, 0, none⟩)) (by kernel_rfl) (ex_al (al56 _)) ?_
  refine s_st 5 56 (.tmp 26) (.tmp 155) (p := .pointer (some ⟨wa.heap.size, 0, none⟩)) (q := .agg #[.int .u8 ((k : Nat) : Int), .int .u8 ((l : Nat) : Int), .int .u16 ((fr : Nat) : Int), .int .u8 ((z : Nat) : Int)]) (by kernel_rfl) (ev rfl rfl) (ev rfl rfl) (run_storeAt_new wa 56 #[.int .u8 0, .int .u8 0, .int .u16 0, .int .u8 0] #[.int .u8 ((k : Nat) : Int), .int .u8 ((l : Nat) : Int), .int .u16 ((fr : Nat) : Int), .int .u8 ((z : Nat) : Int)] (by kernel_rfl) rfl (by kernel_rfl)) ?_
  exact s_end (by kernel_rfl) (hK _  (((((Same.refl.put 152 _).put 153 _).put 154 _).put 155 _).put 26 _) rfl)
set_option maxRecDepth 100000 in
set_option maxHeartbeats 400000 in
theorem f36 (gp n cap ob m i : Nat) (u : Value) (wa : World) (hc : wa.cell? ⟨ob, i, none⟩ = some u) (hf : wa.frozen? ⟨ob, i, none⟩ = false) (hi : i < m) (f : Nat → Value) (h18 : f 18 = .slice (some ⟨ob, 0, none⟩) m m) (h20 : f 20 = .slice (some ⟨gp, 0, none⟩) n cap) (h25 : f 25 = .int .i64 ((i : Nat) : Int)) (K : Act → World → Prop)
    (hK : ∀ (f' : Nat → Value), Same f f' [160, 159, 158, 157, 156] → K (F4 f') (wa.setCell ⟨ob, i, none⟩ (.int .i64 ((n : Nat) : Int)))) :
    Code.wp Ybaf.prog (headC (dropC 2 l4d)) (only K) (F4 f) wa := by
  refine reg4 (by kernel_rfl) ?_
  refine s_ex 0 156 (.move (.tmp 18)) (v := .slice (some ⟨ob, 0, none⟩) m m) (by kernel_rfl) (ex_mv (ev rfl h18)) ?_
  refine s_ex 1 157 (.move (.tmp 25)) (v := .int .i64 ((i : Nat) : Int)) (by kernel_rfl) (ex_mv (ev rfl h25)) ?_
  refine s_ex 2 158 (.move (.tmp 20)) (v := .slice (some ⟨gp, 0, none⟩) n cap) (by kernel_rfl) (ex_mv (ev rfl h20)) ?_
  refine s_ex 3 159 (.call { callee := .builtin .len, args := #[(.tmp 158)], argTypes := #[53] }) (v := .int .i64 ((n : Nat) : Int)) (by kernel_rfl) (ex_len (ad := (some ⟨gp, 0, none⟩)) (n := n) (c := cap) Ybaf.underlying53 (ev rfl rfl)) ?_
  refine s_ex 4 160 (.indexAddr 26 (.tmp 156) (.tmp 157)) (v := .pointer (some ⟨ob, i, none⟩)) (by kernel_rfl) (ex_ix (u := .slice (some ⟨ob, 0, none⟩) m m) (i := .int .i64 ((i : Nat) : Int)) (ev rfl rfl) (ev rfl rfl) (ix26 hi)) ?_
  refine s_st 5 3 (.tmp 160) (.tmp 159) (p := .pointer (some ⟨ob, i, none⟩)) (q := .int .i64 ((n : Nat) : Int)) (by kernel_rfl) (ev rfl rfl) (ev rfl rfl) (st3m hc hf) ?_
  exact s_end (by kernel_rfl) (hK _  (((((Same.refl.put 156 _).put 157 _).put 158 _).put 159 _).put 160 _))
set_option maxRecDepth 100000 in
set_option maxHeartbeats 400000 in
theorem f37 (fi : Nat) (wa : World) (f : Nat → Value) (h15 : f 15 = .int .u8 ((fi : Nat) : Int)) (K : Act → World → Prop)
    (hK : ∀ (f' : Nat → Value), Same f f' [27, 161] → f' 27 = .int .u8 ((fi : Nat) : Int) → K (F4 f') (wa)) :
    Code.wp Ybaf.prog (headC (dropC 3 l4d)) (only K) (F4 f) wa := by
  refine reg4 (by kernel_rfl) ?_
  refine s_ex 0 161 (.move (.tmp 15)) (v := .int .u8 ((fi : Nat) : Int)) (by kernel_rfl) (ex_mv (ev rfl h15)) ?_
  refine s_ex 1 27 (.assign (.tmp 161)) (v := .int .u8 ((fi : Nat) : Int)) (by kernel_rfl) (ex_as (ev rfl rfl)) ?_
  exact s_end (by kernel_rfl) (hK _  ((Same.refl.put 161 _).put 27 _) rfl)
set_option maxRecDepth 100000 in
set_option maxHeartbeats 400000 in
theorem f38 (a0 : Option Addr) (m c0 i : Nat) (wa : World) (hi : i < 256) (f : Nat → Value) (h0 : f 0 = .slice a0 m c0) (h25 : f 25 = .int .i64 ((i : Nat) : Int)) (K : Act → World → Prop)
    (hK : ∀ (f' : Nat → Value), Same f f' [166, 165, 164, 163, 162] → f' 166 = .bool (decide (i + 1 < m)) → K (F4 f') (wa)) :
    Code.wp Ybaf.prog (headC (headC (dropC 4 l4d))) (only K) (F4 f) wa := by
  refine reg4 (by kernel_rfl) ?_
  refine s_ex 0 162 (.move (.tmp 25)) (v := .int .i64 ((i : Nat) : Int)) (by kernel_rfl) (ex_mv (ev rfl h25)) ?_
  refine s_ex 1 163 (.binOp .add 3 (.tmp 162) (.const (.int .i64 1)) 3) (v := .int .i64 ((i + 1 : Nat) : Int)) (by kernel_rfl) (ex_bn (u := .int .i64 ((i : Nat) : Int)) (u' := .int .i64 1) (ev rfl rfl) rfl (addI (by omega) (by omega) (by omega))) ?_
  refine s_ex 2 164 (.move (.tmp 0)) (v := .slice a0 m c0) (by kernel_rfl) (ex_mv (ev rfl h0)) ?_
  refine s_ex 3 165 (.call { callee := .builtin .len, args := #[(.tmp 164)], argTypes := #[52] }) (v := .int .i64 ((m : Nat) : Int)) (by kernel_rfl) (ex_len (ad := a0) (n := m) (c := c0) Ybaf.underlying52 (ev rfl rfl)) ?_
  refine s_ex 4 166 (.binOp .lss 3 (.tmp 163) (.tmp 165) 3) (v := .bool (decide (i + 1 < m))) (by kernel_rfl) (ex_bn (u := .int .i64 ((i + 1 : Nat) : Int)) (u' := .int .i64 ((m : Nat) : Int)) (ev rfl rfl) (ev rfl rfl) (lssI (by simp; omega))) ?_
  exact s_end (by kernel_rfl) (hK _  (((((Same.refl.put 162 _).put 163 _).put 164 _).put 165 _).put 166 _) rfl)
set_option maxRecDepth 100000 in
set_option maxHeartbeats 400000 in
theorem f39 (kb m i k : Nat) (wa : World) (hi : i + 1 < m) (hm : m ≤ 256) (hk : wa.cell? ⟨kb, i + 1, none⟩ = some (.int .u8 (k : Nat))) (f : Nat → Value) (h16 : f 16 = .slice (some ⟨kb, 0, none⟩) m m) (h25 : f 25 = .int .i64 ((i : Nat) : Int)) (K : Act → World → Prop)
    (hK : ∀ (f' : Nat → Value), Same f f' [27, 171, 170, 169, 168, 167] → f' 27 = .int .u8 ((k : Nat) : Int) → K (F4 f') (wa)) :
    Code.wp Ybaf.prog (thnC (tailC (headC (dropC 4 l4d)))) (only K) (F4 f) wa := by
  refine reg4 (by kernel_rfl) ?_
  refine s_ex 0 167 (.move (.tmp 16)) (v := .slice (some ⟨kb, 0, none⟩) m m) (by kernel_rfl) (ex_mv (ev rfl h16)) ?_
  refine s_ex 1 168 (.move (.tmp 25)) (v := .int .i64 ((i : Nat) : Int)) (by kernel_rfl) (ex_mv (ev rfl h25)) ?_
  refine s_ex 2 169 (.binOp .add 3 (.tmp 168) (.const (.int .i64 1)) 3) (v := .int .i64 ((i + 1 : Nat) : Int)) (by kernel_rfl) (ex_bn (u := .int .i64 ((i : Nat) : Int)) (u' := .int .i64 1) (ev rfl rfl) rfl (addI (by omega) (by omega) (by omega))) ?_
  refine s_ex 3 170 (.indexAddr 53 (.tmp 167) (.tmp 169)) (v := .pointer (some ⟨kb, i + 1, none⟩)) (by kernel_rfl) (ex_ix (u := .slice (some ⟨kb, 0, none⟩) m m) (i := .int .i64 ((i + 1 : Nat) : Int)) (ev rfl rfl) (ev rfl rfl) (ix53 hi)) ?_
  refine s_ex 4 171 (.load 5 (.tmp 170)) (v := .int .u8 ((k : Nat) : Int)) (by kernel_rfl) (ex_ld (u := .pointer (some ⟨kb, i + 1, none⟩)) (ev rfl rfl) (ld5 hk)) ?_
  refine s_ex 5 27 (.assign (.tmp 171)) (v := .int .u8 ((k : Nat) : Int)) (by kernel_rfl) (ex_as (ev rfl rfl)) ?_
  exact s_end (by kernel_rfl) (hK _  ((((((Same.refl.put 167 _).put 168 _).put 169 _).put 170 _).put 171 _).put 27 _) rfl)
set_option maxRecDepth 100000 in
set_option maxHeartbeats 400000 in
theorem f40 (sb m i s : Nat) (wa : World) (hi : i < m) (hs : wa.cell? ⟨sb, i, none⟩ = some (.int .i64 (s : Nat))) (hs2 : s ≤ 100000) (f : Nat → Value) (h17 : f 17 = .slice (some ⟨sb, 0, none⟩) m m) (h25 : f 25 = .int .i64 ((i : Nat) : Int)) (K : Act → World → Prop)
    (hK : ∀ (f' : Nat → Value), Same f f' [28, 176, 175, 174, 173, 172] → f' 28 = .slice (some ⟨wa.heap.size, 0, none⟩) s s → K (F4 f') (wa.alloc (.cells (madeCells #[.int .u8 0] s) 5))) :
    Code.wp Ybaf.prog (headC (dropC 5 l4d)) (only K) (F4 f) wa := by
  refine reg4 (by kernel_rfl) ?_
  refine s_ex 0 172 (.move (.tmp 17)) (v := .slice (some ⟨sb, 0, none⟩) m m) (by kernel_rfl) (ex_mv (ev rfl h17)) ?_
  refine s_ex 1 173 (.move (.tmp 25)) (v := .int .i64 ((i : Nat) : Int)) (by kernel_rfl) (ex_mv (ev rfl h25)) ?_
  refine s_ex 2 174 (.indexAddr 26 (.tmp 172) (.tmp 173)) (v := .pointer (some ⟨sb, i, none⟩)) (by kernel_rfl) (ex_ix (u := .slice (some ⟨sb, 0, none⟩) m m) (i := .int .i64 ((i : Nat) : Int)) (ev rfl rfl) (ev rfl rfl) (ix26 hi)) ?_
  refine s_ex 3 175 (.load 3 (.tmp 174)) (v := .int .i64 ((s : Nat) : Int)) (by kernel_rfl) (ex_ld (u := .pointer (some ⟨sb, i, none⟩)) (ev rfl rfl) (ld3 hs)) ?_
  refine s_ex 4 176 (.makeSlice 53 (.tmp 175) (.tmp 175)) (v := .slice (some ⟨wa.heap.size, 0, none⟩) s s) (by kernel_rfl) (ex_mk (u := .int .i64 ((s : Nat) : Int)) (u' := .int .i64 ((s : Nat) : Int)) (ev rfl rfl) (ev rfl rfl) (mk53 (by omega))) ?_
  refine s_ex 5 28 (.assign (.tmp 176)) (v := .slice (some ⟨wa.heap.size, 0, none⟩) s s) (by kernel_rfl) (ex_as (ev rfl rfl)) ?_
  exact s_end (by kernel_rfl) (hK _  ((((((Same.refl.put 172 _).put 173 _).put 174 _).put 175 _).put 176 _).put 28 _) rfl)
set_option maxRecDepth 100000 in
set_option maxHeartbeats 400000 in
theorem f41 (hb s : Nat) (wa : World) (f : Nat → Value) (h28 : f 28 = .slice (some ⟨hb, 0, none⟩) s s) (K : Act → World → Prop)
    (hK : ∀ (f' : Nat → Value), Same f f' [179, 178, 177] → f' 178 = .int .i64 ((s : Nat) : Int) → f' 179 = .int .i64 ((0 : Nat) : Int) → K (F4 f') (wa)) :
    Code.wp Ybaf.prog (headC (headC (dropC 6 l4d))) (only K) (F4 f) wa := by
  refine reg4 (by kernel_rfl) ?_
  refine s_ex 0 177 (.move (.tmp 28)) (v := .slice (some ⟨hb, 0, none⟩) s s) (by kernel_rfl) (ex_mv (ev rfl h28)) ?_
  refine s_ex 1 178 (.call { callee := .builtin .len, args := #[(.tmp 177)], argTypes := #[53] }) (v := .int .i64 ((s : Nat) : Int)) (by kernel_rfl) (ex_len (ad := (some ⟨hb, 0, none⟩)) (n := s) (c := s) Ybaf.underlying53 (ev rfl rfl)) ?_
  refine s_ex 2 179 (.move (.const (.int .i64 0))) (v := .int .i64 0) (by kernel_rfl) (ex_mv rfl) ?_
  exact s_end (by kernel_rfl) (hK _  (((Same.refl.put 177 _).put 178 _).put 179 _) rfl rfl)
set_option maxRecDepth 100000 in
set_option maxHeartbeats 400000 in
theorem f42 (j s : Nat) (wa : World) (f : Nat → Value) (h178 : f 178 = .int .i64 ((s : Nat) : Int)) (h179 : f 179 = .int .i64 ((j : Nat) : Int)) (K : Act → World → Prop)
    (hK : ∀ (f' : Nat → Value), Same f f' [180] → f' 180 = .bool (decide (j < s)) → K (F4 f') (wa)) :
    Code.wp Ybaf.prog (headC l4f) (only K) (F4 f) wa := by
  refine reg4 (by kernel_rfl) ?_
  refine s_ex 0 180 (.binOp .lss 3 (.tmp 179) (.tmp 178) 3) (v := .bool (decide (j < s))) (by kernel_rfl) (ex_bn (u := .int .i64 ((j : Nat) : Int)) (u' := .int .i64 ((s : Nat) : Int)) (ev rfl h179) (ev rfl h178) (lssI (by simp))) ?_
  exact s_end (by kernel_rfl) (hK _  (Same.refl.put 180 _) rfl)
set_option maxRecDepth 100000 in
set_option maxHeartbeats 400000 in
theorem f43 (j : Nat) (wa : World) (f : Nat → Value) (h179 : f 179 = .int .i64 ((j : Nat) : Int)) (K : Act → World → Prop)
    (hK : ∀ (f' : Nat → Value), Same f f' [29, 181] → f' 29 = .int .i64 ((j : Nat) : Int) → K (F4 f') (wa)) :
    Code.wp Ybaf.prog (headC (blkC (headC (dropC 2 l4f)))) (only K) (F4 f) wa := by
  refine reg4 (by kernel_rfl) ?_
  refine s_ex 0 181 (.move (.tmp 179)) (v := .int .i64 ((j : Nat) : Int)) (by kernel_rfl) (ex_mv (ev rfl h179)) ?_
  refine s_ex 1 29 (.assign (.tmp 181)) (v := .int .i64 ((j : Nat) : Int)) (by kernel_rfl) (ex_as (ev rfl rfl)) ?_
  exact s_end (by kernel_rfl) (hK _  ((Same.refl.put 181 _).put 29 _) rfl)
set_option maxRecDepth 100000 in
set_option maxHeartbeats 400000 in
theorem f44 (hb s eb j z : Nat) (u : Value) (wa : World) (hc : wa.cell? ⟨hb, j, none⟩ = some u) (hf : wa.frozen? ⟨hb, j, none⟩ = false) (hj : j < s) (hz : wa.cell? ⟨eb, 3, none⟩ = some (.int .u8 (z : Nat))) (f : Nat → Value) (h26 : f 26 = .pointer (some ⟨eb, 0, none⟩)) (h28 : f 28 = .slice (some ⟨hb, 0, none⟩) s s) (h29 : f 29 = .int .i64 ((j : Nat) : Int)) (K : Act → World → Prop)
    (hK : ∀ (f' : Nat → Value), Same f f' [186, 185, 184, 183, 182] → K (F4 f') (wa.setCell ⟨hb, j, none⟩ (.int .u8 ((z : Nat) : Int)))) :
    Code.wp Ybaf.prog (dropC 1 (blkC (headC (dropC 2 l4f)))) (only K) (F4 f) wa := by
  refine reg4 (by kernel_rfl) ?_
  refine s_ex 0 182 (.move (.tmp 28)) (v := .slice (some ⟨hb, 0, none⟩) s s) (by kernel_rfl) (ex_mv (ev rfl h28)) ?_
  refine s_ex 1 183 (.move (.tmp 29)) (v := .int .i64 ((j : Nat) : Int)) (by kernel_rfl) (ex_mv (ev rfl h29)) ?_
  refine s_ex 2 184 (.fieldAddr 56 (.tmp 26) 3) (v := .pointer (some ⟨eb, 3, none⟩)) (by kernel_rfl) (ex_fa (u := .pointer (some ⟨eb, 0, none⟩)) (ev rfl h26) (fa56_3)) ?_
  refine s_ex 3 185 (.load 5 (.tmp 184)) (v := .int .u8 ((z : Nat) : Int)) (by kernel_rfl) (ex_ld (u := .pointer (some ⟨eb, 3, none⟩)) (ev rfl rfl) (ld5 hz)) ?_
  refine s_ex 4 186 (.indexAddr 53 (.tmp 182) (.tmp 183)) (v := .pointer (some ⟨hb, j, none⟩)) (by kernel_rfl) (ex_ix (u := .slice (some ⟨hb, 0, none⟩) s s) (i := .int .i64 ((j : Nat) : Int)) (ev rfl rfl) (ev rfl rfl) (ix53 hj)) ?_
  refine s_st 5 5 (.tmp 186) (.tmp 185) (p := .pointer (some ⟨hb, j, none⟩)) (q := .int .u8 ((z : Nat) : Int)) (by kernel_rfl) (ev rfl rfl) (ev rfl rfl) (st5 hc hf) ?_
  exact s_end (by kernel_rfl) (hK _  (((((Same.refl.put 182 _).put 183 _).put 184 _).put 185 _).put 186 _))
set_option maxRecDepth 100000 in
set_option maxHeartbeats 400000 in
theorem f45 (j s : Nat) (wa : World) (hj : j < s) (hs : s ≤ 100000) (f : Nat → Value) (h179 : f 179 = .int .i64 ((j : Nat) : Int)) (K : Act → World → Prop)
    (hK : ∀ (f' : Nat → Value), Same f f' [179, 187] → f' 179 = .int .i64 ((j + 1 : Nat) : Int) → K (F4 f') (wa)) :
    Code.wp Ybaf.prog (dropC 3 l4f) (only K) (F4 f) wa := by
  refine reg4 (by kernel_rfl) ?_
  refine s_ex 0 187 (.binOp .add 3 (.tmp 179) (.const (.int .i64 1)) 3) (v := .int .i64 ((j + 1 : Nat) : Int)) (by kernel_rfl) (ex_bn (u := .int .i64 ((j : Nat) : Int)) (u' := .int .i64 1) (ev rfl h179) rfl (addI (by omega) (by omega) (by omega))) ?_
  refine s_ex 1 179 (.move (.tmp 187)) (v := .int .i64 ((j + 1 : Nat) : Int)) (by kernel_rfl) (ex_mv (ev rfl rfl)) ?_
  exact s_end (by kernel_rfl) (hK _  ((Same.refl.put 187 _).put 179 _) rfl)
set_option maxRecDepth 100000 in
set_option maxHeartbeats 400000 in
theorem f46 (hb s k : Nat) (u : Value) (wa : World) (hc : wa.cell? ⟨hb, 0, none⟩ = some u) (hf : wa.frozen? ⟨hb, 0, none⟩ = false) (hs : 0 < s) (f : Nat → Value) (h27 : f 27 = .int .u8 ((k : Nat) : Int)) (h28 : f 28 = .slice (some ⟨hb, 0, none⟩) s s) (K : Act → World → Prop)
    (hK : ∀ (f' : Nat → Value), Same f f' [190, 189, 188] → K (F4 f') (wa.setCell ⟨hb, 0, none⟩ (.int .u8 ((k : Nat) : Int)))) :
    Code.wp Ybaf.prog (headC (dropC 7 l4d)) (only K) (F4 f) wa := by
  refine reg4 (by kernel_rfl) ?_
  refine s_ex 0 188 (.move (.tmp 28)) (v := .slice (some ⟨hb, 0, none⟩) s s) (by kernel_rfl) (ex_mv (ev rfl h28)) ?_
  refine s_ex 1 189 (.move (.tmp 27)) (v := .int .u8 ((k : Nat) : Int)) (by kernel_rfl) (ex_mv (ev rfl h27)) ?_
  refine s_ex 2 190 (.indexAddr 53 (.tmp 188) (.const (.int .i64 0))) (v := .pointer (some ⟨hb, 0, none⟩)) (by kernel_rfl) (ex_ix (u := .slice (some ⟨hb, 0, none⟩) s s) (i := .int .i64 0) (ev rfl rfl) rfl (ix53 (i := 0) hs)) ?_
  refine s_st 3 5 (.tmp 190) (.tmp 189) (p := .pointer (some ⟨hb, 0, none⟩)) (q := .int .u8 ((k : Nat) : Int)) (by kernel_rfl) (ev rfl rfl) (ev rfl rfl) (st5 hc hf) ?_
  exact s_end (by kernel_rfl) (hK _  (((Same.refl.put 188 _).put 189 _).put 190 _))
set_option maxRecDepth 100000 in
set_option maxHeartbeats 400000 in
theorem f47 (hb s eb l : Nat) (u : Value) (wa : World) (hc : wa.cell? ⟨hb, 1, none⟩ = some u) (hf : wa.frozen? ⟨hb, 1, none⟩ = false) (hs : 1 < s) (hl : wa.cell? ⟨eb, 1, none⟩ = some (.int .u8 (l : Nat))) (f : Nat → Value) (h26 : f 26 = .pointer (some ⟨eb, 0, none⟩)) (h28 : f 28 = .slice (some ⟨hb, 0, none⟩) s s) (K : Act → World → Prop)
    (hK : ∀ (f' : Nat → Value), Same f f' [194, 193, 192, 191] → K (F4 f') (wa.setCell ⟨hb, 1, none⟩ (.int .u8 ((l : Nat) : Int)))) :
    Code.wp Ybaf.prog (headC (dropC 8 l4d)) (only K) (F4 f) wa := by
  refine reg4 (by kernel_rfl) ?_
  refine s_ex 0 191 (.move (.tmp 28)) (v := .slice (some ⟨hb, 0, none⟩) s s) (by kernel_rfl) (ex_mv (ev rfl h28)) ?_
  refine s_ex 1 192 (.fieldAddr 56 (.tmp 26) 1) (v := .pointer (some ⟨eb, 1, none⟩)) (by kernel_rfl) (ex_fa (u := .pointer (some ⟨eb, 0, none⟩)) (ev rfl h26) (fa56_1)) ?_
  refine s_ex 2 193 (.load 5 (.tmp 192)) (v := .int .u8 ((l : Nat) : Int)) (by kernel_rfl) (ex_ld (u := .pointer (some ⟨eb, 1, none⟩)) (ev rfl rfl) (ld5 hl)) ?_
  refine s_ex 3 194 (.indexAddr 53 (.tmp 191) (.const (.int .i64 1))) (v := .pointer (some ⟨hb, 1, none⟩)) (by kernel_rfl) (ex_ix (u := .slice (some ⟨hb, 0, none⟩) s s) (i := .int .i64 1) (ev rfl rfl) rfl (ix53 (i := 1) hs)) ?_
  refine s_st 4 5 (.tmp 194) (.tmp 193) (p := .pointer (some ⟨hb, 1, none⟩)) (q := .int .u8 ((l : Nat) : Int)) (by kernel_rfl) (ev rfl rfl) (ev rfl rfl) (st5 hc hf) ?_
  exact s_end (by kernel_rfl) (hK _  ((((Same.refl.put 191 _).put 192 _).put 193 _).put 194 _))
set_option maxRecDepth 100000 in
set_option maxHeartbeats 400000 in
theorem f48 (kb m i k : Nat) (wa : World) (hi : i < m) (hk : wa.cell? ⟨kb, i, none⟩ = some (.int .u8 (k : Nat))) (f : Nat → Value) (h16 : f 16 = .slice (some ⟨kb, 0, none⟩) m m) (h25 : f 25 = .int .i64 ((i : Nat) : Int)) (K : Act → World → Prop)
    (hK : ∀ (f' : Nat → Value), Same f f' [199, 198, 197, 196, 195] → f' 199 = .bool (decide (k = 44)) → K (F4 f') (wa)) :
    Code.wp Ybaf.prog (headC (headC (dropC 9 l4d))) (only K) (F4 f) wa := by
  refine reg4 (by kernel_rfl) ?_
  refine s_ex 0 195 (.move (.tmp 16)) (v := .slice (some ⟨kb, 0, none⟩) m m) (by kernel_rfl) (ex_mv (ev rfl h16)) ?_
  refine s_ex 1 196 (.move (.tmp 25)) (v := .int .i64 ((i : Nat) : Int)) (by kernel_rfl) (ex_mv (ev rfl h25)) ?_
  refine s_ex 2 197 (.indexAddr 53 (.tmp 195) (.tmp 196)) (v := .pointer (some ⟨kb, i, none⟩)) (by kernel_rfl) (ex_ix (u := .slice (some ⟨kb, 0, none⟩) m m) (i := .int .i64 ((i : Nat) : Int)) (ev rfl rfl) (ev rfl rfl) (ix53 hi)) ?_
  refine s_ex 3 198 (.load 5 (.tmp 197)) (v := .int .u8 ((k : Nat) : Int)) (by kernel_rfl) (ex_ld (u := .pointer (some ⟨kb, i, none⟩)) (ev rfl rfl) (ld5 hk)) ?_
  refine s_ex 4 199 (.binOp .eql 5 (.tmp 198) (.const (.int .u8 44)) 5) (v := .bool (decide (k = 44))) (by kernel_rfl) (ex_bn (u := .int .u8 ((k : Nat) : Int)) (u' := .int .u8 44) (ev rfl rfl) rfl (eqlU (beq44 k))) ?_
  exact s_end (by kernel_rfl) (hK _  (((((Same.refl.put 195 _).put 196 _).put 197 _).put 198 _).put 199 _) rfl)
set_option maxRecDepth 100000 in
set_option maxHeartbeats 400000 in
theorem f49 (hb s eb fr : Nat) (u : Value) (wa : World) (hc : wa.cell? ⟨hb, 2, none⟩ = some u) (hf : wa.frozen? ⟨hb, 2, none⟩ = false) (hs : 2 < s) (hr : wa.cell? ⟨eb, 2, none⟩ = some (.int .u16 (fr : Nat))) (hr2 : fr ≤ 65535) (f : Nat → Value) (h26 : f 26 = .pointer (some ⟨eb, 0, none⟩)) (h28 : f 28 = .slice (some ⟨hb, 0, none⟩) s s) (K : Act → World → Prop)
    (hK : ∀ (f' : Nat → Value), Same f f' [205, 204, 203, 202, 201, 200] → K (F4 f') (wa.setCell ⟨hb, 2, none⟩ (.int .u8 ((fr / 256 : Nat) : Int)))) :
    Code.wp Ybaf.prog (headC (thnC (tailC (headC (dropC 9 l4d))))) (only K) (F4 f) wa := by
  refine reg4 (by kernel_rfl) ?_
  refine s_ex 0 200 (.move (.tmp 28)) (v := .slice (some ⟨hb, 0, none⟩) s s) (by kernel_rfl) (ex_mv (ev rfl h28)) ?_
  refine s_ex 1 201 (.fieldAddr 56 (.tmp 26) 2) (v := .pointer (some ⟨eb, 2, none⟩)) (by kernel_rfl) (ex_fa (u := .pointer (some ⟨eb, 0, none⟩)) (ev rfl h26) (fa56_2)) ?_
  refine s_ex 2 202 (.load 24 (.tmp 201)) (v := .int .u16 ((fr : Nat) : Int)) (by kernel_rfl) (ex_ld (u := .pointer (some ⟨eb, 2, none⟩)) (ev rfl rfl) (ld24 hr)) ?_
  refine s_ex 3 203 (.binOp .shr 24 (.tmp 202) (.const (.int .u64 8)) 58) (v := .int .u16 ((fr / 256 : Nat) : Int)) (by kernel_rfl) (ex_bn (u := .int .u16 ((fr : Nat) : Int)) (u' := .int .u64 8) (ev rfl rfl) rfl (shrH rfl)) ?_
  refine s_ex 4 204 (.convert 24 5 (.tmp 203)) (v := .int .u8 ((fr / 256 : Nat) : Int)) (by kernel_rfl) (ex_cv (u := .int .u16 ((fr / 256 : Nat) : Int)) (ev rfl rfl) (cv245 (by omega))) ?_
  refine s_ex 5 205 (.indexAddr 53 (.tmp 200) (.const (.int .i64 2))) (v := .pointer (some ⟨hb, 2, none⟩)) (by kernel_rfl) (ex_ix (u := .slice (some ⟨hb, 0, none⟩) s s) (i := .int .i64 2) (ev rfl rfl) rfl (ix53 (i := 2) hs)) ?_
  refine s_st 6 5 (.tmp 205) (.tmp 204) (p := .pointer (some ⟨hb, 2, none⟩)) (q := .int .u8 ((fr / 256 : Nat) : Int)) (by kernel_rfl) (ev rfl rfl) (ev rfl rfl) (st5 hc hf) ?_
  exact s_end (by kernel_rfl) (hK _  ((((((Same.refl.put 200 _).put 201 _).put 202 _).put 203 _).put 204 _).put 205 _))
set_option maxRecDepth 100000 in
set_option maxHeartbeats 400000 in
theorem f50 (hb s eb fr : Nat) (u : Value) (wa : World) (hc : wa.cell? ⟨hb, 3, none⟩ = some u) (hf : wa.frozen? ⟨hb, 3, none⟩ = false) (hs : 3 < s) (hr : wa.cell? ⟨eb, 2, none⟩ = some (.int .u16 (fr : Nat))) (f : Nat → Value) (h26 : f 26 = .pointer (some ⟨eb, 0, none⟩)) (h28 : f 28 = .slice (some ⟨hb, 0, none⟩) s s) (K : Act → World → Prop)
    (hK : ∀ (f' : Nat → Value), Same f f' [210, 209, 208, 207, 206] → K (F4 f') (wa.setCell ⟨hb, 3, none⟩ (.int .u8 ((fr % 256 : Nat) : Int)))) :
    Code.wp Ybaf.prog (tailC (thnC (tailC (headC (dropC 9 l4d))))) (only K) (F4 f) wa := by
  refine reg4 (by kernel_rfl) ?_
  refine s_ex 0 206 (.move (.tmp 28)) (v := .slice (some ⟨hb, 0, none⟩) s s) (by kernel_rfl) (ex_mv (ev rfl h28)) ?_
  refine s_ex 1 207 (.fieldAddr 56 (.tmp 26) 2) (v := .pointer (some ⟨eb, 2, none⟩)) (by kernel_rfl) (ex_fa (u := .pointer (some ⟨eb, 0, none⟩)) (ev rfl h26) (fa56_2)) ?_
  refine s_ex 2 208 (.load 24 (.tmp 207)) (v := .int .u16 ((fr : Nat) : Int)) (by kernel_rfl) (ex_ld (u := .pointer (some ⟨eb, 2, none⟩)) (ev rfl rfl) (ld24 hr)) ?_
  refine s_ex 3 209 (.convert 24 5 (.tmp 208)) (v := .int .u8 ((fr % 256 : Nat) : Int)) (by kernel_rfl) (ex_cv (u := .int .u16 ((fr : Nat) : Int)) (ev rfl rfl) (cv245 rfl)) ?_
  refine s_ex 4 210 (.indexAddr 53 (.tmp 206) (.const (.int .i64 3))) (v := .pointer (some ⟨hb, 3, none⟩)) (by kernel_rfl) (ex_ix (u := .slice (some ⟨hb, 0, none⟩) s s) (i := .int .i64 3) (ev rfl rfl) rfl (ix53 (i := 3) hs)) ?_
  refine s_st 5 5 (.tmp 210) (.tmp 209) (p := .pointer (some ⟨hb, 3, none⟩)) (q := .int .u8 ((fr % 256 : Nat) : Int)) (by kernel_rfl) (ev rfl rfl) (ev rfl rfl) (st5 hc hf) ?_
  exact s_end (by kernel_rfl) (hK _  (((((Same.refl.put 206 _).put 207 _).put 208 _).put 209 _).put 210 _))
set_option maxRecDepth 100000 in
set_option maxHeartbeats 400000 in
theorem f51 (gp n cap hb ho s c4 base : Nat) (X G : Nat → Nat) (wa : World) (hm : 0 < s) (hn : n + s ≤ 1000000) (hbase : base ≤ wa.heap.size) (hown : wa.ownsRow base 5 1 (.slice (some ⟨gp, 0, none⟩) n cap) n (byt X n)) (hG : ∀ k, k < s → wa.cell? ⟨hb, ho + k, none⟩ = some (.int .u8 ((G k : Nat) : Int))) (f : Nat → Value) (h20 : f 20 = .slice (some ⟨gp, 0, none⟩) n cap) (hsrc : f 28 = .slice (some ⟨hb, ho, none⟩) s c4) (K : Act → World → Prop)
    (hK : ∀ (f' : Nat → Value) (g cap' : Nat) (wy : World), Same f f' [20, 213, 212, 211] → f' 20 = .slice (some ⟨g, 0, none⟩) (n + s) cap' → wy.ownsRow base 5 1 (.slice (some ⟨g, 0, none⟩) (n + s) cap') (n + s) (byt X n ++ byt G s) → wa.grownBy wy (some gp) → (g = gp ∨ g = wa.heap.size) → g < wy.heap.size → K (F4 f') wy) :
    Code.wp Ybaf.prog (dropC 10 l4d) (only K) (F4 f) wa := by
  refine reg4 (by kernel_rfl) ?_
  refine s_ex 0 211 (.move (.tmp 20)) (v := .slice (some ⟨gp, 0, none⟩) n cap) (by kernel_rfl) (ex_mv (ev rfl h20)) ?_
  refine s_ex 1 212 (.move (.tmp 28)) (v := .slice (some ⟨hb, ho, none⟩) s c4) (by kernel_rfl) (ex_mv (ev rfl hsrc)) ?_
  refine s_app 2 213 211 212 (by kernel_rfl) rfl rfl base _ n (byt X n) (by exact rfl) hown ⟨hb, ho, none⟩ s c4 (byt G s) (by exact rfl) (byt_len G s) (fun j u hu => by
    have hj : j < s := by have := (List.getElem?_eq_some_iff.1 hu).1; rw [byt_len] at this; exact this
    rw [byt_at G s j hj] at hu
    rw [Addr.add_mid, hG j hj]; exact hu) (byt_one G s) hm hn hbase ?_
  intro g cap' w' q1 q2 q3 q4
  refine s_ex 3 20 (.assign (.tmp 213)) (v := .slice (some ⟨g, 0, none⟩) (n + s) cap') (by kernel_rfl) (ex_as (ev rfl rfl)) ?_
  exact s_end (by kernel_rfl) (hK _ g cap' w' ((((Same.refl.put 211 _).put 212 _).put 213 _).put 20 _) rfl q1 q2 (by rcases q3 with q | q; exact Or.inl (by injection q with q; exact q.symm); exact Or.inr q) q4)
set_option maxRecDepth 100000 in
set_option maxHeartbeats 400000 in
theorem f52 (i m : Nat) (wa : World) (hi : i < m) (hm : m ≤ 256) (f : Nat → Value) (h149 : f 149 = .int .i64 ((i : Nat) : Int)) (K : Act → World → Prop)
    (hK : ∀ (f' : Nat → Value), Same f f' [149, 214] → f' 149 = .int .i64 ((i + 1 : Nat) : Int) → K (F4 f') (wa)) :
    Code.wp Ybaf.prog (dropC 3 l4c) (only K) (F4 f) wa := by
  refine reg4 (by kernel_rfl) ?_
  refine s_ex 0 214 (.binOp .add 3 (.tmp 149) (.const (.int .i64 1)) 3) (v := .int .i64 ((i + 1 : Nat) : Int)) (by kernel_rfl) (ex_bn (u := .int .i64 ((i : Nat) : Int)) (u' := .int .i64 1) (ev rfl h149) rfl (addI (by omega) (by omega) (by omega))) ?_
  refine s_ex 1 149 (.move (.tmp 214)) (v := .int .i64 ((i + 1 : Nat) : Int)) (by kernel_rfl) (ex_mv (ev rfl rfl)) ?_
  exact s_end (by kernel_rfl) (hK _  ((Same.refl.put 214 _).put 149 _) rfl)
set_option maxRecDepth 100000 in
set_option maxHeartbeats 400000 in
theorem f53 (gp n cap : Nat) (wa : World) (f : Nat → Value) (h20 : f 20 = .slice (some ⟨gp, 0, none⟩) n cap) (K : Act → World → Prop)
    (hK : ∀ (f' : Nat → Value), Same f f' [30, 216, 215] → f' 30 = .int .i64 ((n : Nat) : Int) → K (F4 f') (wa)) :
    Code.wp Ybaf.prog (headC (dropC 19 l4)) (only K) (F4 f) wa := by
  refine reg4 (by kernel_rfl) ?_
  refine s_ex 0 215 (.move (.tmp 20)) (v := .slice (some ⟨gp, 0, none⟩) n cap) (by kernel_rfl) (ex_mv (ev rfl h20)) ?_
  refine s_ex 1 216 (.call { callee := .builtin .len, args := #[(.tmp 215)], argTypes := #[53] }) (v := .int .i64 ((n : Nat) : Int)) (by kernel_rfl) (ex_len (ad := (some ⟨gp, 0, none⟩)) (n := n) (c := cap) Ybaf.underlying53 (ev rfl rfl)) ?_
  refine s_ex 2 30 (.assign (.tmp 216)) (v := .int .i64 ((n : Nat) : Int)) (by kernel_rfl) (ex_as (ev rfl rfl)) ?_
  exact s_end (by kernel_rfl) (hK _  (((Same.refl.put 215 _).put 216 _).put 30 _) rfl)
set_option maxRecDepth 100000 in
set_option maxHeartbeats 400000 in
theorem f54 (gp n cap tb to tl c4 base : Nat) (X G : Nat → Nat) (wa : World) (hm : 0 < tl) (hn : n + tl ≤ 1000000) (hbase : base ≤ wa.heap.size) (hown : wa.ownsRow base 5 1 (.slice (some ⟨gp, 0, none⟩) n cap) n (byt X n)) (hG : ∀ k, k < tl → wa.cell? ⟨tb, to + k, none⟩ = some (.int .u8 ((G k : Nat) : Int))) (f : Nat → Value) (h20 : f 20 = .slice (some ⟨gp, 0, none⟩) n cap) (hsrc : f 4 = .slice (some ⟨tb, to, none⟩) tl c4) (K : Act → World → Prop)
    (hK : ∀ (f' : Nat → Value) (g cap' : Nat) (wy : World), Same f f' [20, 219, 218, 217] → f' 20 = .slice (some ⟨g, 0, none⟩) (n + tl) cap' → wy.ownsRow base 5 1 (.slice (some ⟨g, 0, none⟩) (n + tl) cap') (n + tl) (byt X n ++ byt G tl) → wa.grownBy wy (some gp) → (g = gp ∨ g = wa.heap.size) → g < wy.heap.size → K (F4 f') wy) :
    Code.wp Ybaf.prog (headC (dropC 20 l4)) (only K) (F4 f) wa := by
  refine reg4 (by kernel_rfl) ?_
  refine s_ex 0 217 (.move (.tmp 20)) (v := .slice (some ⟨gp, 0, none⟩) n cap) (by kernel_rfl) (ex_mv (ev rfl h20)) ?_
  refine s_ex 1 218 (.move (.tmp 4)) (v := .slice (some ⟨tb, to, none⟩) tl c4) (by kernel_rfl) (ex_mv (ev rfl hsrc)) ?_
  refine s_app 2 219 217 218 (by kernel_rfl) rfl rfl base _ n (byt X n) (by exact rfl) hown ⟨tb, to, none⟩ tl c4 (byt G tl) (by exact rfl) (byt_len G tl) (fun j u hu => by
    have hj : j < tl := by have := (List.getElem?_eq_some_iff.1 hu).1; rw [byt_len] at this; exact this
    rw [byt_at G tl j hj] at hu
    rw [Addr.add_mid, hG j hj]; exact hu) (byt_one G tl) hm hn hbase ?_
  intro g cap' w' q1 q2 q3 q4
  refine s_ex 3 20 (.assign (.tmp 219)) (v := .slice (some ⟨g, 0, none⟩) (n + tl) cap') (by kernel_rfl) (ex_as (ev rfl rfl)) ?_
  exact s_end (by kernel_rfl) (hK _ g cap' w' ((((Same.refl.put 217 _).put 218 _).put 219 _).put 20 _) rfl q1 q2 (by rcases q3 with q | q; exact Or.inl (by injection q with q; exact q.symm); exact Or.inr q) q4)
set_option maxRecDepth 100000 in
set_option maxHeartbeats 400000 in
theorem f54z (gp n cap c4 : Nat) (a4 : Option Addr) (wa : World) (hcap : n ≤ cap) (f : Nat → Value) (h20 : f 20 = .slice (some ⟨gp, 0, none⟩) n cap) (hsrc : f 4 = .slice a4 0 c4) (K : Act → World → Prop)
    (hK : ∀ (f' : Nat → Value), Same f f' [20, 219, 218, 217] → f' 20 = .slice (some ⟨gp, 0, none⟩) n cap → K (F4 f') wa) :
    Code.wp Ybaf.prog (headC (dropC 20 l4)) (only K) (F4 f) wa := by
  refine reg4 (by kernel_rfl) ?_
  refine s_ex 0 217 (.move (.tmp 20)) (v := .slice (some ⟨gp, 0, none⟩) n cap) (by kernel_rfl) (ex_mv (ev rfl h20)) ?_
  refine s_ex 1 218 (.move (.tmp 4)) (v := .slice a4 0 c4) (by kernel_rfl) (ex_mv (ev rfl hsrc)) ?_
  refine s_app0 2 219 217 218 (by kernel_rfl) rfl rfl gp n cap (by exact rfl) hcap a4 c4 (by exact rfl) ?_
  refine s_ex 3 20 (.assign (.tmp 219)) (v := .slice (some ⟨gp, 0, none⟩) n cap) (by kernel_rfl) (ex_as (ev rfl rfl)) ?_
  exact s_end (by kernel_rfl) (hK _ ((((Same.refl.put 217 _).put 218 _).put 219 _).put 20 _) rfl)
set_option maxRecDepth 100000 in
set_option maxHeartbeats 400000 in
theorem f55 (gp n cap : Nat) (wa : World) (f : Nat → Value) (h20 : f 20 = .slice (some ⟨gp, 0, none⟩) n cap) (K : Act → World → Prop)
    (hK : ∀ (f' : Nat → Value), Same f f' [31, 221, 220] → f' 31 = .int .i64 ((n : Nat) : Int) → K (F4 f') (wa)) :
    Code.wp Ybaf.prog (headC (dropC 21 l4)) (only K) (F4 f) wa := by
  refine reg4 (by kernel_rfl) ?_
  refine s_ex 0 220 (.move (.tmp 20)) (v := .slice (some ⟨gp, 0, none⟩) n cap) (by kernel_rfl) (ex_mv (ev rfl h20)) ?_
  refine s_ex 1 221 (.call { callee := .builtin .len, args := #[(.tmp 220)], argTypes := #[53] }) (v := .int .i64 ((n : Nat) : Int)) (by kernel_rfl) (ex_len (ad := (some ⟨gp, 0, none⟩)) (n := n) (c := cap) Ybaf.underlying53 (ev rfl rfl)) ?_
  refine s_ex 2 31 (.assign (.tmp 221)) (v := .int .i64 ((n : Nat) : Int)) (by kernel_rfl) (ex_as (ev rfl rfl)) ?_
  exact s_end (by kernel_rfl) (hK _  (((Same.refl.put 220 _).put 221 _).put 31 _) rfl)
set_option maxRecDepth 100000 in
set_option maxHeartbeats 400000 in
theorem f56 (dc : Bool) (wa : World) (f : Nat → Value) (h6 : f 6 = .bool dc) (K : Act → World → Prop)
    (hK : ∀ (f' : Nat → Value), Same f f' [222] → f' 222 = .bool dc → K (F4 f') (wa)) :
    Code.wp Ybaf.prog (headC (headC (dropC 22 l4))) (only K) (F4 f) wa := by
  refine reg4 (by kernel_rfl) ?_
  refine s_ex 0 222 (.move (.tmp 6)) (v := .bool dc) (by kernel_rfl) (ex_mv (ev rfl h6)) ?_
  exact s_end (by kernel_rfl) (hK _  (Same.refl.put 222 _) rfl)
set_option maxRecDepth 100000 in
set_option maxHeartbeats 400000 in
theorem f57 (n ct : Nat) (wa : World) (hn : n ≤ 1000000) (hc : ct < 4294967296) (f : Nat → Value) (h5 : f 5 = .int .u32 ((ct : Nat) : Int)) (h31 : f 31 = .int .i64 ((n : Nat) : Int)) (K : Act → World → Prop)
    (hK : ∀ (f' : Nat → Value), Same f f' [31, 230, 229, 228, 227, 226, 225, 224, 223] → f' 31 = .int .i64 ((n - ct % (n + 1) : Nat) : Int) → K (F4 f') (wa)) :
    Code.wp Ybaf.prog (thnC (tailC (headC (dropC 22 l4)))) (only K) (F4 f) wa := by
  refine reg4 (by kernel_rfl) ?_
  refine s_ex 0 223 (.move (.tmp 31)) (v := .int .i64 ((n : Nat) : Int)) (by kernel_rfl) (ex_mv (ev rfl h31)) ?_
  refine s_ex 1 224 (.move (.tmp 5)) (v := .int .u32 ((ct : Nat) : Int)) (by kernel_rfl) (ex_mv (ev rfl h5)) ?_
  refine s_ex 2 225 (.move (.tmp 31)) (v := .int .i64 ((n : Nat) : Int)) (by kernel_rfl) (ex_mv (ev rfl h31)) ?_
  refine s_ex 3 226 (.binOp .add 3 (.tmp 225) (.const (.int .i64 1)) 3) (v := .int .i64 ((n + 1 : Nat) : Int)) (by kernel_rfl) (ex_bn (u := .int .i64 ((n : Nat) : Int)) (u' := .int .i64 1) (ev rfl rfl) rfl (addI (by omega) (by omega) (by omega))) ?_
  refine s_ex 4 227 (.convert 3 25 (.tmp 226)) (v := .int .u32 ((n + 1 : Nat) : Int)) (by kernel_rfl) (ex_cv (u := .int .i64 ((n + 1 : Nat) : Int)) (ev rfl rfl) (cv325 (by omega))) ?_
  refine s_ex 5 228 (.binOp .rem 25 (.tmp 224) (.tmp 227) 25) (v := .int .u32 ((ct % (n + 1) : Nat) : Int)) (by kernel_rfl) (ex_bn (u := .int .u32 ((ct : Nat) : Int)) (u' := .int .u32 ((n + 1 : Nat) : Int)) (ev rfl rfl) (ev rfl rfl) (remU (by omega) rfl)) ?_
  refine s_ex 6 229 (.convert 25 3 (.tmp 228)) (v := .int .i64 ((ct % (n + 1) : Nat) : Int)) (by kernel_rfl) (ex_cv (u := .int .u32 ((ct % (n + 1) : Nat) : Int)) (ev rfl rfl) (cv253 (by have := Nat.mod_le ct (n + 1); omega))) ?_
  refine s_ex 7 230 (.binOp .sub 3 (.tmp 223) (.tmp 229) 3) (v := .int .i64 ((n - ct % (n + 1) : Nat) : Int)) (by kernel_rfl) (ex_bn (u := .int .i64 ((n : Nat) : Int)) (u' := .int .i64 ((ct % (n + 1) : Nat) : Int)) (ev rfl rfl) (ev rfl rfl) (subI (by have := Nat.mod_lt ct (show 0 < n + 1 by omega); omega) (by omega) (by omega))) ?_
  refine s_ex 8 31 (.assign (.tmp 230)) (v := .int .i64 ((n - ct % (n + 1) : Nat) : Int)) (by kernel_rfl) (ex_as (ev rfl rfl)) ?_
  exact s_end (by kernel_rfl) (hK _  (((((((((Same.refl.put 223 _).put 224 _).put 225 _).put 226 _).put 227 _).put 228 _).put 229 _).put 230 _).put 31 _) rfl)
set_option maxRecDepth 100000 in
set_option maxHeartbeats 400000 in
theorem f58 (gp n cap l : Nat) (wa : World) (hl : l ≤ cap) (f : Nat → Value) (h20 : f 20 = .slice (some ⟨gp, 0, none⟩) n cap) (h31 : f 31 = .int .i64 ((l : Nat) : Int)) (K : Act → World → Prop)
    (hK : ∀ (f' : Nat → Value), Same f f' [32, 233, 232, 231] → f' 32 = .slice (some ⟨gp, 0, none⟩) l cap → K (F4 f') (wa)) :
    Code.wp Ybaf.prog (headC (dropC 23 l4)) (only K) (F4 f) wa := by
  refine reg4 (by kernel_rfl) ?_
  refine s_ex 0 231 (.move (.tmp 20)) (v := .slice (some ⟨gp, 0, none⟩) n cap) (by kernel_rfl) (ex_mv (ev rfl h20)) ?_
  refine s_ex 1 232 (.move (.tmp 31)) (v := .int .i64 ((l : Nat) : Int)) (by kernel_rfl) (ex_mv (ev rfl h31)) ?_
  refine s_ex 2 233 (.slice 53 (.tmp 231) none (some (.tmp 232)) none) (v := .slice (some ⟨gp, 0, none⟩) l cap) (by kernel_rfl) (ex_slh (u := .slice (some ⟨gp, 0, none⟩) n cap) (hi := .int .i64 ((l : Nat) : Int)) (ev rfl rfl) (ev rfl rfl) (sl53h hl)) ?_
  refine s_ex 3 32 (.assign (.tmp 233)) (v := .slice (some ⟨gp, 0, none⟩) l cap) (by kernel_rfl) (ex_as (ev rfl rfl)) ?_
  exact s_end (by kernel_rfl) (hK _  ((((Same.refl.put 231 _).put 232 _).put 233 _).put 32 _) rfl)
end Go.Proofs.YbulkblsgFmt

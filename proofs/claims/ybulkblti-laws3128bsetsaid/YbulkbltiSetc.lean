import Derived.Test.YbulkbltiMaps
import Derived.Test.YbulkbltiRows
import Derived.ProofKit
import Derived.WalkLawsBesides
import Derived.WalkSpells
import Derived.Outline
import Derived.Laws.EntriesVeiled
import Derived.Deep.QuietTactic
import Derived.BigQuiet
import Derived.WalkSmall
namespace Go.Proofs.Ybulkblti
open Go.RowKit Go.Maps Go.WideMaps
set_option linter.unusedVariables false

theorem hid {p : Prop} (h : p) : Hid p := h
theorem law : Keyed Yba.prog 9 := string_keyed Yba.underlying9
theorem zero3 (w : World) : (zeroValue 3).run Yba.prog w = .ok (.int .i64 0) w := by kernel_rfl
theorem zero28 (w : World) : (zeroValue 28).run Yba.prog w = .ok .nilFunc w := by kernel_rfl

/-- Nothing has turned but the blocks in S. -/
structure But (S : Nat → Prop) (w w' : World) : Prop where
  os : w'.os = w.os
  tape : w'.tape = w.tape
  output : w'.output = w.output
  size : w.heap.size ≤ w'.heap.size
  block : ∀ c, c < w.heap.size → ¬ S c → w'.heap[c]? = w.heap[c]?

theorem But.refl (S : Nat → Prop) (w : World) : But S w w := ⟨rfl, rfl, rfl, Nat.le_refl _, fun _ _ _ => rfl⟩
theorem But.trans {S : Nat → Prop} {a b c : World} (h : But S a b) (k : But S b c) : But S a c :=
  ⟨k.os.trans h.os, k.tape.trans h.tape, k.output.trans h.output, Nat.le_trans h.size k.size, fun i hi hn => (k.block i (Nat.lt_of_lt_of_le hi h.size) hn).trans (h.block i hi hn)⟩
theorem But.setCell {S : Nat → Prop} {a w : World} (h : But S a w) {p : Addr} (hp : S p.block) (u : Value) : But S a (w.setCell p u) :=
  h.trans ⟨rfl, rfl, rfl, by simp [World.setCell], fun k hk hn => Below.heap_setCell _ _ _ _ (fun e => hn (e ▸ hp))⟩
theorem But.turned {S : Nat → Prop} {a w w' : World} {b : Nat} (h : But S a w) (ht : w.mapTurned w' b) (hb : S b) : But S a w' :=
  h.trans ⟨ht.grown.os, ht.grown.tape, ht.grown.output, ht.grown.size, fun k hk hn => ht.grown.block k hk (fun e => hn (by cases e; exact hb))⟩
theorem But.below {S : Nat → Prop} {w w' : World} (h : But S w w') (B : Nat) (hB : B ≤ w.heap.size) (hS : ∀ c, S c → B ≤ c) : Below B w w' :=
  ⟨h.os, h.tape, h.output, h.size, fun k hk => h.block k (by omega) (fun hs => by have := hS k hs; omega)⟩

/-- The interpreter's cells that the law looks at. -/
structure IC (N cm pm : Nat) (kept ver : Int) (w : World) : Prop where
  c8 : w.cell? ⟨N, 8, none⟩ = some (.map (some cm))
  c9 : w.cell? ⟨N, 9, none⟩ = some (.int .u64 ver)
  c24 : w.cell? ⟨N, 24, none⟩ = some (.int .i64 kept)
  c25 : w.cell? ⟨N, 25, none⟩ = some (.int .i64 7)
  c26 : w.cell? ⟨N, 26, none⟩ = some (.int .i64 3)
  c27 : w.cell? ⟨N, 27, none⟩ = some (.map (some pm))
  f9 : w.frozen? ⟨N, 9, none⟩ = false
  f24 : w.frozen? ⟨N, 24, none⟩ = false

theorem IC.of_block {N cm pm : Nat} {kept ver : Int} {w w' : World} (h : IC N cm pm kept ver w) (e : w'.heap[N]? = w.heap[N]?) : IC N cm pm kept ver w' := by
  have hc : ∀ o, w'.cell? ⟨N, o, none⟩ = w.cell? ⟨N, o, none⟩ := fun o => World.cell?_of_block (a := ⟨N, o, none⟩) e
  have hf : ∀ o, w'.frozen? ⟨N, o, none⟩ = w.frozen? ⟨N, o, none⟩ := fun o => World.frozen?_of_block (a := ⟨N, o, none⟩) e
  exact ⟨by rw [hc]; exact h.c8, by rw [hc]; exact h.c9, by rw [hc]; exact h.c24, by rw [hc]; exact h.c25, by rw [hc]; exact h.c26, by rw [hc]; exact h.c27, by rw [hf]; exact h.f9, by rw [hf]; exact h.f24⟩
theorem IC.lt {N cm pm : Nat} {kept ver : Int} {w : World} (h : IC N cm pm kept ver w) : N < w.heap.size := World.block_lt_of_cell? w _ h.c8

theorem addr_ne {b o o' : Nat} (h : o ≠ o') : (⟨b, o, none⟩ : Addr) ≠ ⟨b, o', none⟩ := fun e => h (by injection e)
theorem IC.kept {N cm pm : Nat} {kp ver kp' : Int} {w : World} (h : IC N cm pm kp ver w) : IC N cm pm kp' ver (w.setCell ⟨N, 24, none⟩ (.int .i64 kp')) := by
  refine ⟨?_, ?_, World.cell?_setCell_same _ _ _ h.c24, ?_, ?_, ?_, by rw [World.frozen?_setCell]; exact h.f9, by rw [World.frozen?_setCell]; exact h.f24⟩
  · rw [World.cell?_setCell_other _ _ _ _ (addr_ne (by omega))]; exact h.c8
  · rw [World.cell?_setCell_other _ _ _ _ (addr_ne (by omega))]; exact h.c9
  · rw [World.cell?_setCell_other _ _ _ _ (addr_ne (by omega))]; exact h.c25
  · rw [World.cell?_setCell_other _ _ _ _ (addr_ne (by omega))]; exact h.c26
  · rw [World.cell?_setCell_other _ _ _ _ (addr_ne (by omega))]; exact h.c27
theorem IC.ver {N cm pm : Nat} {kp ver ver' : Int} {w : World} (h : IC N cm pm kp ver w) : IC N cm pm kp ver' (w.setCell ⟨N, 9, none⟩ (.int .u64 ver')) := by
  refine ⟨?_, World.cell?_setCell_same _ _ _ h.c9, ?_, ?_, ?_, ?_, by rw [World.frozen?_setCell]; exact h.f9, by rw [World.frozen?_setCell]; exact h.f24⟩
  · rw [World.cell?_setCell_other _ _ _ _ (addr_ne (by omega))]; exact h.c8
  · rw [World.cell?_setCell_other _ _ _ _ (addr_ne (by omega))]; exact h.c24
  · rw [World.cell?_setCell_other _ _ _ _ (addr_ne (by omega))]; exact h.c25
  · rw [World.cell?_setCell_other _ _ _ _ (addr_ne (by omega))]; exact h.c26
  · rw [World.cell?_setCell_other _ _ _ _ (addr_ne (by omega))]; exact h.c27

/-- What setCommand has done. -/
structure Did (N cm pm : Nat) (w w' : World) (kept' ver' : Int) (nc np : Nat) (gc gp : Lit → Option Value) (sc sp : Nat) : Prop where
  ic : IC N cm pm kept' ver' w'
  mc : MapFn Yba.prog 9 w' cm nc gc sc
  mp : MapFn Yba.prog 9 w' pm np gp sp
  but : But (fun c => c = N ∨ c = cm ∨ c = pm) w w'

def keptOf (kept : Int) : Option Value → Int
  | some (.int .i64 n) => wrap64 (kept - n)
  | _ => kept


def szDel (o : Option Value) (n : Nat) : Nat := if o.isSome then n - 1 else n
def szPut (o : Option Value) (n : Nat) : Nat := if o.isSome then n else n + 1

theorem eq_nil (w : World) : (binOp .eql 28 .nilFunc .nilFunc).run Yba.prog w = .ok (.bool true) w := by kernel_rfl
theorem eq_func (w : World) (a : Fn) (b c : Array Value) : (binOp .eql 28 (.func a b c) .nilFunc).run Yba.prog w = .ok (.bool false) w := by kernel_rfl

theorem MapFn.set {P : Program} {k : TypeId} {w : World} {b n sz : Nat} {f : Lit → Option Value} (h : MapFn P k w b n f sz) {a : Addr} (ha : b ≠ a.block) (u : Value) : MapFn P k (w.setCell a u) b n f sz := h.of_block (Below.heap_setCell _ _ _ _ ha)
theorem MapFn.turn {P : Program} {k : TypeId} {w w' : World} {b n sz c : Nat} {f : Lit → Option Value} (h : MapFn P k w b n f sz) (ht : w.mapTurned w' c) (hne : b ≠ c) : MapFn P k w' b n f sz := h.of_block (turned_block ht hne h.lt)
theorem IC.turn {N cm pm c : Nat} {kept ver : Int} {w w' : World} (h : IC N cm pm kept ver w) (ht : w.mapTurned w' c) (hne : N ≠ c) : IC N cm pm kept ver w' := h.of_block (turned_block ht hne h.lt)

set_option maxRecDepth 100000 in
set_option maxHeartbeats 1000000 in
theorem set_has_clear (N cm pm nc np sc sp : Nat) (kept ver n : Int) (gc gp : Lit → Option Value) (T : ByteArray) (w : World) (hT : T.size ≤ maxLen) (hIC : IC N cm pm kept ver w) (hc : MapFn Yba.prog 9 w cm nc gc sc) (hp : MapFn Yba.prog 9 w pm np gp sp)
    (d1 : N ≠ cm) (d2 : N ≠ pm) (d3 : cm ≠ pm) (hnc : nc < maxLen) (hn : gp (.string T.data.toList) = some (.int .i64 n)) :
    Calls Yba.prog 6 #[.pointer (some ⟨N, 0, none⟩), .string T, .nilFunc] w fun e w' => e = .returned (.tuple #[]) ∧ Did N cm pm w w' (wrap64 (kept - n)) (IntKind.u64.wrap (ver + 1)) nc np (putF gc (.string T.data.toList) none) (putF gp (.string T.data.toList) none) (szDel (gc (.string T.data.toList)) sc) (sp - 1) := by
  have q8 := hIC.c8
  have q9 := hIC.c9
  have q24 := hIC.c24
  have q27 := hIC.c27
  have f9 := hIC.f9
  have f24 := hIC.f24
  have hkey := keyOf_string_mk Yba.underlying9 hT
  have HIC := hid hIC
  have Hn := hid hn
  have hq1 := eq_nil
  have hq2 := eq_func
  clear hIC hn
  go_enter Yba.func6, Yba.ntmps6
  go_wp2_with (first | (at_lookup; refine wpList_look_ok _ rfl (.tmp 12) (.tmp 13) 33 rfl 9 3 law Yba.underlying33 _ (zero3 _) pm np gp sp rfl hp _ _ rfl hkey trivial (.int .i64 n) true (by rw [Hn.out]; rfl) (by rw [Hn.out]; rfl) ?_) | (at_delete; refine wpList_mdelete _ rfl (.tmp 31) (.tmp 32) 33 9 rfl 3 law Yba.underlying33 pm np gp sp rfl (hp.set (Ne.symm d2) _) _ _ rfl hkey trivial ?_; intro w1 hp1 ht1; rw [Hn.out] at hp1; have hI1 := (HIC.out.kept (kp' := wrap64 (kept - n))).turn ht1 d2; have hc1 := (hc.set (Ne.symm d1) _).turn ht1 d3; have HB := hid (((But.refl (fun c => c = N ∨ c = cm ∨ c = pm) w).setCell (.inl rfl) _).turned ht1 (.inr (.inr rfl))); have e8 := hI1.c8; have e9 := hI1.c9; have g9 := hI1.f9; have HI1 := hid hI1; clear hI1 ht1) | (at_delete; refine wpList_mdelete _ rfl (.tmp 38) (.tmp 39) 32 9 rfl 28 law Yba.underlying32 cm nc gc sc rfl hc1 _ _ rfl hkey trivial ?_; intro w2 hc2 ht2; have hI2 := HI1.out.turn ht2 d1; have hp2 := hp1.turn ht2 (Ne.symm d3); have HB2 := hid (HB.out.turned ht2 (.inr (.inl rfl))); have k9 := hI2.c9; have kf9 := hI2.f9; have HI2 := hid hI2; clear hI2 ht2))
  go_end0
  exact ⟨rfl, HI2.out.ver, hc2.set (Ne.symm d1) _, hp2.set (Ne.symm d2) _, HB2.out.setCell (.inl rfl) _⟩

set_option maxRecDepth 100000 in
set_option maxHeartbeats 1000000 in
theorem set_no_clear (N cm pm nc np sc sp : Nat) (kept ver : Int) (gc gp : Lit → Option Value) (T : ByteArray) (w : World) (hT : T.size ≤ maxLen) (hIC : IC N cm pm kept ver w) (hc : MapFn Yba.prog 9 w cm nc gc sc) (hp : MapFn Yba.prog 9 w pm np gp sp)
    (d1 : N ≠ cm) (d2 : N ≠ pm) (d3 : cm ≠ pm) (hnc : nc < maxLen) (hn : gp (.string T.data.toList) = none) :
    Calls Yba.prog 6 #[.pointer (some ⟨N, 0, none⟩), .string T, .nilFunc] w fun e w' => e = .returned (.tuple #[]) ∧ Did N cm pm w w' kept (IntKind.u64.wrap (ver + 1)) nc np (putF gc (.string T.data.toList) none) gp (szDel (gc (.string T.data.toList)) sc) sp := by
  have q8 := hIC.c8
  have q9 := hIC.c9
  have q24 := hIC.c24
  have q27 := hIC.c27
  have f9 := hIC.f9
  have f24 := hIC.f24
  have hkey := keyOf_string_mk Yba.underlying9 hT
  have HIC := hid hIC
  have Hn := hid hn
  have hq1 := eq_nil
  have hq2 := eq_func
  clear hIC hn
  go_enter Yba.func6, Yba.ntmps6
  go_wp2_with (first | (at_lookup; refine wpList_look_ok _ rfl (.tmp 12) (.tmp 13) 33 rfl 9 3 law Yba.underlying33 _ (zero3 _) pm np gp sp rfl hp _ _ rfl hkey trivial (.int .i64 0) false (by rw [Hn.out]; rfl) (by rw [Hn.out]; rfl) ?_) | (at_delete; refine wpList_mdelete _ rfl (.tmp 38) (.tmp 39) 32 9 rfl 28 law Yba.underlying32 cm nc gc sc rfl hc _ _ rfl hkey trivial ?_; intro w2 hc2 ht2; have hI2 := HIC.out.turn ht2 d1; have hp2 := hp.turn ht2 (Ne.symm d3); have HB2 := hid ((But.refl (fun c => c = N ∨ c = cm ∨ c = pm) w).turned ht2 (.inr (.inl rfl))); have k9 := hI2.c9; have kf9 := hI2.f9; have HI2 := hid hI2; clear hI2 ht2))
  go_end0
  exact ⟨rfl, HI2.out.ver, hc2.set (Ne.symm d1) _, hp2.set (Ne.symm d2) _, HB2.out.setCell (.inl rfl) _⟩

set_option maxRecDepth 100000 in
set_option maxHeartbeats 1000000 in
theorem set_has_put (N cm pm nc np sc sp : Nat) (kept ver n : Int) (gc gp : Lit → Option Value) (T : ByteArray) (fn0 : Fn) (fn1 fn2 : Array Value) (w : World) (hT : T.size ≤ maxLen) (hIC : IC N cm pm kept ver w) (hc : MapFn Yba.prog 9 w cm nc gc sc) (hp : MapFn Yba.prog 9 w pm np gp sp)
    (d1 : N ≠ cm) (d2 : N ≠ pm) (d3 : cm ≠ pm) (hnc : nc < maxLen) (hn : gp (.string T.data.toList) = some (.int .i64 n)) :
    Calls Yba.prog 6 #[.pointer (some ⟨N, 0, none⟩), .string T, (.func fn0 fn1 fn2)] w fun e w' => e = .returned (.tuple #[]) ∧ Did N cm pm w w' (wrap64 (kept - n)) (IntKind.u64.wrap (ver + 1)) (nc + 1) np (putF gc (.string T.data.toList) (some (.func fn0 fn1 fn2))) (putF gp (.string T.data.toList) none) (szPut (gc (.string T.data.toList)) sc) (sp - 1) := by
  have q8 := hIC.c8
  have q9 := hIC.c9
  have q24 := hIC.c24
  have q27 := hIC.c27
  have f9 := hIC.f9
  have f24 := hIC.f24
  have hkey := keyOf_string_mk Yba.underlying9 hT
  have HIC := hid hIC
  have Hn := hid hn
  have hq1 := eq_nil
  have hq2 := eq_func
  clear hIC hn
  go_enter Yba.func6, Yba.ntmps6
  go_wp2_with (first | (at_lookup; refine wpList_look_ok _ rfl (.tmp 12) (.tmp 13) 33 rfl 9 3 law Yba.underlying33 _ (zero3 _) pm np gp sp rfl hp _ _ rfl hkey trivial (.int .i64 n) true (by rw [Hn.out]; rfl) (by rw [Hn.out]; rfl) ?_) | (at_delete; refine wpList_mdelete _ rfl (.tmp 31) (.tmp 32) 33 9 rfl 3 law Yba.underlying33 pm np gp sp rfl (hp.set (Ne.symm d2) _) _ _ rfl hkey trivial ?_; intro w1 hp1 ht1; rw [Hn.out] at hp1; have hI1 := (HIC.out.kept (kp' := wrap64 (kept - n))).turn ht1 d2; have hc1 := (hc.set (Ne.symm d1) _).turn ht1 d3; have HB := hid (((But.refl (fun c => c = N ∨ c = cm ∨ c = pm) w).setCell (.inl rfl) _).turned ht1 (.inr (.inr rfl))); have e8 := hI1.c8; have e9 := hI1.c9; have g9 := hI1.f9; have HI1 := hid hI1; clear hI1 ht1) | (at_mapUpdate; refine wpList_mstore _ rfl (.tmp 43) (.tmp 44) (.tmp 45) 32 rfl 9 28 law Yba.underlying32 cm nc gc sc rfl hc1 hnc _ _ _ rfl rfl hkey trivial ?_; intro w2 hc2 ht2; have hI2 := HI1.out.turn ht2 d1; have hp2 := hp1.turn ht2 (Ne.symm d3); have HB2 := hid (HB.out.turned ht2 (.inr (.inl rfl))); have k9 := hI2.c9; have kf9 := hI2.f9; have HI2 := hid hI2; clear hI2 ht2))
  go_end0
  exact ⟨rfl, HI2.out.ver, hc2.set (Ne.symm d1) _, hp2.set (Ne.symm d2) _, HB2.out.setCell (.inl rfl) _⟩

set_option maxRecDepth 100000 in
set_option maxHeartbeats 1000000 in
theorem set_no_put (N cm pm nc np sc sp : Nat) (kept ver : Int) (gc gp : Lit → Option Value) (T : ByteArray) (fn0 : Fn) (fn1 fn2 : Array Value) (w : World) (hT : T.size ≤ maxLen) (hIC : IC N cm pm kept ver w) (hc : MapFn Yba.prog 9 w cm nc gc sc) (hp : MapFn Yba.prog 9 w pm np gp sp)
    (d1 : N ≠ cm) (d2 : N ≠ pm) (d3 : cm ≠ pm) (hnc : nc < maxLen) (hn : gp (.string T.data.toList) = none) :
    Calls Yba.prog 6 #[.pointer (some ⟨N, 0, none⟩), .string T, (.func fn0 fn1 fn2)] w fun e w' => e = .returned (.tuple #[]) ∧ Did N cm pm w w' kept (IntKind.u64.wrap (ver + 1)) (nc + 1) np (putF gc (.string T.data.toList) (some (.func fn0 fn1 fn2))) gp (szPut (gc (.string T.data.toList)) sc) sp := by
  have q8 := hIC.c8
  have q9 := hIC.c9
  have q24 := hIC.c24
  have q27 := hIC.c27
  have f9 := hIC.f9
  have f24 := hIC.f24
  have hkey := keyOf_string_mk Yba.underlying9 hT
  have HIC := hid hIC
  have Hn := hid hn
  have hq1 := eq_nil
  have hq2 := eq_func
  clear hIC hn
  go_enter Yba.func6, Yba.ntmps6
  go_wp2_with (first | (at_lookup; refine wpList_look_ok _ rfl (.tmp 12) (.tmp 13) 33 rfl 9 3 law Yba.underlying33 _ (zero3 _) pm np gp sp rfl hp _ _ rfl hkey trivial (.int .i64 0) false (by rw [Hn.out]; rfl) (by rw [Hn.out]; rfl) ?_) | (at_mapUpdate; refine wpList_mstore _ rfl (.tmp 43) (.tmp 44) (.tmp 45) 32 rfl 9 28 law Yba.underlying32 cm nc gc sc rfl hc hnc _ _ _ rfl rfl hkey trivial ?_; intro w2 hc2 ht2; have hI2 := HIC.out.turn ht2 d1; have hp2 := hp.turn ht2 (Ne.symm d3); have HB2 := hid ((But.refl (fun c => c = N ∨ c = cm ∨ c = pm) w).turned ht2 (.inr (.inl rfl))); have k9 := hI2.c9; have kf9 := hI2.f9; have HI2 := hid hI2; clear hI2 ht2))
  go_end0
  exact ⟨rfl, HI2.out.ver, hc2.set (Ne.symm d1) _, hp2.set (Ne.symm d2) _, HB2.out.setCell (.inl rfl) _⟩

end Go.Proofs.Ybulkblti

import Derived.Test.YbulkbltiLaw
import Derived.WalkKit
import Derived.ProofKit
import Derived.OpenShut
import Derived.ShutString
import Derived.ChangeOld
import Derived.Below
import Derived.Deep.Slices
import Derived.Deep.Strs
namespace Go.Proofs.Ybulkblti.lawS3128BSet
open Go.ChangeShapes Go.WideShapes Go.ChangeAt Go.RowKit Go.Deep
open Go.ChangeMaps (open_string shut_string)
set_option linter.unusedVariables false

theorem own : ownKnob Yba.prog.godebug = none := by kernel_rfl
theorem laidOut : laidOutB Yba.prog = true := by kernel_rfl

section
variable {H : Type} {enc : TypeId × Value → H} {P : Program} {w : World} {base : Nat} {spare : Nat → Bool} {held : Bool}

/-- A slice of structs, each field of one cell, opened at every index below its length. -/
theorem open_structs {t e : TypeId} {fs : Array Field} {fuel : Nat} {cs : List Value} {x : DataW H × List MemPlace} (ht : P.underlying t = some (.slice e)) (he : P.underlying e = some (.struct fs))
    (hone : ∀ (j : Nat) (f : Field), fs[j]? = some f → f.offset = j ∧ P.cellsOf f.type = 1) (hce : P.cellsOf e = fs.size) (h : DataW.trod enc P w base spare held fuel t cs = some x) :
    cs = [.slice none 0 0] ∨ ∃ (a : Addr) (len cap : Nat), cs = [.slice (some a) len cap] ∧ base ≤ a.block ∧ len ≤ cap ∧ cap ≤ maxLen ∧
      ∀ i, i < len → ∃ n, ∀ (j : Nat) (f : Field), fs[j]? = some f → ∃ v y, w.cell? (a.add (i * fs.size + j)) = some v ∧ DataW.trod enc P w base spare held n f.type [v] = some y := by
  rcases open_slice ht h with ⟨h0, _⟩ | ⟨a, len, cap, m, n, D, Pl, rfl, hb, hl, hm, hmm, rfl, hx⟩
  · exact Or.inl h0
  right
  have hlm : len ≤ m := by rw [hmm]; split <;> omega
  refine ⟨a, len, cap, rfl, hb, hl, hm, fun i hi => ?_⟩
  obtain ⟨cs', h1, h2⟩ := hx i (by omega)
  rw [hce] at h1
  obtain ⟨_, hlen, hcell⟩ := World.cells?_some h1
  obtain ⟨xs, k, hk, hxy, _, hxl, hf⟩ := DataW.trod_struct he h2
  refine ⟨k, fun j f hj => ?_⟩
  obtain ⟨ho, hc1⟩ := hone j f hj
  have hjs : j < fs.size := (Array.getElem?_eq_some_iff.1 hj).1
  have hg := hf j f hj
  have hc := hcell j (by omega)
  rw [add_add] at hc
  have hjc : j < cs'.length := by omega
  rw [ho, hc1] at hg
  have hd : (cs'.drop j).take 1 = [cs'[j]] := by rw [List.drop_eq_getElem_cons hjc]; rfl
  rw [hd, List.getElem?_eq_getElem (by omega)] at hg
  exact ⟨cs'[j], xs[j], by rw [hc]; simp [List.getElem?_eq_getElem hjc], hg⟩

end

theorem spot_none {w : World} {b off : Nat} {st : Option Nat} {v : Value} (h : w.cell? ((⟨b, off, st⟩ : Addr).add 0) = some v) : st = none := by
  simpa [Addr.add] using World.cell?_spot h


def IsNames (w : World) (a : Option Addr) (n : Nat) : Prop := ∃ S : Nat → ByteArray, ∀ k, k < n → ∃ b off, a = some ⟨b, off, none⟩ ∧ b < w.heap.size ∧ w.cell? ⟨b, off + k, none⟩ = some (.string (S k)) ∧ (S k).size ≤ maxLen
def IsProcs (w : World) (a : Option Addr) (n : Nat) : Prop := ∃ (PN : Nat → ByteArray) (PB : Nat → Int), ∀ k, k < n → ∃ b off, a = some ⟨b, off, none⟩ ∧ b < w.heap.size ∧ w.cell? ⟨b, off + k * 2, none⟩ = some (.string (PN k)) ∧ w.cell? ⟨b, off + k * 2 + 1, none⟩ = some (.int .i64 (PB k)) ∧ (PN k).size ≤ maxLen

set_option maxRecDepth 100000 in
set_option maxHeartbeats 1000000 in
theorem long (a0 a1 : Option Addr) (nn c0 np c1 : Nat) (v2 v3 v4 v5 v6 : Value) (w : World) (h : 1024 < nn ∨ 1024 < np) :
    Calls Yba.prog 3 #[.slice a0 nn c0, .slice a1 np c1, v2, v3, v4, v5, v6] w fun e w' => e = .returned (.bool true) ∧ Below w.heap.size w w' := by
  by_cases h0 : 1024 < nn
  · have d0 : decide ((1024 : Int) < (nn : Int)) = true := by simp; omega
    go_enter Yba.func3, Yba.ntmps3
    go_wp2
    go_ret
    exact ⟨rfl, Below.refl _ _⟩
  · have d0 : decide ((1024 : Int) < (nn : Int)) = false := by simp; omega
    have d1 : decide ((1024 : Int) < (np : Int)) = true := by simp; omega
    clear h
    go_enter Yba.func3, Yba.ntmps3
    go_wp2
    go_ret
    exact ⟨rfl, Below.refl _ _⟩

theorem walk (a0 a1 : Option Addr) (nn c0 np c1 : Nat) (name : ByteArray) (sel : Nat) (clear : Bool) (kept ver : Int) (w : World) (hname : name.size ≤ maxLen) (hsel : sel ≤ 255) (h0 : IsNames w a0 nn) (h1 : IsProcs w a1 np) :
    Calls Yba.prog 3 #[.slice a0 nn c0, .slice a1 np c1, .string name, .int .u8 sel, .bool clear, .int .i64 kept, .int .u64 ver] w fun e w' => e = .returned (.bool true) ∧ Below w.heap.size w w' := by
  by_cases hl : 1024 < nn ∨ 1024 < np
  · exact long a0 a1 nn c0 np c1 _ _ _ _ _ w hl
  obtain ⟨S, hS⟩ := h0
  obtain ⟨PN, PB, hP⟩ := h1
  exact law_main a0 a1 nn c0 np c1 S PN PB name sel clear kept ver w (by omega) (by omega) hname hsel hS hP

theorem cells26 : Yba.prog.cellsOf 26 = 2 := by kernel_rfl
theorem cells9 : Yba.prog.cellsOf 9 = 1 := by kernel_rfl
theorem cells3 : Yba.prog.cellsOf 3 = 1 := by kernel_rfl

set_option maxRecDepth 100000 in
theorem lifted (os : Os) (started : os.Started) (H : Type) (enc : TypeId × Value → H) :
    ReturnsInHanded {} Yba.checked os 3 .any (Rows.lawS3128BSetSpec.pre6 enc Yba.prog Yba.f3 Rows.lawS3128BSetRow.domain false) (Rows.lawS3128BSetSpec.post enc Yba.prog Yba.f3 false true false false) := by
  refine returnsInHanded_of_change (C := Yba.checked) own started (by kernel_rfl) Yba.func3
    (ChangeSpec.witness6 (enc := enc) (C := Yba.checked) false ⟨#[], #[.slice none 0 0, .slice none 0 0, .string ByteArray.empty, .int .u8 0, .bool false, .int .i64 0, .int .u64 0], []⟩ 8 (by kernel_rfl) (by kernel_rfl) (by kernel_rfl) (by kernel_rfl)) ?_
  intro W base args ds gs before hval0 hW hcnd _
  have hval : ∀ (j : Nat) t v, Yba.f3.params[j]? = some t → args[j]? = some v → Value.okWide Yba.prog W .any base t v := hval0
  have hW' := hW
  obtain ⟨p, q, hA0, hV, rfl, hfz, hnd⟩ := hW
  have hA : DataW.TrodAll enc Yba.prog W 0 (fun _ => true) true Yba.f3.params.toList args.toList ds p := hA0
  rw [Yba.params3] at hA hval
  obtain ⟨v0, vs0, d0, ds0, p0, q0, hargs, rfl, rfl, h0, r0⟩ := trodAll_cons hA
  obtain ⟨v1, vs1, d1, ds1, p1, q1, rfl, rfl, rfl, h1, r1⟩ := trodAll_cons r0
  obtain ⟨v2, vs2, d2, ds2, p2, q2, rfl, rfl, rfl, h2, r2⟩ := trodAll_cons r1
  obtain ⟨v3, vs3, d3, ds3, p3, q3, rfl, rfl, rfl, h3, r3⟩ := trodAll_cons r2
  obtain ⟨v4, vs4, d4, ds4, p4, q4, rfl, rfl, rfl, h4, r4⟩ := trodAll_cons r3
  obtain ⟨v5, vs5, d5, ds5, p5, q5, rfl, rfl, rfl, h5, r5⟩ := trodAll_cons r4
  obtain ⟨v6, vs6, d6, ds6, p6, q6, rfl, rfl, rfl, h6, r6⟩ := trodAll_cons r5
  obtain ⟨rfl, rfl, rfl⟩ := trodAll_nil r6
  obtain rfl : args = #[v0, v1, v2, v3, v4, v5, v6] := by cases args; simp_all
  obtain ⟨rfl, rfl⟩ := trodVars_none hV
  obtain ⟨a0, nn, c0, rfl⟩ := okWide_slice Yba.underlying22 (hval 0 22 v0 rfl rfl)
  obtain ⟨a1, np, c1, rfl⟩ := okWide_slice Yba.underlying23 (hval 1 23 v1 rfl rfl)
  have k0 := h0
  have k1 := h1
  have k2 := h2
  have k3 := h3
  have k4 := h4
  have k5 := h5
  have k6 := h6
  obtain ⟨name, rfl, _, _, hname⟩ := open_string Yba.underlying9 (hval 2 9 v2 rfl rfl) h2
  obtain ⟨z3, rfl, _, _, hwf3⟩ := open_int Yba.underlying5 (hval 3 5 v3 rfl rfl) h3
  obtain ⟨clear, rfl, _, _⟩ := open_bool Yba.underlying4 (hval 4 4 v4 rfl rfl) h4
  obtain ⟨kept, rfl, _, _⟩ := open_int Yba.underlying3 (hval 5 3 v5 rfl rfl) h5
  obtain ⟨ver, rfl, _, _⟩ := open_int Yba.underlying24 (hval 6 24 v6 rfl rfl) h6
  have lt0 : ∀ x ∈ p0, x.block < W.heap.size := by obtain ⟨m, hm⟩ := k0; exact DataW.trod_lt m _ _ _ hm
  have lt1 : ∀ x ∈ p1, x.block < W.heap.size := by obtain ⟨m, hm⟩ := k1; exact DataW.trod_lt m _ _ _ hm
  have lt2 : ∀ x ∈ p2, x.block < W.heap.size := by obtain ⟨m, hm⟩ := k2; exact DataW.trod_lt m _ _ _ hm
  have lt3 : ∀ x ∈ p3, x.block < W.heap.size := by obtain ⟨m, hm⟩ := k3; exact DataW.trod_lt m _ _ _ hm
  have lt4 : ∀ x ∈ p4, x.block < W.heap.size := by obtain ⟨m, hm⟩ := k4; exact DataW.trod_lt m _ _ _ hm
  have lt5 : ∀ x ∈ p5, x.block < W.heap.size := by obtain ⟨m, hm⟩ := k5; exact DataW.trod_lt m _ _ _ hm
  have lt6 : ∀ x ∈ p6, x.block < W.heap.size := by obtain ⟨m, hm⟩ := k6; exact DataW.trod_lt m _ _ _ hm
  have w0 : IsNames W a0 nn := by
    obtain ⟨fuel, hf⟩ := h0
    rcases open_strs Yba.underlying22 Yba.underlying9 cells9 hf with ⟨hcs, _⟩ | ⟨a, len, cap, m, Sx, hcs, _, hl, hm, hmm, hx, hcell⟩
    · simp [Value.cells] at hcs
      obtain ⟨_, rfl, _⟩ := hcs
      exact ⟨fun _ => ByteArray.empty, fun k hk => absurd hk (Nat.not_lt_zero _)⟩
    · simp [Value.cells] at hcs
      obtain ⟨rfl, rfl, rfl⟩ := hcs
      have hlm : nn ≤ m := by rw [hmm]; split <;> omega
      refine ⟨Sx, fun k hk => ?_⟩
      obtain ⟨b, off, st⟩ := a
      have hst : st = none := spot_none (hcell 0 (by omega)).1
      subst hst
      have q := hcell k (by omega)
      rw [Addr.add_mid] at q
      exact ⟨b, off, rfl, World.block_lt_of_cell? W _ q.1, q.1, q.2⟩
  have w1 : IsProcs W a1 np := by
    obtain ⟨fuel, hf⟩ := h1
    rcases open_structs Yba.underlying23 Yba.underlying26 (by
      intro j f h
      match j with
      | 0 => simp at h; subst h; exact ⟨rfl, cells9⟩
      | 1 => simp at h; subst h; exact ⟨rfl, cells3⟩
      | n + 2 => simp at h) (by rw [cells26]; rfl) hf with hcs | ⟨a, l, c, hcs, _, hl, hm, hx⟩
    · simp [Value.cells] at hcs
      obtain ⟨_, rfl, _⟩ := hcs
      exact ⟨fun _ => ByteArray.empty, fun _ => 0, fun k hk => absurd hk (Nat.not_lt_zero _)⟩
    · simp [Value.cells] at hcs
      obtain ⟨rfl, rfl, rfl⟩ := hcs
      by_cases hz : np = 0
      · exact ⟨fun _ => ByteArray.empty, fun _ => 0, fun k hk => absurd hk (by omega)⟩
      obtain ⟨b, off, st⟩ := a
      have hst : st = none := by
        obtain ⟨n, hn⟩ := hx 0 (by omega)
        obtain ⟨v, y, hv, _⟩ := hn 0 _ rfl
        exact spot_none (by simpa using hv)
      subst hst
      have each : ∀ i, i < np → ∃ q : ByteArray × Int, W.cell? ⟨b, off + i * 2, none⟩ = some (.string q.1) ∧ W.cell? ⟨b, off + i * 2 + 1, none⟩ = some (.int .i64 q.2) ∧ q.1.size ≤ maxLen := fun i hi => by
        obtain ⟨n, hn⟩ := hx i hi
        obtain ⟨u0, y0, e0, t0⟩ := hn 0 _ rfl
        obtain ⟨u1, y1, e1, t1⟩ := hn 1 _ rfl
        obtain ⟨s0, hs0, _, hsz⟩ := DataW.trod_string Yba.underlying9 t0
        obtain ⟨z1, hz1, _⟩ := DataW.trod_int Yba.underlying3 t1
        simp only [List.cons.injEq, and_true] at hs0 hz1
        rw [Addr.add_mid] at e0 e1
        exact ⟨(s0, z1), by rw [← hs0]; simpa using e0, by rw [← hz1]; simpa [Nat.add_assoc] using e1, hsz⟩
      obtain ⟨q, hq⟩ := choose_lt each
      exact ⟨fun i => (q i).1, fun i => (q i).2, fun k hk => ⟨b, off, rfl, World.block_lt_of_cell? W _ (hq k hk).1, (hq k hk).1, (hq k hk).2.1, (hq k hk).2.2⟩⟩
  clear hA0 hval0
  obtain ⟨sel, hsel, rfl⟩ : ∃ sel : Nat, sel ≤ 255 ∧ z3 = (sel : Int) := by
    have := bounds_u8 hwf3
    exact ⟨z3.toNat, by omega, by omega⟩
  refine (walk a0 a1 nn c0 np c1 name sel clear kept ver W hname hsel w0 w1).mono fun e W' ⟨he, bel⟩ => ?_
  subst he
  exact ⟨_, rfl, _, _, _, [], _, [], hW', trodAll_mk1 (shut_bool Yba.underlying4 _), (trodAll_cons_mk (Below.trod laidOut (by kernel_rfl) (of_decide_eq_true (by kernel_rfl)) k0 bel lt0) (trodAll_cons_mk (Below.trod laidOut (by kernel_rfl) (of_decide_eq_true (by kernel_rfl)) k1 bel lt1) (trodAll_cons_mk (Below.trod laidOut (by kernel_rfl) (of_decide_eq_true (by kernel_rfl)) k2 bel lt2) (trodAll_cons_mk (Below.trod laidOut (by kernel_rfl) (of_decide_eq_true (by kernel_rfl)) k3 bel lt3) (trodAll_cons_mk (Below.trod laidOut (by kernel_rfl) (of_decide_eq_true (by kernel_rfl)) k4 bel lt4) (trodAll_cons_mk (Below.trod laidOut (by kernel_rfl) (of_decide_eq_true (by kernel_rfl)) k5 bel lt5) (trodAll_cons_mk (Below.trod laidOut (by kernel_rfl) (of_decide_eq_true (by kernel_rfl)) k6 bel lt6) (trodAll_mk0)))))))), rfl, bel.frame _, fun h => by cases h⟩

theorem over : Rows.lawS3128BSetRow.holds Yba.pinned (OpenSpec.ofChange Rows.lawS3128BSetSpec) :=
  OpenClaim.holds_of_wide 3 Yba.f3 rfl rfl rfl rfl rfl rfl rfl ⟨rfl, rfl, rfl, rfl, rfl⟩ rfl rfl rfl rfl rfl (by kernel_rfl) Yba.func3 (by kernel_rfl)
    (of_decide_eq_true (by kernel_rfl)) (by unfold Func.isWrapper; first | (rw [if_pos (by decide +kernel)]; kernel_rfl) | (rw [if_neg (by decide +kernel)]; exact ⟨rfl, rfl⟩))
    (fun os started H enc _ => lifted os started H enc)

/-- THE STATEMENT. -/
theorem proved : Rows.LawS3128BSetSaid := over
end Go.Proofs.Ybulkblti.lawS3128BSet

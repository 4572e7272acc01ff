import Derived.Test.YbulkblzuLaw5
import Derived.WalkKit
import Derived.ProofKit
import Derived.OpenShut
import Derived.ShutString
import Derived.ChangeOld
import Derived.Below
import Derived.Deep.Slices
import Derived.Deep.Strs
namespace Go.Proofs.Ybulkblzu.lawS3140BExact
open Go.ChangeShapes Go.WideShapes Go.ChangeAt Go.RowKit Go.Deep
open Go.ChangeMaps (open_string shut_string)
set_option linter.unusedVariables false

theorem own : ownKnob Yba.prog.godebug = none := by kernel_rfl
theorem laidOut : laidOutB Yba.prog = true := by kernel_rfl

section
variable {H : Type} {enc : TypeId × Value → H} {P : Program} {w : World} {base : Nat} {spare : Nat → Bool} {held : Bool}

/-- A slice of structs, each field of one cell, opened at every index below its length. -/
theorem open_structs {t e : TypeId} {fs : Array Field} {fuel : Nat} {cs : List Value} {x : DataW H × List MemPlace} (ht : P.underlying t = some (.slice e)) (he : P.underlying e = some (.struct fs))
    (hone : ∀ (j : Nat) (f : Field), fs[j]? = some f → f.offset = j ∧ P.cellsOf f.type = 1) (hce : P.cellsOf e = fs.size) (h : DataW.trod enc P w base spare held fuel t cs = some x) :
    cs = [.slice none 0 0] ∨ ∃ (a : Addr) (len cap : Nat), cs = [.slice (some a) len cap] ∧ base ≤ a.block ∧ len ≤ cap ∧ cap ≤ maxLen ∧
      ∀ i, i < len → ∃ n, ∀ (j : Nat) (f : Field), fs[j]? = some f → ∃ v y, w.cell? (a.add (i * fs.size + j)) = some v ∧ DataW.trod enc P w base spare held n f.type [v] = some y := by
  rcases open_slice ht h with ⟨h0, _⟩ | ⟨a, len, cap, m, n, D, Pl, rfl, hb, hl, hm, hmm, rfl, hx⟩
  · exact Or.inl h0
  right
  have hlm : len ≤ m := by rw [hmm]; split <;> omega
  refine ⟨a, len, cap, rfl, hb, hl, hm, fun i hi => ?_⟩
  obtain ⟨cs', h1, h2⟩ := hx i (by omega)
  rw [hce] at h1
  obtain ⟨_, hlen, hcell⟩ := World.cells?_some h1
  obtain ⟨xs, k, hk, hxy, _, hxl, hf⟩ := DataW.trod_struct he h2
  refine ⟨k, fun j f hj => ?_⟩
  obtain ⟨ho, hc1⟩ := hone j f hj
  have hjs : j < fs.size := (Array.getElem?_eq_some_iff.1 hj).1
  have hg := hf j f hj
  have hc := hcell j (by omega)
  rw [add_add] at hc
  have hjc : j < cs'.length := by omega
  rw [ho, hc1] at hg
  have hd : (cs'.drop j).take 1 = [cs'[j]] := by rw [List.drop_eq_getElem_cons hjc]; rfl
  rw [hd, List.getElem?_eq_getElem (by omega)] at hg
  exact ⟨cs'[j], xs[j], by rw [hc]; simp [List.getElem?_eq_getElem hjc], hg⟩

end

theorem spot_none {w : World} {b off : Nat} {st : Option Nat} {v : Value} (h : w.cell? ((⟨b, off, st⟩ : Addr).add 0) = some v) : st = none := by
  simpa [Addr.add] using World.cell?_spot h



set_option maxRecDepth 100000 in
set_option maxHeartbeats 1000000 in
theorem long (a0 : Option Addr) (nn c0 : Nat) (v1 : Value) (w : World) (h : 1024 < nn) :
    Calls Yba.prog 3 #[.slice a0 nn c0, v1] w fun e w' => e = .returned (.bool true) ∧ Below w.heap.size w w' := by
  have d0 : decide ((1024 : Int) < (nn : Int)) = true := by simp; omega
  go_enter Yba.func3, Yba.ntmps3
  go_wp2
  go_ret
  exact ⟨rfl, Below.refl _ _⟩

theorem walk (a0 : Option Addr) (nn c0 q : Nat) (w : World) (hq : q ≤ 255) (h0 : ∃ E, Given E a0 nn w) :
    Calls Yba.prog 3 #[.slice a0 nn c0, .int .u8 (q : Nat)] w fun e w' => e = .returned (.bool true) ∧ Below w.heap.size w w' := by
  by_cases hl : 1024 < nn
  · exact long a0 nn c0 _ w hl
  obtain ⟨E, hE⟩ := h0
  exact law_main E a0 nn c0 q w (by omega) hq hE

theorem cells31 : Yba.prog.cellsOf 31 = 5 := by kernel_rfl
theorem cells9 : Yba.prog.cellsOf 9 = 1 := by kernel_rfl
theorem cells5 : Yba.prog.cellsOf 5 = 1 := by kernel_rfl
theorem cells29 : Yba.prog.cellsOf 29 = 1 := by kernel_rfl
theorem cells4 : Yba.prog.cellsOf 4 = 1 := by kernel_rfl
theorem bounds_u16 {x : Int} (h : (Lit.int .u16 x).wf = true) : 0 ≤ x := by
  simp [Lit.wf, IntKind.min, IntKind.max, IntKind.signed, IntKind.bits] at h
  omega

set_option maxRecDepth 100000 in
theorem lifted (os : Os) (started : os.Started) (H : Type) (enc : TypeId × Value → H) :
    ReturnsInHanded {} Yba.checked os 3 .any (Rows.lawS3140BExactSpec.pre6 enc Yba.prog Yba.f3 Rows.lawS3140BExactRow.domain false) (Rows.lawS3140BExactSpec.post enc Yba.prog Yba.f3 false true false false) := by
  refine returnsInHanded_of_change (C := Yba.checked) own started (by kernel_rfl) Yba.func3
    (ChangeSpec.witness6 (enc := enc) (C := Yba.checked) false ⟨#[], #[.slice none 0 0, .int .u8 0], []⟩ 8 (by kernel_rfl) (by kernel_rfl) (by kernel_rfl) (by kernel_rfl)) ?_
  intro W base args ds gs before hval0 hW hcnd _
  have hval : ∀ (j : Nat) t v, Yba.f3.params[j]? = some t → args[j]? = some v → Value.okWide Yba.prog W .any base t v := hval0
  have hW' := hW
  obtain ⟨p, q, hA0, hV, rfl, hfz, hnd⟩ := hW
  have hA : DataW.TrodAll enc Yba.prog W 0 (fun _ => true) true Yba.f3.params.toList args.toList ds p := hA0
  rw [Yba.params3] at hA hval
  obtain ⟨v0, vs0, d0, ds0, p0, q0, hargs, rfl, rfl, h0, r0⟩ := trodAll_cons hA
  obtain ⟨v1, vs1, d1, ds1, p1, q1, rfl, rfl, rfl, h1, r1⟩ := trodAll_cons r0
  obtain ⟨rfl, rfl, rfl⟩ := trodAll_nil r1
  obtain rfl : args = #[v0, v1] := by cases args; simp_all
  obtain ⟨rfl, rfl⟩ := trodVars_none hV
  obtain ⟨a0, nn, c0, rfl⟩ := okWide_slice Yba.underlying22 (hval 0 22 v0 rfl rfl)
  have k0 := h0
  have k1 := h1
  obtain ⟨z1, rfl, _, _, hwf1⟩ := open_int Yba.underlying5 (hval 1 5 v1 rfl rfl) h1
  have lt0 : ∀ x ∈ p0, x.block < W.heap.size := by obtain ⟨m, hm⟩ := k0; exact DataW.trod_lt m _ _ _ hm
  have lt1 : ∀ x ∈ p1, x.block < W.heap.size := by obtain ⟨m, hm⟩ := k1; exact DataW.trod_lt m _ _ _ hm
  have w0 : ∃ E, Given E a0 nn W := by
    obtain ⟨fuel, hf⟩ := h0
    rcases open_structs Yba.underlying22 Yba.underlying31 (by
      intro j f h
      match j with
      | 0 => simp at h; subst h; exact ⟨rfl, cells5⟩
      | 1 => simp at h; subst h; exact ⟨rfl, cells9⟩
      | 2 => simp at h; subst h; exact ⟨rfl, cells29⟩
      | 3 => simp at h; subst h; exact ⟨rfl, cells4⟩
      | 4 => simp at h; subst h; exact ⟨rfl, cells5⟩
      | n + 5 => simp at h) (by rw [cells31]; rfl) hf with hcs | ⟨a, l, c, hcs, _, hl, hm, hx⟩
    · simp [Value.cells] at hcs
      obtain ⟨_, rfl, _⟩ := hcs
      exact ⟨fun _ => ⟨0, ByteArray.empty, 0, false, 0⟩, fun k hk => absurd hk (Nat.not_lt_zero _)⟩
    · simp [Value.cells] at hcs
      obtain ⟨rfl, rfl, rfl⟩ := hcs
      by_cases hz : nn = 0
      · exact ⟨fun _ => ⟨0, ByteArray.empty, 0, false, 0⟩, fun k hk => absurd hk (by omega)⟩
      obtain ⟨b, off, st⟩ := a
      have hst : st = none := by
        obtain ⟨n, hn⟩ := hx 0 (by omega)
        obtain ⟨v, y, hv, _⟩ := hn 0 _ rfl
        exact spot_none (by simpa using hv)
      subst hst
      have each : ∀ i, i < nn → ∃ e : Ent, W.cell? ⟨b, off + i * 5, none⟩ = some (.int .u8 e.id) ∧ W.cell? ⟨b, off + i * 5 + 1, none⟩ = some (.string e.host) ∧ W.cell? ⟨b, off + i * 5 + 2, none⟩ = some (.int .u16 e.port) ∧
          W.cell? ⟨b, off + i * 5 + 3, none⟩ = some (.bool e.held) ∧ W.cell? ⟨b, off + i * 5 + 4, none⟩ = some (.int .u8 e.own) ∧ e.own ≤ 255 := fun i hi => by
        obtain ⟨n, hn⟩ := hx i hi
        obtain ⟨u0, y0, e0, t0⟩ := hn 0 _ rfl
        obtain ⟨u1, y1, e1, t1⟩ := hn 1 _ rfl
        obtain ⟨u2, y2, e2, t2⟩ := hn 2 _ rfl
        obtain ⟨u3, y3, e3, t3⟩ := hn 3 _ rfl
        obtain ⟨u4, y4, e4, t4⟩ := hn 4 _ rfl
        obtain ⟨x0, hx0, _, wf0⟩ := DataW.trod_int Yba.underlying5 t0
        obtain ⟨s1, hs1, _, _⟩ := DataW.trod_string Yba.underlying9 t1
        obtain ⟨x2, hx2, _, wf2⟩ := DataW.trod_int Yba.underlying29 t2
        obtain ⟨b3, hb3, _⟩ := DataW.trod_bool Yba.underlying4 t3
        obtain ⟨x4, hx4, _, wf4⟩ := DataW.trod_int Yba.underlying5 t4
        simp only [List.cons.injEq, and_true] at hx0 hs1 hx2 hb3 hx4
        rw [Addr.add_mid] at e0 e1 e2 e3 e4
        have g0 := bounds_u8 wf0
        have g2 := bounds_u16 wf2
        have g4 := bounds_u8 wf4
        have i0 : ((x0.toNat : Nat) : Int) = x0 := by omega
        have i2 : ((x2.toNat : Nat) : Int) = x2 := by omega
        have i4 : ((x4.toNat : Nat) : Int) = x4 := by omega
        refine ⟨⟨x0.toNat, s1, x2.toNat, b3, x4.toNat⟩, ?_, ?_, ?_, ?_, ?_, by show x4.toNat ≤ 255; omega⟩
        · show _ = some (Value.int .u8 ((x0.toNat : Nat) : Int)); rw [i0, ← hx0]; simpa using e0
        · show _ = some (Value.string s1); rw [← hs1]; simpa [Nat.add_assoc] using e1
        · show _ = some (Value.int .u16 ((x2.toNat : Nat) : Int)); rw [i2, ← hx2]; simpa [Nat.add_assoc] using e2
        · show _ = some (Value.bool b3); rw [← hb3]; simpa [Nat.add_assoc] using e3
        · show _ = some (Value.int .u8 ((x4.toNat : Nat) : Int)); rw [i4, ← hx4]; simpa [Nat.add_assoc] using e4
      haveI : Inhabited Ent := ⟨⟨0, ByteArray.empty, 0, false, 0⟩⟩
      obtain ⟨E, hE⟩ := choose_lt each
      exact ⟨E, fun k hk => ⟨b, off, rfl, World.block_lt_of_cell? W _ (hE k hk).1, hE k hk⟩⟩
  clear hA0 hval0
  obtain ⟨sel, hsel, rfl⟩ : ∃ sel : Nat, sel ≤ 255 ∧ z1 = (sel : Int) := by
    have := bounds_u8 hwf1
    exact ⟨z1.toNat, by omega, by omega⟩
  refine (walk a0 nn c0 sel W hsel w0).mono fun e W' ⟨he, bel⟩ => ?_
  subst he
  exact ⟨_, rfl, _, _, _, [], _, [], hW', trodAll_mk1 (shut_bool Yba.underlying4 _), (trodAll_cons_mk (Below.trod laidOut (by kernel_rfl) (of_decide_eq_true (by kernel_rfl)) k0 bel lt0) (trodAll_cons_mk (Below.trod laidOut (by kernel_rfl) (of_decide_eq_true (by kernel_rfl)) k1 bel lt1) (trodAll_mk0))), rfl, bel.frame _, fun h => by cases h⟩

theorem over : Rows.lawS3140BExactRow.holds Yba.pinned (OpenSpec.ofChange Rows.lawS3140BExactSpec) :=
  OpenClaim.holds_of_wide 3 Yba.f3 rfl rfl rfl rfl rfl rfl rfl ⟨rfl, rfl, rfl, rfl, rfl⟩ rfl rfl rfl rfl rfl (by kernel_rfl) Yba.func3 (by kernel_rfl)
    (of_decide_eq_true (by kernel_rfl)) (by unfold Func.isWrapper; first | (rw [if_pos (by decide +kernel)]; kernel_rfl) | (rw [if_neg (by decide +kernel)]; exact ⟨rfl, rfl⟩))
    (fun os started H enc _ => lifted os started H enc)

/-- THE STATEMENT. -/
theorem proved : Rows.LawS3140BExactSaid := over
end Go.Proofs.Ybulkblzu.lawS3140BExact

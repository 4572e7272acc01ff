import Derived.Test.YbulkblsgFmtTs
import Derived.Test.YbulkblsgFmtCards
import Derived.Test.YbulkblsgFmtTie
import Derived.ProofKit
import Derived.LaidMore
import Derived.OpenShut
import Derived.ShutString
import Derived.ChangeOld
import Derived.Stop.Joined
import Derived.Stop.JoinedTold
import Derived.Deep.Slices
import Derived.Deep.Grids
import Derived.SevenToldRow
import Derived.SevenTiedAt
import Derived.SizedLaws
namespace Go.Proofs.YbulkblsgFmt.lawS3126BFire
open Go.ChangeShapes Go.WideShapes Go.ChangeAt Go.RowKit Go.Deep Go.WideElems
open Go.Extern.Stop Go.Stop Go.Extern
set_option linter.unusedVariables false

theorem own : ownKnob Ybaf.prog.godebug = none := by kernel_rfl
theorem laidOut : laidOutB Ybaf.prog = true := by kernel_rfl
theorem stops : Ybaf.pinned.checked.prog.stops = ["fmt.errorf, its operands' methods called", "fmt.Sprintf, its operands' methods called"] := by kernel_rfl
theorem stopKnobs : Ybaf.pinned.checked.prog.stopKnobs = [] := by kernel_rfl
theorem quiet (os : Os) : Stop.quiet Ybaf.pinned.checked.prog os := by
  intro k hk
  rw [stopKnobs] at hk
  cases hk
theorem bounds_u16 {x : Int} (h : (Lit.int .u16 x).wf = true) : 0 ≤ x ∧ x ≤ 65535 := by
  simp [Lit.wf, IntKind.min, IntKind.max, IntKind.signed, IntKind.bits] at h
  omega
theorem bounds_u32 {x : Int} (h : (Lit.int .u32 x).wf = true) : 0 ≤ x ∧ x ≤ 4294967295 := by
  simp [Lit.wf, IntKind.min, IntKind.max, IntKind.signed, IntKind.bits] at h
  omega

/-- The deadlines. -/
theorem dls_of {H : Type} {enc : TypeId × Value → H} {W : World} {a : Option Addr} {len cap : Nat} {d : DataW H} {p : List MemPlace} (h : DataW.Trod enc Ybaf.prog W 0 (fun _ => true) true 22 (.slice a len cap) d p) :
    ∃ (b off : Nat) (G : Nat → Nat), (0 < len → a = some ⟨b, off, none⟩) ∧ (∀ x, G x < 4294967296) ∧ ∀ i, i < len → W.cell? ⟨b, off + i, none⟩ = some (.int .u32 ((G i : Nat) : Int)) := by
  obtain ⟨fuel, hf⟩ := h
  rcases open_ints Ybaf.underlying22 Ybaf.underlying25 (by kernel_rfl) hf with ⟨hcs, _⟩ | ⟨x, l, c, zs, hcs, _, hl, hm, hz, _, hcell, hwz⟩
  · simp [Value.cells] at hcs
    exact ⟨0, 0, fun _ => 0, fun h => by omega, fun _ => (by decide : (0 : Nat) < 4294967296), fun i hi => by omega⟩
  · simp [Value.cells] at hcs
    obtain ⟨rfl, rfl, rfl⟩ := hcs
    by_cases hz0 : len = 0
    · exact ⟨0, 0, fun _ => 0, fun h => by omega, fun _ => (by decide : (0 : Nat) < 4294967296), fun i hi => by omega⟩
    have hz' : zs.length = cap := by simpa using hz
    obtain ⟨b, off, rfl, hc⟩ := ints_at hcell (by omega)
    have bd : ∀ i, 0 ≤ zs.getD i 0 ∧ zs.getD i 0 ≤ 4294967295 := fun i => by
      by_cases hi : i < zs.length
      · exact bounds_u32 (hwz (zs.getD i 0) (by simp [List.getD, List.getElem?_eq_getElem hi]))
      · have : zs.getD i 0 = 0 := by simp [List.getD, List.getElem?_eq_none (show zs.length ≤ i by omega)]
        omega
    refine ⟨b, off, fun i => (zs.getD i 0).toNat, fun _ => rfl, fun i => ?_, fun i hi => ?_⟩
    · have := bd i
      show (zs.getD i 0).toNat < 4294967296
      omega
    · have := bd i
      rw [Int.toNat_of_nonneg this.1]
      exact hc i (by omega)
/-- The picks. -/
theorem bools_of {H : Type} {enc : TypeId × Value → H} {W : World} {a : Option Addr} {len cap : Nat} {d : DataW H} {p : List MemPlace} (h : DataW.Trod enc Ybaf.prog W 0 (fun _ => true) true 23 (.slice a len cap) d p) :
    ∃ (b off : Nat) (G : Nat → Bool), (0 < len → a = some ⟨b, off, none⟩) ∧ ∀ i, i < len → W.cell? ⟨b, off + i, none⟩ = some (.bool (G i)) := by
  obtain ⟨fuel, hf⟩ := h
  rcases open_bools Ybaf.underlying23 Ybaf.underlying4 (by kernel_rfl) hf with ⟨hcs, _⟩ | ⟨x, l, c, B, hcs, _, hl, hm, _, hcell⟩
  · simp [Value.cells] at hcs
    exact ⟨0, 0, fun _ => false, fun h => by omega, fun i hi => by omega⟩
  · simp [Value.cells] at hcs
    obtain ⟨rfl, rfl, rfl⟩ := hcs
    by_cases hz0 : len = 0
    · exact ⟨0, 0, fun _ => false, fun h => by omega, fun i hi => by omega⟩
    obtain ⟨b, off, st⟩ := x
    have hst : st = none := by
      simpa [Addr.add] using World.cell?_spot (hcell 0 (by omega))
    subst hst
    refine ⟨b, off, B, fun _ => rfl, fun i hi => ?_⟩
    rw [← Go.WideShapes.add_plain]
    exact hcell i (by omega)
/-- The list ahead. -/
theorem ints_of {H : Type} {enc : TypeId × Value → H} {W : World} {a : Option Addr} {len cap : Nat} {d : DataW H} {p : List MemPlace} (h : DataW.Trod enc Ybaf.prog W 0 (fun _ => true) true 26 (.slice a len cap) d p) :
    ∃ (b off : Nat) (zs : List Int), zs.length = len ∧ (0 < len → a = some ⟨b, off, none⟩) ∧ ∀ i, i < len → W.cell? ⟨b, off + i, none⟩ = some (.int .i64 (zs.getD i 0)) := by
  obtain ⟨fuel, hf⟩ := h
  rcases open_ints Ybaf.underlying26 Ybaf.underlying3 (by kernel_rfl) hf with ⟨hcs, _⟩ | ⟨x, l, c, zs, hcs, _, hl, hm, hz, _, hcell, hwz⟩
  · simp [Value.cells] at hcs
    exact ⟨0, 0, [], by simp [hcs], fun h => by omega, fun i hi => by omega⟩
  · simp [Value.cells] at hcs
    obtain ⟨rfl, rfl, rfl⟩ := hcs
    by_cases hz0 : len = 0
    · exact ⟨0, 0, [], by simp [hz0], fun h => by omega, fun i hi => by omega⟩
    have hz' : zs.length = cap := by simpa using hz
    obtain ⟨b, off, rfl, hc⟩ := ints_at hcell (by omega)
    refine ⟨b, off, zs.take len, by rw [List.length_take]; omega, fun _ => rfl, fun i hi => ?_⟩
    rw [hc i (by omega)]
    simp [List.getD, hi]

def theSpec : OpenSpec := OpenSpec.ofChange Rows.lawS3126BFireSpec

set_option maxRecDepth 100000 in
theorem lifted (os : Os) (started : os.Started) (H : Type) (enc : TypeId × Value → H) :
    ReturnsInTold none {} Ybaf.checked os 3 .any Input.okWide (theSpec.preRow enc Ybaf.prog Ybaf.f3 Rows.lawS3126BFireRow.domain false []) (fun F => (theSpec.at F).post enc Ybaf.prog Ybaf.f3 false true false false) (aloneAtReturn Ybaf.prog) nothingAlways := by
  refine returnsInTold_of_row (C := Ybaf.checked) (s := theSpec) (by kernel_rfl) own started (by kernel_rfl) Ybaf.func3
    (OpenSpec.witness_stopped (enc := enc) (C := Ybaf.checked) false ⟨#[], #[.slice none 0 0, .slice none 0 0, .int .u16 0, .int .u32 0, .int .u32 0, .slice none 0 0], []⟩ 8 (by kernel_rfl) (by kernel_rfl) (by kernel_rfl) (by kernel_rfl)) ?_
  intro F W base args ds gs before _ hF hval0 hW _ _ _ _ _
  have hval : ∀ (j : Nat) t v, Ybaf.f3.params[j]? = some t → args[j]? = some v → Value.okWide Ybaf.prog W .any base t v := hval0
  have hW' := hW
  obtain ⟨p, q, hA0, hV0, rfl, hfz, hnd⟩ := hW
  have hA : DataW.TrodAll enc Ybaf.prog W 0 (fun _ => true) true Ybaf.f3.params.toList args.toList ds p := hA0
  have hV : DataW.TrodVars enc Ybaf.prog W (fun _ => true) [] gs q := hV0
  rw [Ybaf.params3] at hA hval
  obtain ⟨v0, vs0, d0, ds0, p0, q0, hargs, rfl, rfl, h0, r0⟩ := trodAll_cons hA
  obtain ⟨v1, vs1, d1, ds1, p1, q1, rfl, rfl, rfl, h1, r1⟩ := trodAll_cons r0
  obtain ⟨v2, vs2, d2, ds2, p2, q2, rfl, rfl, rfl, h2, r2⟩ := trodAll_cons r1
  obtain ⟨v3, vs3, d3, ds3, p3, q3, rfl, rfl, rfl, h3, r3⟩ := trodAll_cons r2
  obtain ⟨v4, vs4, d4, ds4, p4, q4, rfl, rfl, rfl, h4, r4⟩ := trodAll_cons r3
  obtain ⟨v5, vs5, d5, ds5, p5, q5, rfl, rfl, rfl, h5, r5⟩ := trodAll_cons r4
  obtain ⟨rfl, rfl, rfl⟩ := trodAll_nil r5
  obtain rfl : args = #[v0, v1, v2, v3, v4, v5] := by cases args; simp_all
  obtain ⟨rfl, rfl⟩ := trodVars_none hV
  obtain ⟨a0, n0, c0, rfl⟩ := okWide_slice Ybaf.underlying22 (hval 0 22 v0 rfl rfl)
  obtain ⟨a1, n1, c1, rfl⟩ := okWide_slice Ybaf.underlying23 (hval 1 23 v1 rfl rfl)
  obtain ⟨a5, n5, c5, rfl⟩ := okWide_slice Ybaf.underlying26 (hval 5 26 v5 rfl rfl)
  have k0 := h0
  have k1 := h1
  have k2 := h2
  have k3 := h3
  have k4 := h4
  have k5 := h5
  have lt0 : ∀ x ∈ p0, x.block < W.heap.size := by obtain ⟨m, hm⟩ := k0; exact DataW.trod_lt m _ _ _ hm
  have lt1 : ∀ x ∈ p1, x.block < W.heap.size := by obtain ⟨m, hm⟩ := k1; exact DataW.trod_lt m _ _ _ hm
  have lt2 : ∀ x ∈ p2, x.block < W.heap.size := by obtain ⟨m, hm⟩ := k2; exact DataW.trod_lt m _ _ _ hm
  have lt3 : ∀ x ∈ p3, x.block < W.heap.size := by obtain ⟨m, hm⟩ := k3; exact DataW.trod_lt m _ _ _ hm
  have lt4 : ∀ x ∈ p4, x.block < W.heap.size := by obtain ⟨m, hm⟩ := k4; exact DataW.trod_lt m _ _ _ hm
  have lt5 : ∀ x ∈ p5, x.block < W.heap.size := by obtain ⟨m, hm⟩ := k5; exact DataW.trod_lt m _ _ _ hm
  obtain ⟨z2, rfl, _, _, wf2⟩ := open_int Ybaf.underlying24 (hval 2 24 v2 rfl rfl) h2
  obtain ⟨z3, rfl, _, _, wf3⟩ := open_int Ybaf.underlying25 (hval 3 25 v3 rfl rfl) h3
  obtain ⟨z4, rfl, _, _, wf4⟩ := open_int Ybaf.underlying25 (hval 4 25 v4 rfl rfl) h4
  obtain ⟨ab, ao, dl, ha0, hdl, cdl⟩ := dls_of h0
  obtain ⟨pb, po, pbv, ha1, cpb⟩ := bools_of h1
  obtain ⟨xb, xo, pre, hpl, ha5, cpx⟩ := ints_of h5
  clear hA0 hval0
  obtain ⟨gr, hgr, rfl⟩ : ∃ gr : Nat, gr < 65536 ∧ z2 = (gr : Int) := by
    have := bounds_u16 wf2
    exact ⟨z2.toNat, by omega, by omega⟩
  obtain ⟨tk, htk, rfl⟩ : ∃ tk : Nat, tk < 4294967296 ∧ z3 = (tk : Int) := by
    have := bounds_u32 wf3
    exact ⟨z3.toNat, by omega, by omega⟩
  obtain ⟨bd, hbd, rfl⟩ : ∃ bd : Nat, bd < 4294967296 ∧ z4 = (bd : Int) := by
    have := bounds_u32 wf4
    exact ⟨z4.toNat, by omega, by omega⟩
  refine (fire_main { n := n0, p := n5, pn := n1, gr := gr, tk := tk, bd := bd, a0 := a0, a1 := a1, a5 := a5, ab := ab, ao := ao, c0 := c0, pb := pb, po := po, c1 := c1, xb := xb, xo := xo, c5 := c5, dl := dl, pbv := pbv, pre := pre } W (fun h300 h1024 => { n300 := h300, p1024 := h1024, plen := hpl, gr := hgr, tk := htk, bd := hbd, dl := hdl, ha0 := ha0, ha1 := ha1, ha5 := ha5, cdl := cdl, cpb := cpb, cpx := cpx })).mono fun e W' ⟨he, bel⟩ => ?_
  subst he
  exact ⟨_, rfl, _, _, _, [], _, _, hW', trodAll_mk1 (shut_bool Ybaf.underlying4 _), (trodAll_cons_mk (Below.trod laidOut (by kernel_rfl) (of_decide_eq_true (by kernel_rfl)) k0 bel lt0) (trodAll_cons_mk (Below.trod laidOut (by kernel_rfl) (of_decide_eq_true (by kernel_rfl)) k1 bel lt1) (trodAll_cons_mk (Below.trod laidOut (by kernel_rfl) (of_decide_eq_true (by kernel_rfl)) k2 bel lt2) (trodAll_cons_mk (Below.trod laidOut (by kernel_rfl) (of_decide_eq_true (by kernel_rfl)) k3 bel lt3) (trodAll_cons_mk (Below.trod laidOut (by kernel_rfl) (of_decide_eq_true (by kernel_rfl)) k4 bel lt4) (trodAll_cons_mk (Below.trod laidOut (by kernel_rfl) (of_decide_eq_true (by kernel_rfl)) k5 bel lt5) trodAll_mk0)))))), rfl, bel.frame _, fun h => by cases h⟩

/-- THE STATEMENT: the told card. -/
theorem proved : Rows.LawS3126BFireToldSaid :=
  Claim7.holds_of_told_any 3 Ybaf.f3 "fmt.errorf, its operands' methods called" ["fmt.Sprintf, its operands' methods called"] [] _ _ _ (by kernel_rfl) rfl rfl rfl laidOut (by kernel_rfl) rfl ⟨rfl, rfl, rfl, rfl, rfl, rfl, rfl⟩ rfl rfl (by kernel_rfl) (by kernel_rfl) Ybaf.func3 (by kernel_rfl)
    (of_decide_eq_true (by kernel_rfl)) (of_decide_eq_true (by kernel_rfl)) stops.symm rfl stopKnobs.symm (by kernel_rfl)
    (by kernel_rfl) (by kernel_rfl) (by kernel_rfl) (by kernel_rfl) (by kernel_rfl) (by kernel_rfl) (by kernel_rfl) (by kernel_rfl) (by kernel_rfl) rfl (by kernel_rfl) rfl rfl
    rfl rfl
    rfl (by kernel_rfl) (by kernel_rfl) (by kernel_rfl) (by decide) (by kernel_rfl)
    (OpenClaim.moreEntering_of (by kernel_rfl) (by kernel_rfl) (by kernel_rfl) (by kernel_rfl) (by kernel_rfl) (by kernel_rfl) (by kernel_rfl) (by kernel_rfl) (by kernel_rfl) (by kernel_rfl))
    ⟨_, WideRow.started_initial, quiet _⟩
    (fun os started _ H enc _ => lifted os started H enc)
end Go.Proofs.YbulkblsgFmt.lawS3126BFire

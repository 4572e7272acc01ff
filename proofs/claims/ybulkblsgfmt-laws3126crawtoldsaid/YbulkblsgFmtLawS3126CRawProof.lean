import Derived.Test.YbulkblsgFmtRaw4
import Derived.Test.YbulkblsgFmtCards
import Derived.Test.YbulkblsgFmtTie
import Derived.ProofKit
import Derived.LaidMore
import Derived.OpenShut
import Derived.ShutString
import Derived.ChangeOld
import Derived.Stop.Joined
import Derived.Stop.JoinedTold
import Derived.Stop.LaidErr
import Derived.Deep.Fields23
import Derived.Deep.DeepWitnessRef
import Derived.Deep.Slices
import Derived.SevenTiedAt
import Derived.SizedLaws
namespace Go.Proofs.YbulkblsgFmt.lawS3126CRaw
open Go.ChangeShapes Go.WideShapes Go.ChangeAt Go.RowKit Go.Deep Go.WideElems
open Go.Extern.Stop Go.Stop Go.Extern
set_option linter.unusedVariables false

theorem own : ownKnob Ybaf.prog.godebug = none := by kernel_rfl
theorem laidOut : laidOutB Ybaf.prog = true := by kernel_rfl
theorem stops : Ybaf.pinned.checked.prog.stops = ["fmt.errorf, its operands' methods called", "fmt.Sprintf, its operands' methods called"] := by kernel_rfl
theorem stopKnobs : Ybaf.pinned.checked.prog.stopKnobs = [] := by kernel_rfl
theorem quiet (os : Os) : Stop.quiet Ybaf.pinned.checked.prog os := by
  intro k hk
  rw [stopKnobs] at hk
  cases hk
/-- The listed variable's name, off the given row. -/
def eName : String := Rows.lawS3126CRawSpec.vars.headD ""
theorem gE : Ybaf.prog.globalNamed eName = some 0 := by kernel_rfl
theorem tE : (Ybaf.prog.globals[0]?).map (·.type) = some 30 := by kernel_rfl
theorem gZ : Ybaf.prog.globalNamed "net/netip.z6noz" = some 3 := by kernel_rfl
theorem tZ : (Ybaf.prog.globals[3]?).map (·.type) = some 63 := by kernel_rfl
theorem star : "*" ++ "errors.errorString" = "*errors.errorString" := by decide
theorem row108 (u : TypeId) (h : Ybaf.prog.typeName? 3 u = some "*errors.errorString") : u = 108 :=
  typeName_ptr_named (nm := "errors.errorString") (by rw [star]; kernel_rfl) (by kernel_rfl) (by decide) u (by rw [star]; exact h)

/-- What the listed variables hold. -/
theorem of_laid {W : World} (h : laidMetH Ybaf.prog Rows.lawS3126CRawRow.laid W) : ∃ (zp : Option Addr) (a : Addr), W.cell? ⟨3, 0, none⟩ = some (.pointer zp) ∧ W.var? Ybaf.prog eName = some #[.iface 108 (.pointer (some a))] := by
  rw [MakeChecks.laidMetH_plain _ _ _ (by kernel_rfl)] at h
  have h' : laidMet Ybaf.prog [("net/netip.z4", Rows.laid_net_netip_z4), ("net/netip.z6noz", Rows.laid_net_netip_z6noz), (eName, Rows.laid_example_com_rebeat_rebeat_internal_capture_errFragmented)] W := h
  obtain ⟨a, s, hv, _, _, _⟩ := laid_sentinel (g := 0) h'.tail.tail gE tE Ybaf.underlying30 row108 Ybaf.underlying108 Ybaf.underlying110 rfl rfl Ybaf.underlying9 (by kernel_rfl) (by kernel_rfl)
  obtain ⟨ps, ⟨g0, t0, cs0, f0, p0, q0, hg0, ht0, hv0, hd0, _, _⟩, _, _⟩ := h'.tail
  obtain rfl := Option.some.inj (gZ.symm.trans hg0)
  obtain rfl := Option.some.inj (tZ.symm.trans ht0)
  obtain ⟨xs, k, hk, hxy, hcl, hxl, hf⟩ := DataW.trod_struct Ybaf.underlying63 hd0
  have hlen : cs0.toList.length = 1 := hcl.trans (by kernel_rfl)
  obtain ⟨v, hvv⟩ : ∃ v, cs0.toList = [v] := List.length_eq_one_iff.1 hlen
  have c61 : Ybaf.prog.cellsOf 61 = 1 := by kernel_rfl
  have hg := hf 0 _ rfl
  simp only [List.getElem_toArray, List.getElem_cons_zero] at hg
  rw [hvv, c61] at hg
  have hxl1 : xs.length = 1 := hxl
  obtain ⟨y, hy⟩ : ∃ y, xs[0]? = some y := Option.isSome_iff_exists.1 (by rw [List.getElem?_eq_getElem (by omega)]; rfl)
  rw [hy] at hg
  simp only [List.drop_zero, List.take_succ_cons, List.take_zero] at hg
  have hp : ∃ zp, v = .pointer zp := by
    rcases open_ptr_fields2 Ybaf.underlying61 Ybaf.underlying169 (by kernel_rfl) (by kernel_rfl) hg with ⟨e, _⟩ | ⟨b, o, n, v0, v1, y0, y1, e, _⟩
    · exact ⟨none, by injection e⟩
    · exact ⟨_, by injection e⟩
  obtain ⟨zp, rfl⟩ := hp
  refine ⟨zp, a, ?_, hv⟩
  have := World.var?_cell hg0 hv0 0
  rw [Array.eq_one_of_toList hvv] at this
  simpa using this

/-- WHAT THE WALK IS TOLD OF THE BYTES. -/
def IsBytes (w : World) (a : Option Addr) (n : Nat) (b off : Nat) (G : Nat → Nat) : Prop := (0 < n → a = some ⟨b, off, none⟩) ∧ ∀ k, k < n → w.cell? ⟨b, off + k, none⟩ = some (.int .u8 ((G k : Nat) : Int)) ∧ G k ≤ 255
theorem bytes_of {H : Type} {enc : TypeId × Value → H} {W : World} {a : Option Addr} {len cap : Nat} {d : DataW H} {p : List MemPlace} (h : DataW.Trod enc Ybaf.prog W 0 (fun _ => true) true 53 (.slice a len cap) d p) : ∃ b off G, IsBytes W a len b off G := by
  obtain ⟨fuel, hf⟩ := h
  rcases open_ints Ybaf.underlying53 Ybaf.underlying5 (by kernel_rfl) hf with ⟨hcs, _⟩ | ⟨x, l, c, zs, hcs, _, hl, hm, hz, _, hcell, hwz⟩
  · simp [Value.cells] at hcs
    exact ⟨0, 0, fun _ => 0, fun h => by omega, fun i hi => by omega⟩
  · simp [Value.cells] at hcs
    obtain ⟨rfl, rfl, rfl⟩ := hcs
    by_cases hz0 : len = 0
    · exact ⟨0, 0, fun _ => 0, fun h => by omega, fun i hi => by omega⟩
    have hz' : zs.length = cap := by simpa using hz
    obtain ⟨b, off, rfl, hc⟩ := ints_at hcell (by omega)
    refine ⟨b, off, fun i => (zs.getD i 0).toNat, fun _ => rfl, fun i hi => ⟨?_, ?_⟩⟩
    · have := bounds_u8 (hwz (zs.getD i 0) (by simp [List.getD, List.getElem?_eq_getElem (show i < zs.length by omega)]))
      rw [Int.toNat_of_nonneg this.1]
      exact hc i (by omega)
    · have := bounds_u8 (hwz (zs.getD i 0) (by simp [List.getD, List.getElem?_eq_getElem (show i < zs.length by omega)]))
      show (zs.getD i 0).toNat ≤ 255
      omega
theorem walk (F : Interp) (a0 : Option Addr) (b off n c : Nat) (v6 : Bool) (G : Nat → Nat) (zp : Option Addr) (ad : Value) (w : World) (hF : F.answers w.tape) (hG : IsBytes w a0 n b off G) (hg0 : w.cell? ⟨0, 0, none⟩ = some (.iface 108 ad)) (hg3 : w.cell? ⟨3, 0, none⟩ = some (.pointer zp)) :
    Calls Ybaf.prog 5 #[.slice a0 n c, .bool v6] w fun e w' => e = .returned (.bool true) ∧ Below w.heap.size w w' := by
  by_cases h : 4096 < n
  · exact raw_long a0 n c _ w h
  · exact raw_main F a0 b off n c v6 G zp ad w hF hG.1 (by omega) hG.2 hg0 hg3

theorem var?_below {P : Program} {B g : Nat} {W W' : World} {n : String} {cs : Array Value} (h : Below B W W') (hg : P.globalNamed n = some g) (hgB : g < B) (hv : W.var? P n = some cs) : W'.var? P n = some cs := by
  unfold World.var? at hv ⊢
  rw [hg] at hv ⊢
  simp only [Option.bind_some] at hv ⊢
  rw [h.block g hgB]
  exact hv

def theSpec : OpenSpec := OpenSpec.ofChange Rows.lawS3126CRawSpec
/-- A start for the witness: the listed variables hold what the row lists. -/
noncomputable def laidWorld (os : Os) : World :=
  let w0 := World.holding Ybaf.prog os ⟨#[.cells #[.bool false, .string ByteArray.empty] 169, .cells #[.bool true, .string ByteArray.empty] 169, .cells #[.string ⟨#[102, 114, 97, 103, 109, 101, 110, 116, 101, 100, 32, 84, 67, 80, 32, 115, 101, 103, 109, 101, 110, 116, 58, 32, 105, 116, 115, 32, 108, 101, 110, 103, 116, 104, 32, 105, 115, 32, 110, 111, 116, 32, 107, 110, 111, 119, 110]⟩] 110], #[], []⟩
  { w0 with heap := ((w0.heap.modify 0 fun
      | .cells _ t frozen => .cells #[.iface 108 (.pointer (some ⟨15, 0, none⟩))] t frozen
      | o => o).modify 2 fun
      | .cells _ t frozen => .cells #[.pointer (some ⟨13, 0, none⟩)] t frozen
      | o => o).modify 3 fun
      | .cells _ t frozen => .cells #[.pointer (some ⟨14, 0, none⟩)] t frozen
      | o => o }
theorem door_met (os : Os) (args : Array Value) : laidMetH Ybaf.prog Rows.lawS3126CRawRow.laid ((laidWorld os).forCall (fun _ _ => 0) ⟨#[], args, []⟩).memory :=
  laidMetH_of_parts3 (fuel := 8) (laidMet_of_run' 8 (by kernel_rfl) (by kernel_rfl)) (by kernel_rfl) (by kernel_rfl)
theorem witness_row (os : Os) {H : Type} (enc : TypeId × Value → H) :
    theSpec.preRow enc Ybaf.prog Ybaf.f5 Rows.lawS3126CRawRow.domain false Rows.lawS3126CRawRow.laid ((laidWorld os).forCall (fun _ _ => 0) ⟨#[], #[.slice none 0 0, .bool false], []⟩).memory #[.slice none 0 0, .bool false] :=
  OpenSpec.preRow_of_B rfl 8 (by kernel_rfl) (by kernel_rfl) (door_met os _)

set_option maxRecDepth 100000 in
theorem lifted (os : Os) (started : os.Started) (H : Type) (enc : TypeId × Value → H) :
    ReturnsInTold none {} Ybaf.checked os 5 .any Input.okWide (theSpec.preRow enc Ybaf.prog Ybaf.f5 Rows.lawS3126CRawRow.domain false Rows.lawS3126CRawRow.laid) (fun F => (theSpec.at F).post enc Ybaf.prog Ybaf.f5 false true false false) (aloneAtReturn Ybaf.prog) nothingAlways := by
  refine returnsInTold_of_row (C := Ybaf.checked) (s := theSpec) (by kernel_rfl) own started (by kernel_rfl) Ybaf.func5
    (OpenSpec.witness_stopped_atRef (enc := enc) (C := Ybaf.checked) false (laidWorld os) #[.slice none 0 0, .bool false] rfl (by kernel_rfl) (by kernel_rfl) (by kernel_rfl) (witness_row os enc)) ?_
  intro F W base args ds gs before _ hF hval0 hW _ _ _ hL _
  have hval : ∀ (j : Nat) t v, Ybaf.f5.params[j]? = some t → args[j]? = some v → Value.okWide Ybaf.prog W .any base t v := hval0
  have hW' := hW
  obtain ⟨p, q, hA0, hV0, rfl, hfz, hnd⟩ := hW
  have hA : DataW.TrodAll enc Ybaf.prog W 0 (fun _ => true) true Ybaf.f5.params.toList args.toList ds p := hA0
  have hV : DataW.TrodVars enc Ybaf.prog W (fun _ => true) [eName] gs q := hV0
  rw [Ybaf.params5] at hA hval
  obtain ⟨v0, vs0, d0, ds0, p0, q0, hargs, rfl, rfl, h0, r0⟩ := trodAll_cons hA
  obtain ⟨v1, vs1, d1, ds1, p1, q1, rfl, rfl, rfl, h1, r1⟩ := trodAll_cons r0
  obtain ⟨rfl, rfl, rfl⟩ := trodAll_nil r1
  obtain rfl : args = #[v0, v1] := by cases args; simp_all
  obtain ⟨g, t, cs, fuel, dg, pg, rfl, hg, htg, hv, hd, rfl⟩ := trodVars_one hV
  obtain rfl := Option.some.inj (gE.symm.trans hg)
  obtain rfl := Option.some.inj (tE.symm.trans htg)
  obtain ⟨zp, ae, hz, hve⟩ := of_laid hL
  obtain rfl := Option.some.inj (hv.symm.trans hve)
  have hg0 : W.cell? ⟨0, 0, none⟩ = some (.iface 108 (.pointer (some ae))) := by
    have := World.var?_cell hg hv 0
    simpa using this
  obtain ⟨a0, len0, cap0, rfl⟩ := okWide_slice Ybaf.underlying53 (hval 0 53 v0 rfl rfl)
  have k0 := h0
  have k1 := h1
  have lt0 : ∀ x ∈ p0, x.block < W.heap.size := by obtain ⟨m, hm⟩ := k0; exact DataW.trod_lt m _ _ _ hm
  have lt1 : ∀ x ∈ p1, x.block < W.heap.size := by obtain ⟨m, hm⟩ := k1; exact DataW.trod_lt m _ _ _ hm
  have ltg : ∀ x ∈ pg, x.block < W.heap.size := DataW.trod_lt fuel _ _ _ hd
  obtain ⟨v6, rfl, _, _⟩ := open_bool Ybaf.underlying4 (hval 1 4 v1 rfl rfl) h1
  obtain ⟨b, off, G, hG⟩ := bytes_of h0
  clear hA0 hval0
  refine (walk F.told a0 b off len0 cap0 v6 G zp _ W hF hG hg0 hz).mono fun e W' ⟨he, bel⟩ => ?_
  subst he
  have h0W : 0 < W.heap.size := World.block_lt_of_cell? W _ hg0
  obtain ⟨fuel', hd'⟩ := Below.trod (v := .iface 108 (.pointer (some ae))) laidOut (by kernel_rfl) (of_decide_eq_true (by kernel_rfl)) ⟨fuel, hd⟩ bel ltg
  have hvars : DataW.TrodVars enc Ybaf.prog W' (fun b => decide (b < W.heap.size)) [eName] [dg] (MemPlace.row ⟨0, 0, none⟩ 1 ++ pg) :=
    trodVars_mk1 gE tE (var?_below bel gE h0W hv) hd'
  exact ⟨_, rfl, _, _, _, [], _, _, hW', trodAll_mk1 (shut_bool Ybaf.underlying4 _), (trodAll_cons_mk (Below.trod laidOut (by kernel_rfl) (of_decide_eq_true (by kernel_rfl)) k0 bel lt0) (trodAll_cons_mk (Below.trod laidOut (by kernel_rfl) (of_decide_eq_true (by kernel_rfl)) k1 bel lt1) trodAll_mk0)), hvars, bel.frame _, fun h => by cases h⟩

/-- THE STATEMENT: the told and tied card. -/
theorem proved : Rows.LawS3126CRawToldSaid :=
  Claim7.holds_of_told_tied_any_at .later 5 Ybaf.f5 "fmt.errorf, its operands' methods called" ["fmt.Sprintf, its operands' methods called"] [] _ _ _ _ _ (by kernel_rfl) rfl rfl rfl laidOut (by kernel_rfl) rfl ⟨rfl, rfl, rfl, rfl, rfl, rfl, rfl⟩ rfl rfl (by kernel_rfl) (by kernel_rfl) Ybaf.func5 (by kernel_rfl)
    (of_decide_eq_true (by kernel_rfl)) (of_decide_eq_true (by kernel_rfl)) stops.symm rfl stopKnobs.symm (by kernel_rfl)
    (by kernel_rfl) (by kernel_rfl) (by kernel_rfl) (by kernel_rfl) (by kernel_rfl) (by kernel_rfl) (by kernel_rfl) (by kernel_rfl) (by kernel_rfl) rfl (by kernel_rfl) rfl rfl
    rfl rfl
    rfl (by kernel_rfl) (by kernel_rfl) (by kernel_rfl) (by decide) (by kernel_rfl) lawS3126CRaw_row_tie
    (OpenClaim.moreEntering_of (by kernel_rfl) (by kernel_rfl) (by kernel_rfl) (by kernel_rfl) (by kernel_rfl) (by kernel_rfl) (by kernel_rfl) (by kernel_rfl) (by kernel_rfl) (by kernel_rfl))
    ⟨_, WideRow.started_initial, quiet _⟩
    (fun os started _ H enc _ => lifted os started H enc)
end Go.Proofs.YbulkblsgFmt.lawS3126CRaw

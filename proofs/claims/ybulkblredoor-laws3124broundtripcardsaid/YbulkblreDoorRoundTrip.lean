import Derived.Test.YbulkblreDoorLaw
import Derived.Test.YbulkblreDoorCards
import Derived.Test.YbulkblreDoorTie
import Derived.ProofKit
import Derived.LaidMore
import Derived.OpenShut
import Derived.ShutString
import Derived.ChangeOld
import Derived.Stop.Joined
import Derived.Deep.Strs
import Derived.SevenTiedAt
namespace Go.Proofs.YbulkblreDoor.lawS3124BRoundTrip
open Go.ChangeShapes Go.WideShapes Go.ChangeAt Go.WideMaps Go.WideElems Go.RowKit Go.Deep
set_option linter.unusedVariables false

theorem own : ownKnob Ybad.prog.godebug = none := by kernel_rfl
theorem laidOut : laidOutB Ybad.prog = true := by kernel_rfl
/-- The variable's name, off the given row. -/
def kName : String := Rows.lawS3124BRoundTripSpec.vars.headD ""
theorem gK : Ybad.prog.globalNamed kName = some 0 := by kernel_rfl
theorem tK : (Ybad.prog.globals[0]?).map (·.type) = some 22 := by kernel_rfl
theorem cells9 : Ybad.prog.cellsOf 9 = 1 := by kernel_rfl

set_option maxHeartbeats 400000 in
theorem long0 (a0 a2 a3 : Option Addr) (n0 c0 n2 c2 n3 c3 : Nat) (v1 v4 v5 : Value) (w : World) (h : 1024 < n0) :
    Calls Ybad.prog 4 #[.slice a0 n0 c0, v1, .slice a2 n2 c2, .slice a3 n3 c3, v4, v5] w fun e w' => e = .returned (.bool true) ∧ Below w.heap.size w w' := by
  have d0 : decide ((1024 : Int) < (n0 : Int)) = true := by simp; omega
  go_enter Ybad.func4, Ybad.ntmps4
  go_wp2
  go_ret
  exact ⟨rfl, Below.refl _ _⟩

set_option maxHeartbeats 400000 in
theorem long2 (a0 a2 a3 : Option Addr) (n0 c0 n2 c2 n3 c3 : Nat) (v1 v4 v5 : Value) (w : World) (h0 : n0 ≤ 1024) (h : 1024 < n2) :
    Calls Ybad.prog 4 #[.slice a0 n0 c0, v1, .slice a2 n2 c2, .slice a3 n3 c3, v4, v5] w fun e w' => e = .returned (.bool true) ∧ Below w.heap.size w w' := by
  have d0 : decide ((1024 : Int) < (n0 : Int)) = false := by simp; omega
  have d2 : decide ((1024 : Int) < (n2 : Int)) = true := by simp; omega
  go_enter Ybad.func4, Ybad.ntmps4
  go_wp2
  go_ret
  exact ⟨rfl, Below.refl _ _⟩

set_option maxHeartbeats 400000 in
theorem long3 (a0 a2 a3 : Option Addr) (n0 c0 n2 c2 n3 c3 : Nat) (v1 v4 v5 : Value) (w : World) (h0 : n0 ≤ 1024) (h2 : n2 ≤ 1024) (h : 1024 < n3) :
    Calls Ybad.prog 4 #[.slice a0 n0 c0, v1, .slice a2 n2 c2, .slice a3 n3 c3, v4, v5] w fun e w' => e = .returned (.bool true) ∧ Below w.heap.size w w' := by
  have d0 : decide ((1024 : Int) < (n0 : Int)) = false := by simp; omega
  have d2 : decide ((1024 : Int) < (n2 : Int)) = false := by simp; omega
  have d3 : decide ((1024 : Int) < (n3 : Int)) = true := by simp; omega
  go_enter Ybad.func4, Ybad.ntmps4
  go_wp2
  go_ret
  exact ⟨rfl, Below.refl _ _⟩

/-- WHAT THE WALK IS TOLD OF A SLICE OF UNSIGNED INTEGERS. -/
def IsNats (k : IntKind) (top : Nat) (w : World) (a : Option Addr) (len : Nat) (z : Nat → Nat) : Prop :=
  ∀ i, i < len → ∃ b off, a = some ⟨b, off, none⟩ ∧ b < w.heap.size ∧ w.cell? ⟨b, off + i, none⟩ = some (.int k (z i)) ∧ z i ≤ top

theorem walk (a0 a2 a3 : Option Addr) (n0 c0 n2 c2 n3 c3 : Nat) (z kd s : Nat → Nat) (lt rv : Nat) (on : Bool) (kb ko kc : Nat) (w : World) (hK : IsKinds kb ko kc w)
    (hlt : lt ≤ 255) (hrv : rv ≤ 4294967295) (h0 : IsNats .u32 4294967295 w a0 n0 z) (h2 : IsNats .u8 255 w a2 n2 kd) (h3 : IsNats .u32 4294967295 w a3 n3 s) :
    Calls Ybad.prog 4 #[.slice a0 n0 c0, .int .u8 lt, .slice a2 n2 c2, .slice a3 n3 c3, .int .u32 rv, .bool on] w fun e w' => e = .returned (.bool true) ∧ Below w.heap.size w w' := by
  by_cases l0 : 1024 < n0
  · exact long0 a0 a2 a3 n0 c0 n2 c2 n3 c3 _ _ _ w l0
  by_cases l2 : 1024 < n2
  · exact long2 a0 a2 a3 n0 c0 n2 c2 n3 c3 _ _ _ w (by omega) l2
  by_cases l3 : 1024 < n3
  · exact long3 a0 a2 a3 n0 c0 n2 c2 n3 c3 _ _ _ w (by omega) (by omega) l3
  exact law_main a0 a2 a3 n0 c0 n2 c2 n3 c3 z kd s lt rv on kb ko kc w hK (by omega) (by omega) (by omega) hlt hrv h0 h2 h3

theorem bs_of {s : ByteArray} {l : List UInt8} (h : s.data.toList = l) : s = bs l := by
  cases s with
  | mk d => simp at h; subst h; simp [bs]

theorem of_laid {W : World} (h : laidMetH Ybad.prog Rows.lawS3124BRoundTripRow.laid W) : ∃ kb ko kc, IsKinds kb ko kc W := by
  rw [MakeChecks.laidMetH_plain _ _ _ (by kernel_rfl)] at h
  obtain ⟨ps, ⟨g0, t0, cs0, f0, p0, q0, hg0, ht0, hv0, hd0, _, _⟩, _, _⟩ := h
  obtain rfl := Option.some.inj (gK.symm.trans hg0)
  obtain rfl := Option.some.inj (tK.symm.trans ht0)
  rcases open_strs Ybad.underlying22 Ybad.underlying9 cells9 hd0 with ⟨_, hx⟩ | ⟨a, len, cap, m, Sx, hcs, _, hl, hm, hmm, hx, hcell⟩
  · simp [Rows.laid_example_com_slotwise_slotwise_pms_suffixKinds] at hx
  · have hlm : len ≤ m := by rw [hmm]; split <;> omega
    simp only [Prod.mk.injEq, Rows.laid_example_com_slotwise_slotwise_pms_suffixKinds, DataW.slice.injEq] at hx
    obtain ⟨⟨hx1, hx2⟩, _⟩ := hx
    have hlen : len = 5 := by have := congrArg List.length hx1; simpa using this.symm
    subst hlen
    simp [List.range_succ] at hx1
    obtain ⟨e0, e1, e2, e3, e4⟩ := hx1
    have hhead : W.cell? ⟨0, 0, none⟩ = some (.slice (some a) 5 cap) := by
      have := World.var?_cell hg0 hv0 0
      rw [Array.eq_one_of_toList hcs] at this
      simpa using this
    obtain ⟨b, off, st⟩ := a
    have hst : st = none := by
      have := (hcell 0 (by omega)).1
      simpa [Addr.add] using World.cell?_spot this
    subst hst
    refine ⟨b, off, cap, hhead, fun i hi => ?_⟩
    have hc := (hcell i (by omega)).1
    rw [Addr.add_mid] at hc
    rw [hc]
    match i, hi with
    | 0, _ => rw [bs_of e0.symm]; rfl
    | 1, _ => rw [bs_of e1.symm]; rfl
    | 2, _ => rw [bs_of e2.symm]; rfl
    | 3, _ => rw [bs_of e3.symm]; rfl
    | 4, _ => rw [bs_of e4.symm]; rfl


theorem nats_of {H : Type} {enc : TypeId × Value → H} {W : World} {t e : TypeId} {k : IntKind} {top : Nat} {a : Option Addr} {len cap : Nat} {d : DataW H} {p : List MemPlace}
    (ht : Ybad.prog.underlying t = some (.slice e)) (he : Ybad.prog.underlying e = some (.int k)) (hc : Ybad.prog.cellsOf e = 1) (hk : ∀ n : Int, (Lit.int k n).wf = true → 0 ≤ n ∧ n ≤ top)
    (h : DataW.Trod enc Ybad.prog W 0 (fun _ => true) true t (.slice a len cap) d p) : ∃ z, IsNats k top W a len z := by
  obtain ⟨fuel, hf⟩ := h
  rcases open_ints ht he hc hf with ⟨hcs, _⟩ | ⟨x, l, c, zs, hcs, _, hl, hm, hz, _, hcell, hwz⟩
  · simp [Value.cells] at hcs
    exact ⟨fun _ => 0, fun i hi => by omega⟩
  · simp [Value.cells] at hcs
    obtain ⟨rfl, rfl, rfl⟩ := hcs
    by_cases hz0 : len = 0
    · exact ⟨fun _ => 0, fun i hi => by omega⟩
    have hz' : zs.length = cap := by simpa using hz
    obtain ⟨b, off, rfl, hc⟩ := ints_at hcell (by omega)
    refine ⟨fun i => (zs.getD i 0).toNat, fun i hi => ⟨b, off, rfl, World.block_lt_of_cell? W _ (hc i (by omega)), ?_, ?_⟩⟩
    · have := hk _ (hwz (zs.getD i 0) (by simp [List.getD, List.getElem?_eq_getElem (show i < zs.length by omega)]))
      rw [Int.toNat_of_nonneg this.1]
      exact hc i (by omega)
    · have := hk _ (hwz (zs.getD i 0) (by simp [List.getD, List.getElem?_eq_getElem (show i < zs.length by omega)]))
      show (zs.getD i 0).toNat ≤ top
      omega

/-- The door's own heap meets the condition. -/
theorem door_met (os : Os) (args : Array Value) : laidMetH Ybad.prog Rows.lawS3124BRoundTripRow.laid ((World.doorLaid Ybad.prog 400 os).forCall (fun _ _ => 0) ⟨#[], args, []⟩).memory :=
  laidMetH_of_parts3 (fuel := 8) (laidMet_of_run' 8 (by kernel_rfl) (by kernel_rfl)) (by kernel_rfl) (by kernel_rfl)

set_option maxRecDepth 100000 in
theorem lifted (os : Os) (started : os.Started) (H : Type) (enc : TypeId × Value → H) :
    ReturnsInHanded {} Ybad.checked os 4 .any (fun w args => (Rows.lawS3124BRoundTripSpec.pre enc Ybad.prog Ybad.f4 [] false w args ∧ laidMetH Ybad.prog Rows.lawS3124BRoundTripRow.laid w) ∧ sizedMet enc Ybad.prog Ybad.f4 (OpenSpec.ofChange Rows.lawS3124BRoundTripSpec) false w args)
      (Rows.lawS3124BRoundTripSpec.post enc Ybad.prog Ybad.f4 false true false false) := by
  refine returnsInHanded_of_change_and (C := Ybad.checked) (X := fun w _ => laidMetH Ybad.prog Rows.lawS3124BRoundTripRow.laid w) (fun _ _ _ hh h => h.of_heap hh) own started (by kernel_rfl) Ybad.func4
    (ChangeSpec.witness_shaped (enc := enc) (C := Ybad.checked) (os := os) (X := fun w _ => laidMetH Ybad.prog Rows.lawS3124BRoundTripRow.laid w) false (World.doorLaid Ybad.prog 400 os) #[.slice none 0 0, .int .u8 0, .slice none 0 0, .slice none 0 0, .int .u32 0, .bool false] 8 rfl (World.shaped_of_RefB (by kernel_rfl) (by kernel_rfl)) (by kernel_rfl) (by kernel_rfl) (by kernel_rfl) (door_met os _)) ?_
  intro W base args ds gs before hval0 hW _ _ hL _
  have hval : ∀ (j : Nat) t v, Ybad.f4.params[j]? = some t → args[j]? = some v → Value.okWide Ybad.prog W .any base t v := hval0
  have hW' := hW
  obtain ⟨p, q, hA0, hV0, rfl, hfz, hnd⟩ := hW
  have hA : DataW.TrodAll enc Ybad.prog W 0 (fun _ => true) true Ybad.f4.params.toList args.toList ds p := hA0
  have hV : DataW.TrodVars enc Ybad.prog W (fun _ => true) [kName] gs q := hV0
  rw [Ybad.params4] at hA hval
  obtain ⟨v0, vs0, d0, ds0, p0, q0, hargs, rfl, rfl, h0, r0⟩ := trodAll_cons hA
  obtain ⟨v1, vs1, d1, ds1, p1, q1, rfl, rfl, rfl, h1, r1⟩ := trodAll_cons r0
  obtain ⟨v2, vs2, d2, ds2, p2, q2, rfl, rfl, rfl, h2, r2⟩ := trodAll_cons r1
  obtain ⟨v3, vs3, d3, ds3, p3, q3, rfl, rfl, rfl, h3, r3⟩ := trodAll_cons r2
  obtain ⟨v4, vs4, d4, ds4, p4, q4, rfl, rfl, rfl, h4, r4⟩ := trodAll_cons r3
  obtain ⟨v5, vs5, d5, ds5, p5, q5, rfl, rfl, rfl, h5, r5⟩ := trodAll_cons r4
  obtain ⟨rfl, rfl, rfl⟩ := trodAll_nil r5
  obtain rfl : args = #[v0, v1, v2, v3, v4, v5] := by cases args; simp_all
  obtain ⟨g, t, cs, fuel, dg, pg, rfl, hg, htg, hv, hd, rfl⟩ := trodVars_one hV
  obtain rfl := Option.some.inj (gK.symm.trans hg)
  obtain rfl := Option.some.inj (tK.symm.trans htg)
  obtain ⟨kb, ko, kc, hK⟩ := of_laid hL
  obtain ⟨a0, len0, cap0, rfl⟩ := okWide_slice Ybad.underlying33 (hval 0 33 v0 rfl rfl)
  obtain ⟨a2, len2, cap2, rfl⟩ := okWide_slice Ybad.underlying23 (hval 2 23 v2 rfl rfl)
  obtain ⟨a3, len3, cap3, rfl⟩ := okWide_slice Ybad.underlying33 (hval 3 33 v3 rfl rfl)
  have k0 := h0
  have k1 := h1
  have k2 := h2
  have k3 := h3
  have k4 := h4
  have k5 := h5
  have lt0 : ∀ x ∈ p0, x.block < W.heap.size := by obtain ⟨m, hm⟩ := k0; exact DataW.trod_lt m _ _ _ hm
  have lt1 : ∀ x ∈ p1, x.block < W.heap.size := by obtain ⟨m, hm⟩ := k1; exact DataW.trod_lt m _ _ _ hm
  have lt2 : ∀ x ∈ p2, x.block < W.heap.size := by obtain ⟨m, hm⟩ := k2; exact DataW.trod_lt m _ _ _ hm
  have lt3 : ∀ x ∈ p3, x.block < W.heap.size := by obtain ⟨m, hm⟩ := k3; exact DataW.trod_lt m _ _ _ hm
  have lt4 : ∀ x ∈ p4, x.block < W.heap.size := by obtain ⟨m, hm⟩ := k4; exact DataW.trod_lt m _ _ _ hm
  have lt5 : ∀ x ∈ p5, x.block < W.heap.size := by obtain ⟨m, hm⟩ := k5; exact DataW.trod_lt m _ _ _ hm
  have ltg : ∀ x ∈ pg, x.block < W.heap.size := DataW.trod_lt fuel _ _ _ hd
  obtain ⟨x1, rfl, _, _, wx1⟩ := open_int Ybad.underlying5 (hval 1 5 v1 rfl rfl) h1
  obtain ⟨x4, rfl, _, _, wx4⟩ := open_int Ybad.underlying34 (hval 4 34 v4 rfl rfl) h4
  obtain ⟨on, rfl, _, _⟩ := open_bool Ybad.underlying4 (hval 5 4 v5 rfl rfl) h5
  obtain ⟨z, w0⟩ := nats_of (top := 4294967295) Ybad.underlying33 Ybad.underlying34 (by kernel_rfl) (fun n h => bounds_u32 h) h0
  obtain ⟨kd, w2⟩ := nats_of (top := 255) Ybad.underlying23 Ybad.underlying5 (by kernel_rfl) (fun n h => bounds_u8 h) h2
  obtain ⟨s, w3⟩ := nats_of (top := 4294967295) Ybad.underlying33 Ybad.underlying34 (by kernel_rfl) (fun n h => bounds_u32 h) h3
  have b1 := bounds_u8 wx1
  have b4 := bounds_u32 wx4
  obtain ⟨lt, rfl⟩ : ∃ lt : Nat, x1 = (lt : Int) := ⟨x1.toNat, by omega⟩
  obtain ⟨rv, rfl⟩ : ∃ rv : Nat, x4 = (rv : Int) := ⟨x4.toNat, by omega⟩
  clear hA0 hval0
  refine (walk a0 a2 a3 len0 cap0 len2 cap2 len3 cap3 z kd s lt rv on kb ko kc W hK (by omega) (by omega) w0 w2 w3).mono fun e W' ⟨he, bel⟩ => ?_
  subst he
  have h0W : 0 < W.heap.size := World.block_lt_of_cell? W _ hK.head
  obtain ⟨sv, hcs⟩ : ∃ sl, cs.toList = (Value.cells sl).toList := by
    rcases open_strs Ybad.underlying22 Ybad.underlying9 cells9 hd with ⟨hcs, _⟩ | ⟨a, len, cap, m, Sx, hcs, _⟩
    · exact ⟨.slice none 0 0, hcs⟩
    · exact ⟨.slice (some a) len cap, hcs⟩
  rw [hcs] at hd
  obtain ⟨fuel', hd'⟩ := Below.trod laidOut (by kernel_rfl) (of_decide_eq_true (by kernel_rfl)) ⟨fuel, hd⟩ bel ltg
  rw [← hcs] at hd'
  have hvars : DataW.TrodVars enc Ybad.prog W' (fun b => decide (b < W.heap.size)) [kName] [dg] (MemPlace.row ⟨0, 0, none⟩ cs.size ++ pg) :=
    trodVars_mk1 gK tK (var?_below bel gK h0W hv) hd'
  exact ⟨_, rfl, _, _, _, [], _, _, hW', trodAll_mk1 (shut_bool Ybad.underlying4 _), (trodAll_cons_mk (Below.trod laidOut (by kernel_rfl) (of_decide_eq_true (by kernel_rfl)) k0 bel lt0) (trodAll_cons_mk (Below.trod laidOut (by kernel_rfl) (of_decide_eq_true (by kernel_rfl)) k1 bel lt1) (trodAll_cons_mk (Below.trod laidOut (by kernel_rfl) (of_decide_eq_true (by kernel_rfl)) k2 bel lt2) (trodAll_cons_mk (Below.trod laidOut (by kernel_rfl) (of_decide_eq_true (by kernel_rfl)) k3 bel lt3) (trodAll_cons_mk (Below.trod laidOut (by kernel_rfl) (of_decide_eq_true (by kernel_rfl)) k4 bel lt4) (trodAll_cons_mk (Below.trod laidOut (by kernel_rfl) (of_decide_eq_true (by kernel_rfl)) k5 bel lt5) trodAll_mk0)))))), hvars, bel.frame _, fun h => by cases h⟩

theorem row_holds : Rows.LawS3124BRoundTripSaid :=
  OpenClaim.holds_of_wide 4 Ybad.f4 rfl rfl rfl rfl rfl rfl rfl ⟨rfl, rfl, rfl, rfl, rfl⟩ rfl rfl rfl rfl rfl (by kernel_rfl) Ybad.func4 (by kernel_rfl)
    (of_decide_eq_true (by kernel_rfl)) (by unfold Func.isWrapper; first | (rw [if_pos (by decide +kernel)]; kernel_rfl) | (rw [if_neg (by decide +kernel)]; exact ⟨rfl, rfl⟩))
    (fun os started H enc _ => lifted os started H enc)

theorem params_of (j : Nat) (t : TypeId) (h : (#[33, 5, 23, 33, 34, 4] : Array TypeId)[j]? = some t) : t = 33 ∨ t = 5 ∨ t = 23 ∨ t = 34 ∨ t = 4 := by
  match j, h with
  | 0, h => simp at h; subst h; simp
  | 1, h => simp at h; subst h; simp
  | 2, h => simp at h; subst h; simp
  | 3, h => simp at h; subst h; simp
  | 4, h => simp at h; subst h; simp
  | 5, h => simp at h; subst h; simp
  | n + 6, h => simp at h

/-- THE STATEMENT: the tied card. -/
theorem proved : Rows.LawS3124BRoundTripCardSaid :=
  Claim7.holds_tied_plain_at .later [] [.data] true (true, "bb1773d2bcd8dea67e401405ada0dfd0a4bdeb4c433df11ce3fee5d939136f64") false
    row_holds (fun _ h => by cases h) (by kernel_rfl) (fun _ h => by cases h) lawS3124BRoundTrip_row_tie rfl ⟨rfl, rfl⟩ (by kernel_rfl) rfl
    (fun f fn hf hfn => by
      obtain rfl : f = 4 := Option.some.inj ((show Ybad.prog.funcNamed Rows.lawS3124BRoundTripRow.func = some 4 by kernel_rfl).symm.trans hf) |>.symm
      obtain rfl : fn = Ybad.f4 := (Option.some.inj (Ybad.func4.symm.trans hfn)).symm
      exact ⟨by kernel_rfl, fun j t ht => by
        rw [Ybad.params4] at ht
        rcases params_of j t ht with rfl | rfl | rfl | rfl | rfl
        · exact (show Ybad.prog.wantsStandIn 33 = false by kernel_rfl)
        · exact (show Ybad.prog.wantsStandIn 5 = false by kernel_rfl)
        · exact (show Ybad.prog.wantsStandIn 23 = false by kernel_rfl)
        · exact (show Ybad.prog.wantsStandIn 34 = false by kernel_rfl)
        · exact (show Ybad.prog.wantsStandIn 4 = false by kernel_rfl)⟩)
    (by kernel_rfl)

end Go.Proofs.YbulkblreDoor.lawS3124BRoundTrip

/-
  THE PROOF OF 'Rows.LawS3126AFirstExactSaid': the frame by the kit's program (proof-skeleton.mjs), the walk by hand (YbulkblsgCalls, YbulkblsgFirst).
-/
import Derived.Test.YbulkblsgFirst
import Derived.WalkKit
import Derived.ProofKit
import Derived.OpenShut
import Derived.ShutString
import Derived.ChangeOld
import Derived.Below
namespace Go.Proofs.Ybulkblsg.lawS3126AFirstExact
open Go.ChangeShapes Go.WideShapes Go.ChangeAt Go.RowKit
open Go.ChangeMaps (open_string shut_string)
set_option linter.unusedVariables false

theorem own : ownKnob Yba.prog.godebug = none := by kernel_rfl
theorem laidOut : laidOutB Yba.prog = true := by kernel_rfl

/-- WHAT THE WALK IS TOLD OF A SLICE OF INTEGERS THAT CAME IN: it is nil; or it leads to a row of 'cap' cells, the numbers 'zs' (the first 'len' are its elements, the rest its spare room), each fitting its kind. -/
def IsRow (k : IntKind) (w : World) (a : Option Addr) (len cap : Nat) (zs : List Int) : Prop :=
  (a = none ∧ len = 0 ∧ cap = 0 ∧ zs = []) ∨
  ∃ x, a = some x ∧ len ≤ cap ∧ cap ≤ maxLen ∧ zs.length = cap ∧ (∀ i, i < zs.length → w.cell? (x.add i) = some (.int k (zs.getD i 0))) ∧ ∀ n ∈ zs, (Lit.int k n).wf = true

/-! ### STEP 1: THE WALK: the Go text returns true, AND WRITES NOTHING THAT WAS THERE: 'Below w.heap.size w w'' (Derived/Below.lean: '.refl', '.alloc', '.drew', '.setCell' at a new block, '.trans'). Open each 'IsRow' by 'rcases' AHEAD of 'go_enter'; part every test ahead of the walk. -/

set_option maxHeartbeats 400000 in
theorem walk_long (a0 : Option Addr) (len0 cap0 : Nat) (w : World) (h : 1024 < len0) :
    Calls Yba.prog 3 #[.slice a0 len0 cap0] w fun e w' => e = .returned (.bool true) ∧ Below w.heap.size w w' := by
  have h' : decide ((1024 : Int) < (len0 : Int)) = true := by simp; omega
  go_enter Yba.func3, Yba.ntmps3
  go_wp2
  go_ret
  exact ⟨rfl, Below.refl _ _⟩

set_option maxHeartbeats 400000 in
theorem walk_zero (a0 : Option Addr) (cap0 : Nat) (w : World) :
    Calls Yba.prog 3 #[.slice a0 0 cap0] w fun e w' => e = .returned (.bool true) ∧ Below w.heap.size w w' := by
  go_enter Yba.func3, Yba.ntmps3
  go_wp2_with fail
  go_loopw [4] (fun i wr => i = .int .i64 0 ∧ wr.cell? ⟨w.heap.size, 0, none⟩ = some (.slice none 0 0) ∧ Below w.heap.size w wr ∧ w.heap.size < wr.heap.size) (fun _ _ => 0)
  case atStart => exact ⟨rfl, by simp, (Below.refl _ _).alloc (Nat.le_refl _) _, by simp⟩
  case round =>
    obtain ⟨rfl, q0, hbel, hN⟩ := hrel
    obtain ⟨wo, hwo⟩ : ∃ wo : World, wo = wr := ⟨_, rfl⟩
    subst hwo
    go_wp2_with fail
    refine (first_nil w.heap.size none 0 0 _ (by rw [World.cell?_alloc_lt _ _ _ (by exact hN)]; exact q0) rfl).mono ?_
    rintro e w3 ⟨rfl, hb3⟩
    obtain ⟨p0, p1, r0, r1, hlt3, hb4⟩ := two_behind hb3
    have qN : w3.cell? ⟨w.heap.size, 0, none⟩ = some (.slice none 0 0) := by rw [hb4.cell (by exact hN)]; exact q0
    have hN3 : w.heap.size < w3.heap.size := by omega
    clear hb3
    go_wp2_with fail
    go_loopw [10] (fun i wl => i = .int .i64 0 ∧ Below w3.heap.size w3 wl) (fun _ _ => 0)
    case atStart => exact ⟨rfl, (Below.refl _ _).alloc (Nat.le_refl _) _⟩
    case round =>
      obtain ⟨rfl, hbl⟩ := hrel
      go_wp2
      go_ret
      exact ⟨rfl, hbel.trans ((hb4.trans (hbl.mono (by omega))).mono (by omega))⟩

theorem walk (a0 : Option Addr) (len0 cap0 : Nat) (z0 : List Int) (w : World) (w0 : IsRow .u8 w a0 len0 cap0 z0) :
    Calls Yba.prog 3 #[.slice a0 len0 cap0] w fun e w' => e = .returned (.bool true) ∧ Below w.heap.size w w' := by
  by_cases hl : 1024 < len0
  · exact walk_long a0 len0 cap0 w hl
  by_cases h0 : len0 = 0
  · subst h0; exact walk_zero a0 cap0 w
  rcases w0 with ⟨_, h, _⟩ | ⟨⟨b, off, st⟩, rfl, hlc, _, hz, hcell, hwf⟩
  · omega
  · have hwz : ∀ i, i < z0.length → 0 ≤ z0.getD i 0 ∧ z0.getD i 0 ≤ 255 := fun i hi => by
      have := bounds_u8 (hwf (z0.getD i 0) (by simp [List.getD, List.getElem?_eq_getElem hi]))
      omega
    have h1 := hcell 0 (by omega)
    have hst : st = none := by
      cases st with
      | none => rfl
      | some q =>
        simp [World.cell?, Addr.add] at h1
        split at h1 <;> cases h1
    subst hst
    have hb : b < w.heap.size := World.block_lt_of_cell? w _ (by simpa [Addr.add] using h1)
    refine first_walk b off len0 cap0 (fun i => (z0.getD i 0).toNat) w (by omega) (fun i => ?_) (by omega) (fun i hi => ?_) hb
    · by_cases hi : i < z0.length
      · have := hwz i hi; omega
      · simp [List.getD, List.getElem?_eq_none (Nat.le_of_not_lt hi)]
    · have := hwz i (by omega)
      have hc := hcell i (by omega)
      rw [Int.toNat_of_nonneg this.1]
      simpa [Addr.add_mid] using hc

/-! ### THE ROW's STEP: WRITTEN OUT: by program -/
set_option maxRecDepth 100000 in
theorem lifted (os : Os) (started : os.Started) (H : Type) (enc : TypeId × Value → H) :
    ReturnsInHanded {} Yba.checked os 3 .any (Rows.lawS3126AFirstExactSpec.pre6 enc Yba.prog Yba.f3 Rows.lawS3126AFirstExactRow.domain false) (Rows.lawS3126AFirstExactSpec.post enc Yba.prog Yba.f3 false true false false) := by
  refine returnsInHanded_of_change (C := Yba.checked) own started (by kernel_rfl) Yba.func3
    (ChangeSpec.witness6 (enc := enc) (C := Yba.checked) false ⟨#[], #[.slice none 0 0], []⟩ 8 (by kernel_rfl) (by kernel_rfl) (by kernel_rfl) (by kernel_rfl)) ?_
  intro W base args ds gs before hval0 hW hcnd _
  have hval : ∀ (j : Nat) t v, Yba.f3.params[j]? = some t → args[j]? = some v → Value.okWide Yba.prog W .any base t v := hval0
  have hW' := hW
  obtain ⟨p, q, hA0, hV, rfl, hfz, hnd⟩ := hW
  have hA : DataW.TrodAll enc Yba.prog W 0 (fun _ => true) true Yba.f3.params.toList args.toList ds p := hA0
  rw [Yba.params3] at hA hval
  obtain ⟨v0, vs0, d0, ds0, p0, q0, hargs, rfl, rfl, h0, r0⟩ := trodAll_cons hA
  obtain ⟨rfl, rfl, rfl⟩ := trodAll_nil r0
  obtain rfl : args = #[v0] := by cases args; simp_all
  obtain ⟨rfl, rfl⟩ := trodVars_none hV
  obtain ⟨a0, len0, cap0, rfl⟩ := okWide_slice Yba.underlying22 (hval 0 22 v0 rfl rfl)
  have k0 := h0
  have lt0 : ∀ x ∈ p0, x.block < W.heap.size := by obtain ⟨m, hm⟩ := k0; exact DataW.trod_lt m _ _ _ hm
  obtain ⟨z0, w0⟩ : ∃ zs, IsRow .u8 W a0 len0 cap0 zs := by
    obtain ⟨fuel, hf⟩ := h0
    rcases open_ints Yba.underlying22 Yba.underlying5 (by kernel_rfl) hf with ⟨hcs, _⟩ | ⟨x, l, c, zs, hcs, _, hl, hm, hz, _, hcell, hwz⟩
    · simp [Value.cells] at hcs
      obtain ⟨rfl, rfl, rfl⟩ := hcs
      exact ⟨[], .inl ⟨rfl, rfl, rfl, rfl⟩⟩
    · simp [Value.cells] at hcs
      obtain ⟨rfl, rfl, rfl⟩ := hcs
      exact ⟨zs, .inr ⟨_, rfl, hl, hm, by simpa using hz, hcell, hwz⟩⟩
  clear hA0 hval0
  refine (walk a0 len0 cap0 z0 W w0).mono fun e W' ⟨he, bel⟩ => ?_
  subst he
  exact ⟨_, rfl, _, _, _, [], _, [], hW', trodAll_mk1 (shut_bool Yba.underlying4 _), (trodAll_cons_mk (Below.trod laidOut (by kernel_rfl) (of_decide_eq_true (by kernel_rfl)) k0 bel lt0) trodAll_mk0), rfl, bel.frame _, fun h => by cases h⟩

theorem over : Rows.lawS3126AFirstExactRow.holds Yba.pinned (OpenSpec.ofChange Rows.lawS3126AFirstExactSpec) :=
  OpenClaim.holds_of_wide 3 Yba.f3 rfl rfl rfl rfl rfl rfl rfl ⟨rfl, rfl, rfl, rfl, rfl⟩ rfl rfl rfl rfl rfl (by kernel_rfl) Yba.func3 (by kernel_rfl)
    (of_decide_eq_true (by kernel_rfl)) (by unfold Func.isWrapper; first | (rw [if_pos (by decide +kernel)]; kernel_rfl) | (rw [if_neg (by decide +kernel)]; exact ⟨rfl, rfl⟩))
    (fun os started H enc _ => lifted os started H enc)

/-- ████ THE STATEMENT ████ -/
theorem proved : Rows.LawS3126AFirstExactSaid := over
end Go.Proofs.Ybulkblsg.lawS3126AFirstExact

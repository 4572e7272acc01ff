import Derived.Test.YbulkblsgWalkZero
import Derived.WalkKit
import Derived.ProofKit
import Derived.OpenShut
import Derived.ShutString
import Derived.ChangeOld
import Derived.Below
import Derived.Deep.Slices
import Derived.Deep.Strs
namespace Go.Proofs.Ybulkblsg.lawS3126AWalk
open Go.ChangeShapes Go.WideShapes Go.ChangeAt Go.RowKit Go.Deep
open Go.ChangeMaps (open_string shut_string)
set_option linter.unusedVariables false

theorem own : ownKnob Yba.prog.godebug = none := by kernel_rfl
theorem laidOut : laidOutB Yba.prog = true := by kernel_rfl

section
variable {H : Type} {enc : TypeId × Value → H} {P : Program} {w : World} {base : Nat} {spare : Nat → Bool} {held : Bool}

/-- A slice of structs, each field of one cell, opened at every index below its length. -/
theorem open_structs {t e : TypeId} {fs : Array Field} {fuel : Nat} {cs : List Value} {x : DataW H × List MemPlace} (ht : P.underlying t = some (.slice e)) (he : P.underlying e = some (.struct fs))
    (hone : ∀ (j : Nat) (f : Field), fs[j]? = some f → f.offset = j ∧ P.cellsOf f.type = 1) (hce : P.cellsOf e = fs.size) (h : DataW.trod enc P w base spare held fuel t cs = some x) :
    cs = [.slice none 0 0] ∨ ∃ (a : Addr) (len cap : Nat), cs = [.slice (some a) len cap] ∧ base ≤ a.block ∧ len ≤ cap ∧ cap ≤ maxLen ∧
      ∀ i, i < len → ∃ n, ∀ (j : Nat) (f : Field), fs[j]? = some f → ∃ v y, w.cell? (a.add (i * fs.size + j)) = some v ∧ DataW.trod enc P w base spare held n f.type [v] = some y := by
  rcases open_slice ht h with ⟨h0, _⟩ | ⟨a, len, cap, m, n, D, Pl, rfl, hb, hl, hm, hmm, rfl, hx⟩
  · exact Or.inl h0
  right
  have hlm : len ≤ m := by rw [hmm]; split <;> omega
  refine ⟨a, len, cap, rfl, hb, hl, hm, fun i hi => ?_⟩
  obtain ⟨cs', h1, h2⟩ := hx i (by omega)
  rw [hce] at h1
  obtain ⟨_, hlen, hcell⟩ := World.cells?_some h1
  obtain ⟨xs, k, hk, hxy, _, hxl, hf⟩ := DataW.trod_struct he h2
  refine ⟨k, fun j f hj => ?_⟩
  obtain ⟨ho, hc1⟩ := hone j f hj
  have hjs : j < fs.size := (Array.getElem?_eq_some_iff.1 hj).1
  have hg := hf j f hj
  have hc := hcell j (by omega)
  rw [add_add] at hc
  have hjc : j < cs'.length := by omega
  rw [ho, hc1] at hg
  have hd : (cs'.drop j).take 1 = [cs'[j]] := by rw [List.drop_eq_getElem_cons hjc]; rfl
  rw [hd, List.getElem?_eq_getElem (by omega)] at hg
  exact ⟨cs'[j], xs[j], by rw [hc]; simp [List.getElem?_eq_getElem hjc], hg⟩

end

theorem spot_none {w : World} {b off : Nat} {st : Option Nat} {v : Value} (h : w.cell? ((⟨b, off, st⟩ : Addr).add 0) = some v) : st = none := by
  simpa [Addr.add] using World.cell?_spot h

/-- WHAT THE WALK IS TOLD OF THE RUNS. -/
def IsRuns (w : World) (a : Option Addr) (len : Nat) : Prop :=
  len = 0 ∨ ∃ b off, ∃ S E V : Nat → Int, a = some ⟨b, off, none⟩ ∧ b < w.heap.size ∧
    ∀ i, i < len → w.cell? ⟨b, off + i * 3, none⟩ = some (.int .i64 (S i)) ∧ w.cell? ⟨b, off + i * 3 + 1, none⟩ = some (.int .i64 (E i)) ∧ w.cell? ⟨b, off + i * 3 + 2, none⟩ = some (.int .i64 (V i))

/-- .. of the cuts. -/
def IsCuts (w : World) (a : Option Addr) (len : Nat) : Prop :=
  len = 0 ∨ ∃ b off, ∃ y : Nat → Nat, a = some ⟨b, off, none⟩ ∧ b < w.heap.size ∧ len ≤ maxLen ∧ (∀ j, y j ≤ 255) ∧ ∀ i, i < len → w.cell? ⟨b, off + i, none⟩ = some (.int .u8 (y i))

theorem walk (a0 a1 : Option Addr) (len0 cap0 len1 cap1 : Nat) (lone : Bool) (w : World) (h0 : IsRuns w a0 len0) (h1 : IsCuts w a1 len1) :
    Calls Yba.prog 4 #[.slice a0 len0 cap0, .slice a1 len1 cap1, .bool lone] w fun e w' => e = .returned (.bool true) ∧ Below w.heap.size w w' := by
  by_cases hl : 4096 < len0
  · exact walk_long a0 len0 cap0 _ _ w hl
  by_cases hz : len0 = 0
  · subst hz; exact walk_zero a0 a1 cap0 len1 cap1 lone w
  rcases h0 with h0 | ⟨b, off, S, E, V, rfl, hb, hr⟩
  · exact absurd h0 hz
  refine walk_some b off len0 cap0 _ lone S E V w (by omega) (by omega) hb hr ?_
  rcases h1 with rfl | ⟨bc, offc, y, rfl, hbc, hm, hy, hc⟩
  · exact build_nocuts b off len0 cap0 cap1 a1 lone S E V w (by omega) (by omega) hb hr
  · exact build_cuts b off len0 cap0 bc offc len1 cap1 lone S E V y w (by omega) (by omega) hy hb hbc hm hr hc

theorem Yba.cells38 : Yba.prog.cellsOf 38 = 3 := by kernel_rfl
theorem Yba.cells2 : Yba.prog.cellsOf 2 = 1 := by kernel_rfl
theorem Yba.cells3 : Yba.prog.cellsOf 3 = 1 := by kernel_rfl

set_option maxRecDepth 100000 in
theorem lifted (os : Os) (started : os.Started) (H : Type) (enc : TypeId × Value → H) :
    ReturnsInHanded {} Yba.checked os 4 .any (Rows.lawS3126AWalkSpec.pre6 enc Yba.prog Yba.f4 Rows.lawS3126AWalkRow.domain false) (Rows.lawS3126AWalkSpec.post enc Yba.prog Yba.f4 false true false false) := by
  refine returnsInHanded_of_change (C := Yba.checked) own started (by kernel_rfl) Yba.func4
    (ChangeSpec.witness6 (enc := enc) (C := Yba.checked) false ⟨#[], #[.slice none 0 0, .slice none 0 0, .bool false], []⟩ 8 (by kernel_rfl) (by kernel_rfl) (by kernel_rfl) (by kernel_rfl)) ?_
  intro W base args ds gs before hval0 hW hcnd _
  have hval : ∀ (j : Nat) t v, Yba.f4.params[j]? = some t → args[j]? = some v → Value.okWide Yba.prog W .any base t v := hval0
  have hW' := hW
  obtain ⟨p, q, hA0, hV, rfl, hfz, hnd⟩ := hW
  have hA : DataW.TrodAll enc Yba.prog W 0 (fun _ => true) true Yba.f4.params.toList args.toList ds p := hA0
  rw [Yba.params4] at hA hval
  obtain ⟨v0, vs0, d0, ds0, p0, q0, hargs, rfl, rfl, h0, r0⟩ := trodAll_cons hA
  obtain ⟨v1, vs1, d1, ds1, p1, q1, rfl, rfl, rfl, h1, r1⟩ := trodAll_cons r0
  obtain ⟨v2, vs2, d2, ds2, p2, q2, rfl, rfl, rfl, h2, r2⟩ := trodAll_cons r1
  obtain ⟨rfl, rfl, rfl⟩ := trodAll_nil r2
  obtain rfl : args = #[v0, v1, v2] := by cases args; simp_all
  obtain ⟨rfl, rfl⟩ := trodVars_none hV
  obtain ⟨a0, len0, cap0, rfl⟩ := okWide_slice Yba.underlying34 (hval 0 34 v0 rfl rfl)
  obtain ⟨a1, len1, cap1, rfl⟩ := okWide_slice Yba.underlying22 (hval 1 22 v1 rfl rfl)
  have k0 := h0
  have k1 := h1
  have k2 := h2
  obtain ⟨lone, rfl, _, _⟩ := open_bool Yba.underlying4 (hval 2 4 v2 rfl rfl) h2
  have lt0 : ∀ x ∈ p0, x.block < W.heap.size := by obtain ⟨m, hm⟩ := k0; exact DataW.trod_lt m _ _ _ hm
  have lt1 : ∀ x ∈ p1, x.block < W.heap.size := by obtain ⟨m, hm⟩ := k1; exact DataW.trod_lt m _ _ _ hm
  have lt2 : ∀ x ∈ p2, x.block < W.heap.size := by obtain ⟨m, hm⟩ := k2; exact DataW.trod_lt m _ _ _ hm
  have w0 : IsRuns W a0 len0 := by
    obtain ⟨fuel, hf⟩ := h0
    rcases open_structs Yba.underlying34 Yba.underlying38 (by
      intro j f h
      match j with
      | 0 => simp at h; subst h; exact ⟨rfl, Yba.cells2⟩
      | 1 => simp at h; subst h; exact ⟨rfl, Yba.cells2⟩
      | 2 => simp at h; subst h; exact ⟨rfl, Yba.cells3⟩
      | n + 3 => simp at h) (by rw [Yba.cells38]; rfl) hf with hcs | ⟨a, l, c, hcs, _, hl, hm, hx⟩
    · simp [Value.cells] at hcs
      exact .inl hcs.2.1
    · simp [Value.cells] at hcs
      obtain ⟨rfl, rfl, rfl⟩ := hcs
      by_cases hz : len0 = 0
      · exact .inl hz
      right
      obtain ⟨b, off, st⟩ := a
      have hst : st = none := by
        obtain ⟨n, hn⟩ := hx 0 (by omega)
        obtain ⟨v, y, hv, _⟩ := hn 0 _ rfl
        exact spot_none (by simpa using hv)
      subst hst
      have each : ∀ i, i < len0 → ∃ q : Int × Int × Int, W.cell? ⟨b, off + i * 3, none⟩ = some (.int .i64 q.1) ∧ W.cell? ⟨b, off + i * 3 + 1, none⟩ = some (.int .i64 q.2.1) ∧ W.cell? ⟨b, off + i * 3 + 2, none⟩ = some (.int .i64 q.2.2) := fun i hi => by
        obtain ⟨n, hn⟩ := hx i hi
        obtain ⟨u0, y0, e0, t0⟩ := hn 0 _ rfl
        obtain ⟨u1, y1, e1, t1⟩ := hn 1 _ rfl
        obtain ⟨u2, y2, e2, t2⟩ := hn 2 _ rfl
        obtain ⟨z0, hz0, _⟩ := DataW.trod_int Yba.underlying2 t0
        obtain ⟨z1, hz1, _⟩ := DataW.trod_int Yba.underlying2 t1
        obtain ⟨z2, hz2, _⟩ := DataW.trod_int Yba.underlying3 t2
        simp only [List.cons.injEq, and_true] at hz0 hz1 hz2
        rw [Addr.add_mid] at e0 e1 e2
        exact ⟨(z0, z1, z2), by rw [← hz0]; simpa using e0, by rw [← hz1]; simpa [Nat.add_assoc] using e1, by rw [← hz2]; simpa [Nat.add_assoc] using e2⟩
      obtain ⟨q, hq⟩ := choose_lt each
      exact ⟨b, off, fun i => (q i).1, fun i => (q i).2.1, fun i => (q i).2.2, rfl, World.block_lt_of_cell? W _ (hq 0 (by omega)).1, hq⟩
  have w1 : IsCuts W a1 len1 := by
    obtain ⟨fuel, hf⟩ := h1
    rcases open_ints Yba.underlying22 Yba.underlying5 (by kernel_rfl) hf with ⟨hcs, _⟩ | ⟨x, l, c, zs, hcs, _, hl, hm, hz, _, hcell, hwz⟩
    · simp [Value.cells] at hcs
      exact .inl hcs.2.1
    · simp [Value.cells] at hcs
      obtain ⟨rfl, rfl, rfl⟩ := hcs
      by_cases hz0 : len1 = 0
      · exact .inl hz0
      right
      have hz' : zs.length = cap1 := by simpa using hz
      obtain ⟨b, off, rfl, hc⟩ := ints_at hcell (by omega)
      have hwf : ∀ i, i < zs.length → 0 ≤ zs.getD i 0 ∧ zs.getD i 0 ≤ 255 := fun i hi => by
        have := bounds_u8 (hwz (zs.getD i 0) (by simp [List.getD, List.getElem?_eq_getElem hi]))
        omega
      refine ⟨b, off, fun i => (zs.getD i 0).toNat, rfl, World.block_lt_of_cell? W _ (hc 0 (by omega)), by omega, fun j => ?_, fun i hi => ?_⟩
      · by_cases hi : j < zs.length
        · have := hwf j hi; show (zs.getD j 0).toNat ≤ 255; omega
        · simp [List.getD, List.getElem?_eq_none (Nat.le_of_not_lt hi)]
      · have := hwf i (by omega)
        rw [Int.toNat_of_nonneg this.1]
        exact hc i (by omega)
  clear hA0 hval0
  refine (walk a0 a1 len0 cap0 len1 cap1 lone W w0 w1).mono fun e W' ⟨he, bel⟩ => ?_
  subst he
  exact ⟨_, rfl, _, _, _, [], _, [], hW', trodAll_mk1 (shut_bool Yba.underlying4 _), (trodAll_cons_mk (Below.trod laidOut (by kernel_rfl) (of_decide_eq_true (by kernel_rfl)) k0 bel lt0) (trodAll_cons_mk (Below.trod laidOut (by kernel_rfl) (of_decide_eq_true (by kernel_rfl)) k1 bel lt1) (trodAll_cons_mk (Below.trod laidOut (by kernel_rfl) (of_decide_eq_true (by kernel_rfl)) k2 bel lt2) trodAll_mk0))), rfl, bel.frame _, fun h => by cases h⟩

theorem over : Rows.lawS3126AWalkRow.holds Yba.pinned (OpenSpec.ofChange Rows.lawS3126AWalkSpec) :=
  OpenClaim.holds_of_wide 4 Yba.f4 rfl rfl rfl rfl rfl rfl rfl ⟨rfl, rfl, rfl, rfl, rfl⟩ rfl rfl rfl rfl rfl (by kernel_rfl) Yba.func4 (by kernel_rfl)
    (of_decide_eq_true (by kernel_rfl)) (by unfold Func.isWrapper; first | (rw [if_pos (by decide +kernel)]; kernel_rfl) | (rw [if_neg (by decide +kernel)]; exact ⟨rfl, rfl⟩))
    (fun os started H enc _ => lifted os started H enc)

/-- THE STATEMENT. -/
theorem proved : Rows.LawS3126AWalkSaid := over
end Go.Proofs.Ybulkblsg.lawS3126AWalk

import Derived.Test.YbulkblsgFmtBj
import Derived.Test.YbulkblsgFmtCards
import Derived.Test.YbulkblsgFmtTie
import Derived.ProofKit
import Derived.LaidMore
import Derived.OpenShut
import Derived.ShutString
import Derived.ChangeOld
import Derived.Stop.Joined
import Derived.Stop.JoinedTold
import Derived.Stop.LaidErr
import Derived.Deep.Fields23
import Derived.Deep.DeepWitnessRef
import Derived.Deep.Slices
import Derived.SevenTiedAt
import Derived.SizedLaws
namespace Go.Proofs.YbulkblsgFmt.lawS3126CBuilt
open Go.ChangeShapes Go.WideShapes Go.ChangeAt Go.RowKit Go.Deep Go.WideElems
open Go.Extern.Stop Go.Stop Go.Extern
set_option linter.unusedVariables false

theorem own : ownKnob Ybaf.prog.godebug = none := by kernel_rfl
theorem laidOut : laidOutB Ybaf.prog = true := by kernel_rfl
theorem stops : Ybaf.pinned.checked.prog.stops = ["fmt.errorf, its operands' methods called", "fmt.Sprintf, its operands' methods called"] := by kernel_rfl
theorem stopKnobs : Ybaf.pinned.checked.prog.stopKnobs = [] := by kernel_rfl
theorem quiet (os : Os) : Stop.quiet Ybaf.pinned.checked.prog os := by
  intro k hk
  rw [stopKnobs] at hk
  cases hk
/-- The listed variable's name, off the given row. -/
def eName : String := Rows.lawS3126CBuiltSpec.vars.headD ""
theorem gE : Ybaf.prog.globalNamed eName = some 0 := by kernel_rfl
theorem tE : (Ybaf.prog.globals[0]?).map (·.type) = some 30 := by kernel_rfl
theorem gZ : Ybaf.prog.globalNamed "net/netip.z6noz" = some 3 := by kernel_rfl
theorem tZ : (Ybaf.prog.globals[3]?).map (·.type) = some 63 := by kernel_rfl
theorem star : "*" ++ "errors.errorString" = "*errors.errorString" := by decide
theorem row108 (u : TypeId) (h : Ybaf.prog.typeName? 3 u = some "*errors.errorString") : u = 108 :=
  typeName_ptr_named (nm := "errors.errorString") (by rw [star]; kernel_rfl) (by kernel_rfl) (by decide) u (by rw [star]; exact h)

/-- The listed sentinel, its row told. -/
theorem sentinel_row {P : Program} {n nm : String} {text : List UInt8} {r : List (String × DataW Unit)} {W : World} {g : Nat} {ti tp te ts : TypeId} {ms : Array (String × TypeId)} {f : Field}
    (h : laidMet P ((n, .iface nm (.ptr (.agg [.lit (.string text)]))) :: r) W)
    (hg : P.globalNamed n = some g) (ht : (P.globals[g]?).map (·.type) = some ti) (hi : P.underlying ti = some (.interface ms)) (hrow : ∀ u, P.typeName? 3 u = some nm → u = tp)
    (hp : P.underlying tp = some (.pointer te)) (he : P.underlying te = some (.struct #[f])) (hft : f.type = ts) (hfo : f.offset = 0) (hs : P.underlying ts = some .string) (hc : P.cellsOf te = 1) (hcs : P.cellsOf ts = 1) :
    ∃ (a : Addr) (c : Array Value) (t : TypeId), W.var? P n = some #[.iface tp (.pointer (some a))] ∧ W.heap[a.block]? = some (.cells c t (0, 0)) := by
  obtain ⟨ps, ⟨g0, t0, cs0, f0, p0, q0, hg0, ht0, hv0, hd0, _, e0⟩, _, hrows⟩ := h
  obtain rfl := Option.some.inj (hg.symm.trans hg0)
  obtain rfl := Option.some.inj (ht.symm.trans ht0)
  subst e0
  obtain ⟨l0⟩ := cs0
  have ok0 : ∀ u v, l0 = [.iface u v] → Value.okWide P W .any 0 u v := fun u v e => by
    subst e
    exact (hrows g 0 (by simp [MemPlace.row])).2 u v (by simpa using World.var?_cell hg0 hv0 0)
  obtain ⟨a0, s0, rfl, hc0, hs0, hz0, rfl⟩ := errorString_of_trod hi hrow hp he hft hfo hs hc hcs hd0 ok0
  obtain ⟨c0, t0, hb0⟩ := (hrows a0.block a0.off (by simp [MemPlace.row])).1
  exact ⟨a0, c0, t0, hv0, hb0⟩
/-- What the listed variables hold. -/
theorem of_laid {W : World} (h : laidMetH Ybaf.prog Rows.lawS3126CBuiltRow.laid W) : ∃ (zp : Option Addr) (a : Addr) (ce : Array Value) (te : TypeId), W.cell? ⟨3, 0, none⟩ = some (.pointer zp) ∧ W.var? Ybaf.prog eName = some #[.iface 108 (.pointer (some a))] ∧ W.heap[a.block]? = some (.cells ce te (0, 0)) := by
  rw [MakeChecks.laidMetH_plain _ _ _ (by kernel_rfl)] at h
  have h' : laidMet Ybaf.prog [("net/netip.z4", Rows.laid_net_netip_z4), ("net/netip.z6noz", Rows.laid_net_netip_z6noz), (eName, Rows.laid_example_com_rebeat_rebeat_internal_capture_errFragmented)] W := h
  obtain ⟨a, ce, te, hv, hrw⟩ := sentinel_row (g := 0) h'.tail.tail gE tE Ybaf.underlying30 row108 Ybaf.underlying108 Ybaf.underlying110 rfl rfl Ybaf.underlying9 (by kernel_rfl) (by kernel_rfl)
  obtain ⟨ps, ⟨g0, t0, cs0, f0, p0, q0, hg0, ht0, hv0, hd0, _, _⟩, _, _⟩ := h'.tail
  obtain rfl := Option.some.inj (gZ.symm.trans hg0)
  obtain rfl := Option.some.inj (tZ.symm.trans ht0)
  obtain ⟨xs, k, hk, hxy, hcl, hxl, hf⟩ := DataW.trod_struct Ybaf.underlying63 hd0
  have hlen : cs0.toList.length = 1 := hcl.trans (by kernel_rfl)
  obtain ⟨v, hvv⟩ : ∃ v, cs0.toList = [v] := List.length_eq_one_iff.1 hlen
  have c61 : Ybaf.prog.cellsOf 61 = 1 := by kernel_rfl
  have hg := hf 0 _ rfl
  simp only [List.getElem_toArray, List.getElem_cons_zero] at hg
  rw [hvv, c61] at hg
  have hxl1 : xs.length = 1 := hxl
  obtain ⟨y, hy⟩ : ∃ y, xs[0]? = some y := Option.isSome_iff_exists.1 (by rw [List.getElem?_eq_getElem (by omega)]; rfl)
  rw [hy] at hg
  simp only [List.drop_zero, List.take_succ_cons, List.take_zero] at hg
  have hp : ∃ zp, v = .pointer zp := by
    rcases open_ptr_fields2 Ybaf.underlying61 Ybaf.underlying169 (by kernel_rfl) (by kernel_rfl) hg with ⟨e, _⟩ | ⟨b, o, n, v0, v1, y0, y1, e, _⟩
    · exact ⟨none, by injection e⟩
    · exact ⟨_, by injection e⟩
  obtain ⟨zp, rfl⟩ := hp
  refine ⟨zp, a, ce, te, ?_, hv, hrw⟩
  have := World.var?_cell hg0 hv0 0
  rw [Array.eq_one_of_toList hvv] at this
  simpa using this

section
variable {H : Type} {enc : TypeId × Value → H} {P : Program} {w : World} {base : Nat} {spare : Nat → Bool} {held : Bool}

/-- A slice of structs, each field of one cell, opened at every index below its length. -/
theorem open_structs {t e : TypeId} {fs : Array Field} {fuel : Nat} {cs : List Value} {x : DataW H × List MemPlace} (ht : P.underlying t = some (.slice e)) (he : P.underlying e = some (.struct fs))
    (hone : ∀ (j : Nat) (f : Field), fs[j]? = some f → f.offset = j ∧ P.cellsOf f.type = 1) (hce : P.cellsOf e = fs.size) (h : DataW.trod enc P w base spare held fuel t cs = some x) :
    cs = [.slice none 0 0] ∨ ∃ (a : Addr) (len cap : Nat), cs = [.slice (some a) len cap] ∧ base ≤ a.block ∧ len ≤ cap ∧ cap ≤ maxLen ∧
      ∀ i, i < len → ∃ n, ∀ (j : Nat) (f : Field), fs[j]? = some f → ∃ v y, w.cell? (a.add (i * fs.size + j)) = some v ∧ DataW.trod enc P w base spare held n f.type [v] = some y := by
  rcases open_slice ht h with ⟨h0, _⟩ | ⟨a, len, cap, m, n, D, Pl, rfl, hb, hl, hm, hmm, rfl, hx⟩
  · exact Or.inl h0
  right
  have hlm : len ≤ m := by rw [hmm]; split <;> omega
  refine ⟨a, len, cap, rfl, hb, hl, hm, fun i hi => ?_⟩
  obtain ⟨cs', h1, h2⟩ := hx i (by omega)
  rw [hce] at h1
  obtain ⟨_, hlen, hcell⟩ := World.cells?_some h1
  obtain ⟨xs, k, hk, hxy, _, hxl, hf⟩ := DataW.trod_struct he h2
  refine ⟨k, fun j f hj => ?_⟩
  obtain ⟨ho, hc1⟩ := hone j f hj
  have hjs : j < fs.size := (Array.getElem?_eq_some_iff.1 hj).1
  have hg := hf j f hj
  have hc := hcell j (by omega)
  rw [add_add] at hc
  have hjc : j < cs'.length := by omega
  rw [ho, hc1] at hg
  have hd : (cs'.drop j).take 1 = [cs'[j]] := by rw [List.drop_eq_getElem_cons hjc]; rfl
  rw [hd, List.getElem?_eq_getElem (by omega)] at hg
  exact ⟨cs'[j], xs[j], by rw [hc]; simp [List.getElem?_eq_getElem hjc], hg⟩

end

theorem spot_none {w : World} {b off : Nat} {st : Option Nat} {v : Value} (h : w.cell? ((⟨b, off, st⟩ : Addr).add 0) = some v) : st = none := by
  simpa [Addr.add] using World.cell?_spot h
/-- WHAT THE WALK IS TOLD OF THE BYTES. -/
def IsBytes (w : World) (a : Option Addr) (n : Nat) (b off : Nat) (G : Nat → Nat) : Prop := (0 < n → a = some ⟨b, off, none⟩) ∧ ∀ k, k < n → w.cell? ⟨b, off + k, none⟩ = some (.int .u8 ((G k : Nat) : Int)) ∧ G k ≤ 255
theorem bytes_of {H : Type} {enc : TypeId × Value → H} {W : World} {a : Option Addr} {len cap : Nat} {d : DataW H} {p : List MemPlace} (h : DataW.Trod enc Ybaf.prog W 0 (fun _ => true) true 53 (.slice a len cap) d p) : ∃ b off G, IsBytes W a len b off G := by
  obtain ⟨fuel, hf⟩ := h
  rcases open_ints Ybaf.underlying53 Ybaf.underlying5 (by kernel_rfl) hf with ⟨hcs, _⟩ | ⟨x, l, c, zs, hcs, _, hl, hm, hz, _, hcell, hwz⟩
  · simp [Value.cells] at hcs
    exact ⟨0, 0, fun _ => 0, fun h => by omega, fun i hi => by omega⟩
  · simp [Value.cells] at hcs
    obtain ⟨rfl, rfl, rfl⟩ := hcs
    by_cases hz0 : len = 0
    · exact ⟨0, 0, fun _ => 0, fun h => by omega, fun i hi => by omega⟩
    have hz' : zs.length = cap := by simpa using hz
    obtain ⟨b, off, rfl, hc⟩ := ints_at hcell (by omega)
    refine ⟨b, off, fun i => (zs.getD i 0).toNat, fun _ => rfl, fun i hi => ⟨?_, ?_⟩⟩
    · have := bounds_u8 (hwz (zs.getD i 0) (by simp [List.getD, List.getElem?_eq_getElem (show i < zs.length by omega)]))
      rw [Int.toNat_of_nonneg this.1]
      exact hc i (by omega)
    · have := bounds_u8 (hwz (zs.getD i 0) (by simp [List.getD, List.getElem?_eq_getElem (show i < zs.length by omega)]))
      show (zs.getD i 0).toNat ≤ 255
      omega
/-- WHAT THE WALK IS TOLD OF THE HEADERS. -/
structure Ent where
  kd : Nat
  l : Nat
  fr : Nat
  z : Nat
def IsEnts (w : World) (a : Option Addr) (n : Nat) (b off : Nat) (E : Nat → Ent) : Prop := (0 < n → a = some ⟨b, off, none⟩) ∧ ∀ i, i < n → (w.cell? ⟨b, off + i * 4, none⟩ = some (.int .u8 (((E i).kd : Nat) : Int)) ∧ w.cell? ⟨b, off + i * 4 + 1, none⟩ = some (.int .u8 (((E i).l : Nat) : Int)) ∧ w.cell? ⟨b, off + i * 4 + 2, none⟩ = some (.int .u16 (((E i).fr : Nat) : Int)) ∧ w.cell? ⟨b, off + i * 4 + 3, none⟩ = some (.int .u8 (((E i).z : Nat) : Int))) ∧ (E i).l ≤ 255 ∧ (E i).fr ≤ 65535 ∧ (E i).z ≤ 255
theorem bounds_u16 {x : Int} (h : (Lit.int .u16 x).wf = true) : 0 ≤ x ∧ x ≤ 65535 := by
  simp [Lit.wf, IntKind.min, IntKind.max, IntKind.signed, IntKind.bits] at h
  omega
theorem bounds_u32 {x : Int} (h : (Lit.int .u32 x).wf = true) : 0 ≤ x ∧ x ≤ 4294967295 := by
  simp [Lit.wf, IntKind.min, IntKind.max, IntKind.signed, IntKind.bits] at h
  omega
theorem cells56 : Ybaf.prog.cellsOf 56 = 4 := by kernel_rfl
theorem cells5 : Ybaf.prog.cellsOf 5 = 1 := by kernel_rfl
theorem cells24 : Ybaf.prog.cellsOf 24 = 1 := by kernel_rfl
theorem ents_of {H : Type} {enc : TypeId × Value → H} {W : World} {a : Option Addr} {len cap : Nat} {d : DataW H} {p : List MemPlace} (h : DataW.Trod enc Ybaf.prog W 0 (fun _ => true) true 52 (.slice a len cap) d p) : ∃ b off E, IsEnts W a len b off E := by
  obtain ⟨fuel, hf⟩ := h
  rcases open_structs Ybaf.underlying52 Ybaf.underlying56 (by
    intro j f h
    match j with
    | 0 => simp at h; subst h; exact ⟨rfl, cells5⟩
    | 1 => simp at h; subst h; exact ⟨rfl, cells5⟩
    | 2 => simp at h; subst h; exact ⟨rfl, cells24⟩
    | 3 => simp at h; subst h; exact ⟨rfl, cells5⟩
    | n + 4 => simp at h) (by rw [cells56]; rfl) hf with hcs | ⟨x, l, c, hcs, _, hl, hm, hx⟩
  · simp [Value.cells] at hcs
    obtain ⟨_, rfl, _⟩ := hcs
    exact ⟨0, 0, fun _ => ⟨0, 0, 0, 0⟩, fun h => absurd h (by omega), fun k hk => absurd hk (Nat.not_lt_zero _)⟩
  · simp [Value.cells] at hcs
    obtain ⟨rfl, rfl, rfl⟩ := hcs
    by_cases hz : len = 0
    · exact ⟨0, 0, fun _ => ⟨0, 0, 0, 0⟩, fun h => absurd h (by omega), fun k hk => absurd hk (by omega)⟩
    obtain ⟨b, off, st⟩ := x
    have hst : st = none := by
      obtain ⟨n, hn⟩ := hx 0 (by omega)
      obtain ⟨v, y, hv, _⟩ := hn 0 _ rfl
      exact spot_none (by simpa using hv)
    subst hst
    have each : ∀ i, i < len → ∃ e : Ent, (W.cell? ⟨b, off + i * 4, none⟩ = some (.int .u8 ((e.kd : Nat) : Int)) ∧ W.cell? ⟨b, off + i * 4 + 1, none⟩ = some (.int .u8 ((e.l : Nat) : Int)) ∧ W.cell? ⟨b, off + i * 4 + 2, none⟩ = some (.int .u16 ((e.fr : Nat) : Int)) ∧ W.cell? ⟨b, off + i * 4 + 3, none⟩ = some (.int .u8 ((e.z : Nat) : Int))) ∧ e.l ≤ 255 ∧ e.fr ≤ 65535 ∧ e.z ≤ 255 := fun i hi => by
      obtain ⟨n, hn⟩ := hx i hi
      obtain ⟨u0, y0, e0, t0⟩ := hn 0 _ rfl
      obtain ⟨u1, y1, e1, t1⟩ := hn 1 _ rfl
      obtain ⟨u2, y2, e2, t2⟩ := hn 2 _ rfl
      obtain ⟨u3, y3, e3, t3⟩ := hn 3 _ rfl
      obtain ⟨x0, hx0, _, wf0⟩ := DataW.trod_int Ybaf.underlying5 t0
      obtain ⟨x1, hx1, _, wf1⟩ := DataW.trod_int Ybaf.underlying5 t1
      obtain ⟨x2, hx2, _, wf2⟩ := DataW.trod_int Ybaf.underlying24 t2
      obtain ⟨x3, hx3, _, wf3⟩ := DataW.trod_int Ybaf.underlying5 t3
      simp only [List.cons.injEq, and_true] at hx0 hx1 hx2 hx3
      rw [Addr.add_mid] at e0 e1 e2 e3
      have g0 := bounds_u8 wf0
      have g1 := bounds_u8 wf1
      have g2 := bounds_u16 wf2
      have g3 := bounds_u8 wf3
      have i0 : ((x0.toNat : Nat) : Int) = x0 := by omega
      have i1 : ((x1.toNat : Nat) : Int) = x1 := by omega
      have i2 : ((x2.toNat : Nat) : Int) = x2 := by omega
      have i3 : ((x3.toNat : Nat) : Int) = x3 := by omega
      refine ⟨⟨x0.toNat, x1.toNat, x2.toNat, x3.toNat⟩, ⟨?_, ?_, ?_, ?_⟩, ?_, ?_, ?_⟩
      · show _ = some (Value.int .u8 ((x0.toNat : Nat) : Int)); rw [i0, ← hx0]; simpa using e0
      · show _ = some (Value.int .u8 ((x1.toNat : Nat) : Int)); rw [i1, ← hx1]; simpa [Nat.add_assoc] using e1
      · show _ = some (Value.int .u16 ((x2.toNat : Nat) : Int)); rw [i2, ← hx2]; simpa [Nat.add_assoc] using e2
      · show _ = some (Value.int .u8 ((x3.toNat : Nat) : Int)); rw [i3, ← hx3]; simpa [Nat.add_assoc] using e3
      · show x1.toNat ≤ 255; omega
      · show x2.toNat ≤ 65535; omega
      · show x3.toNat ≤ 255; omega
    haveI : Inhabited Ent := ⟨⟨0, 0, 0, 0⟩⟩
    obtain ⟨E, hE⟩ := choose_lt each
    exact ⟨b, off, E, fun _ => rfl, hE⟩
theorem walk (F : Interp) (a0 : Option Addr) (xb xo n c0 : Nat) (E : Nat → Ent) (sd py : Nat) (udp : Bool) (a4 : Option Addr) (tb to tl c4 : Nat) (G : Nat → Nat) (ct : Nat) (dc : Bool) (zp : Option Addr) (ea : Addr) (ce : Array Value) (te : TypeId) (w : World) (hF : F.answers w.tape) (hE : IsEnts w a0 n xb xo E) (hpy : py ≤ 65535) (hG : IsBytes w a4 tl tb to G) (hct : ct < 4294967296) (hea : w.heap[ea.block]? = some (.cells ce te (0, 0))) (hg0 : w.cell? ⟨0, 0, none⟩ = some (.iface 108 (.pointer (some ea)))) (hg3 : w.cell? ⟨3, 0, none⟩ = some (.pointer zp)) :
    Calls Ybaf.prog 4 #[.slice a0 n c0, .int .u8 (sd : Nat), .int .u16 (py : Nat), .bool udp, .slice a4 tl c4, .int .u32 (ct : Nat), .bool dc] w fun e w' => e = .returned (.bool true) ∧ Below w.heap.size w w' :=
  built_main F { kd := fun i => (E i).kd, L := fun i => if i < n then (E i).l else 0, Fr := fun i => if i < n then (E i).fr else 0, Z := fun i => if i < n then (E i).z else 0, T := fun k => if k < tl then G k else 0, m := n, fi := if udp then 17 else 6, py := py, seed := sd }
    (fun hm => ⟨fun i => by dsimp only; split; exact (hE.2 i (by assumption)).2.1; omega, fun i => by dsimp only; split; exact (hE.2 i (by assumption)).2.2.1; omega, fun i => by dsimp only; split; exact (hE.2 i (by assumption)).2.2.2; omega, fun i => by dsimp only; split; exact (hG.2 i (by assumption)).2; omega, hm, by cases udp; exact Or.inl rfl; exact Or.inr rfl, hpy⟩)
    udp rfl a0 xb xo c0 hE.1 zp ea ce te w hF (fun i hi => by
      have q := (hE.2 i hi).1
      have hi' : i < n := hi
      simp only [hi', if_true]
      exact q) hea hg0 hg3 a4 tb to tl c4 hG.1 (fun k hk => by
      have q := (hG.2 k hk).1
      simp only [hk, if_true]
      exact q) ct dc hct

theorem var?_below {P : Program} {B g : Nat} {W W' : World} {n : String} {cs : Array Value} (h : Below B W W') (hg : P.globalNamed n = some g) (hgB : g < B) (hv : W.var? P n = some cs) : W'.var? P n = some cs := by
  unfold World.var? at hv ⊢
  rw [hg] at hv ⊢
  simp only [Option.bind_some] at hv ⊢
  rw [h.block g hgB]
  exact hv

def theSpec : OpenSpec := OpenSpec.ofChange Rows.lawS3126CBuiltSpec
/-- A start for the witness: the listed variables hold what the row lists. -/
noncomputable def laidWorld (os : Os) : World :=
  let w0 := World.holding Ybaf.prog os ⟨#[.cells #[.bool false, .string ByteArray.empty] 169, .cells #[.bool true, .string ByteArray.empty] 169, .cells #[.string ⟨#[102, 114, 97, 103, 109, 101, 110, 116, 101, 100, 32, 84, 67, 80, 32, 115, 101, 103, 109, 101, 110, 116, 58, 32, 105, 116, 115, 32, 108, 101, 110, 103, 116, 104, 32, 105, 115, 32, 110, 111, 116, 32, 107, 110, 111, 119, 110]⟩] 110], #[], []⟩
  { w0 with heap := ((w0.heap.modify 0 fun
      | .cells _ t frozen => .cells #[.iface 108 (.pointer (some ⟨15, 0, none⟩))] t frozen
      | o => o).modify 2 fun
      | .cells _ t frozen => .cells #[.pointer (some ⟨13, 0, none⟩)] t frozen
      | o => o).modify 3 fun
      | .cells _ t frozen => .cells #[.pointer (some ⟨14, 0, none⟩)] t frozen
      | o => o }
theorem door_met (os : Os) (args : Array Value) : laidMetH Ybaf.prog Rows.lawS3126CBuiltRow.laid ((laidWorld os).forCall (fun _ _ => 0) ⟨#[], args, []⟩).memory :=
  laidMetH_of_parts3 (fuel := 8) (laidMet_of_run' 8 (by kernel_rfl) (by kernel_rfl)) (by kernel_rfl) (by kernel_rfl)
theorem witness_row (os : Os) {H : Type} (enc : TypeId × Value → H) :
    theSpec.preRow enc Ybaf.prog Ybaf.f4 Rows.lawS3126CBuiltRow.domain false Rows.lawS3126CBuiltRow.laid ((laidWorld os).forCall (fun _ _ => 0) ⟨#[], #[.slice none 0 0, .int .u8 0, .int .u16 0, .bool false, .slice none 0 0, .int .u32 0, .bool false], []⟩).memory #[.slice none 0 0, .int .u8 0, .int .u16 0, .bool false, .slice none 0 0, .int .u32 0, .bool false] :=
  OpenSpec.preRow_of_B rfl 8 (by kernel_rfl) (by kernel_rfl) (door_met os _)

set_option maxRecDepth 100000 in
theorem lifted (os : Os) (started : os.Started) (H : Type) (enc : TypeId × Value → H) :
    ReturnsInTold none {} Ybaf.checked os 4 .any Input.okWide (theSpec.preRow enc Ybaf.prog Ybaf.f4 Rows.lawS3126CBuiltRow.domain false Rows.lawS3126CBuiltRow.laid) (fun F => (theSpec.at F).post enc Ybaf.prog Ybaf.f4 false true false false) (aloneAtReturn Ybaf.prog) nothingAlways := by
  refine returnsInTold_of_row (C := Ybaf.checked) (s := theSpec) (by kernel_rfl) own started (by kernel_rfl) Ybaf.func4
    (OpenSpec.witness_stopped_atRef (enc := enc) (C := Ybaf.checked) false (laidWorld os) #[.slice none 0 0, .int .u8 0, .int .u16 0, .bool false, .slice none 0 0, .int .u32 0, .bool false] rfl (by kernel_rfl) (by kernel_rfl) (by kernel_rfl) (witness_row os enc)) ?_
  intro F W base args ds gs before _ hF hval0 hW _ _ _ hL _
  have hval : ∀ (j : Nat) t v, Ybaf.f4.params[j]? = some t → args[j]? = some v → Value.okWide Ybaf.prog W .any base t v := hval0
  have hW' := hW
  obtain ⟨p, q, hA0, hV0, rfl, hfz, hnd⟩ := hW
  have hA : DataW.TrodAll enc Ybaf.prog W 0 (fun _ => true) true Ybaf.f4.params.toList args.toList ds p := hA0
  have hV : DataW.TrodVars enc Ybaf.prog W (fun _ => true) [eName] gs q := hV0
  rw [Ybaf.params4] at hA hval
  obtain ⟨v0, vs0, d0, ds0, p0, q0, hargs, rfl, rfl, h0, r0⟩ := trodAll_cons hA
  obtain ⟨v1, vs1, d1, ds1, p1, q1, rfl, rfl, rfl, h1, r1⟩ := trodAll_cons r0
  obtain ⟨v2, vs2, d2, ds2, p2, q2, rfl, rfl, rfl, h2, r2⟩ := trodAll_cons r1
  obtain ⟨v3, vs3, d3, ds3, p3, q3, rfl, rfl, rfl, h3, r3⟩ := trodAll_cons r2
  obtain ⟨v4, vs4, d4, ds4, p4, q4, rfl, rfl, rfl, h4, r4⟩ := trodAll_cons r3
  obtain ⟨v5, vs5, d5, ds5, p5, q5, rfl, rfl, rfl, h5, r5⟩ := trodAll_cons r4
  obtain ⟨v6, vs6, d6, ds6, p6, q6, rfl, rfl, rfl, h6, r6⟩ := trodAll_cons r5
  obtain ⟨rfl, rfl, rfl⟩ := trodAll_nil r6
  obtain rfl : args = #[v0, v1, v2, v3, v4, v5, v6] := by cases args; simp_all
  obtain ⟨g, t, cs, fuel, dg, pg, rfl, hg, htg, hv, hd, rfl⟩ := trodVars_one hV
  obtain rfl := Option.some.inj (gE.symm.trans hg)
  obtain rfl := Option.some.inj (tE.symm.trans htg)
  obtain ⟨zp, ae, ce, te, hz, hve, hrw⟩ := of_laid hL
  obtain rfl := Option.some.inj (hv.symm.trans hve)
  have hg0 : W.cell? ⟨0, 0, none⟩ = some (.iface 108 (.pointer (some ae))) := by
    have := World.var?_cell hg hv 0
    simpa using this
  obtain ⟨a0, len0, cap0, rfl⟩ := okWide_slice Ybaf.underlying52 (hval 0 52 v0 rfl rfl)
  obtain ⟨a4, len4, cap4, rfl⟩ := okWide_slice Ybaf.underlying53 (hval 4 53 v4 rfl rfl)
  have k0 := h0
  have k1 := h1
  have k2 := h2
  have k3 := h3
  have k4 := h4
  have k5 := h5
  have k6 := h6
  have lt0 : ∀ x ∈ p0, x.block < W.heap.size := by obtain ⟨m, hm⟩ := k0; exact DataW.trod_lt m _ _ _ hm
  have lt1 : ∀ x ∈ p1, x.block < W.heap.size := by obtain ⟨m, hm⟩ := k1; exact DataW.trod_lt m _ _ _ hm
  have lt2 : ∀ x ∈ p2, x.block < W.heap.size := by obtain ⟨m, hm⟩ := k2; exact DataW.trod_lt m _ _ _ hm
  have lt3 : ∀ x ∈ p3, x.block < W.heap.size := by obtain ⟨m, hm⟩ := k3; exact DataW.trod_lt m _ _ _ hm
  have lt4 : ∀ x ∈ p4, x.block < W.heap.size := by obtain ⟨m, hm⟩ := k4; exact DataW.trod_lt m _ _ _ hm
  have lt5 : ∀ x ∈ p5, x.block < W.heap.size := by obtain ⟨m, hm⟩ := k5; exact DataW.trod_lt m _ _ _ hm
  have lt6 : ∀ x ∈ p6, x.block < W.heap.size := by obtain ⟨m, hm⟩ := k6; exact DataW.trod_lt m _ _ _ hm
  have ltg : ∀ x ∈ pg, x.block < W.heap.size := DataW.trod_lt fuel _ _ _ hd
  obtain ⟨z1, rfl, _, _, wf1⟩ := open_int Ybaf.underlying5 (hval 1 5 v1 rfl rfl) h1
  obtain ⟨z2, rfl, _, _, wf2⟩ := open_int Ybaf.underlying24 (hval 2 24 v2 rfl rfl) h2
  obtain ⟨udp, rfl, _, _⟩ := open_bool Ybaf.underlying4 (hval 3 4 v3 rfl rfl) h3
  obtain ⟨z5, rfl, _, _, wf5⟩ := open_int Ybaf.underlying25 (hval 5 25 v5 rfl rfl) h5
  obtain ⟨dc, rfl, _, _⟩ := open_bool Ybaf.underlying4 (hval 6 4 v6 rfl rfl) h6
  obtain ⟨xb, xo, E, hE⟩ := ents_of h0
  obtain ⟨tb, to, G, hG⟩ := bytes_of h4
  clear hA0 hval0
  obtain ⟨sd, rfl⟩ : ∃ sd : Nat, z1 = (sd : Int) := by
    have := bounds_u8 wf1
    exact ⟨z1.toNat, by omega⟩
  obtain ⟨py, hpy, rfl⟩ : ∃ py : Nat, py ≤ 65535 ∧ z2 = (py : Int) := by
    have := bounds_u16 wf2
    exact ⟨z2.toNat, by omega, by omega⟩
  obtain ⟨ct, hct, rfl⟩ : ∃ ct : Nat, ct < 4294967296 ∧ z5 = (ct : Int) := by
    have := bounds_u32 wf5
    exact ⟨z5.toNat, by omega, by omega⟩
  refine (walk F.told a0 xb xo len0 cap0 E sd py udp a4 tb to len4 cap4 G ct dc zp ae ce te W hF hE hpy hG hct hrw hg0 hz).mono fun e W' ⟨he, bel⟩ => ?_
  subst he
  have h0W : 0 < W.heap.size := World.block_lt_of_cell? W _ hg0
  obtain ⟨fuel', hd'⟩ := Below.trod (v := .iface 108 (.pointer (some ae))) laidOut (by kernel_rfl) (of_decide_eq_true (by kernel_rfl)) ⟨fuel, hd⟩ bel ltg
  have hvars : DataW.TrodVars enc Ybaf.prog W' (fun b => decide (b < W.heap.size)) [eName] [dg] (MemPlace.row ⟨0, 0, none⟩ 1 ++ pg) :=
    trodVars_mk1 gE tE (var?_below bel gE h0W hv) hd'
  exact ⟨_, rfl, _, _, _, [], _, _, hW', trodAll_mk1 (shut_bool Ybaf.underlying4 _), (trodAll_cons_mk (Below.trod laidOut (by kernel_rfl) (of_decide_eq_true (by kernel_rfl)) k0 bel lt0) (trodAll_cons_mk (Below.trod laidOut (by kernel_rfl) (of_decide_eq_true (by kernel_rfl)) k1 bel lt1) (trodAll_cons_mk (Below.trod laidOut (by kernel_rfl) (of_decide_eq_true (by kernel_rfl)) k2 bel lt2) (trodAll_cons_mk (Below.trod laidOut (by kernel_rfl) (of_decide_eq_true (by kernel_rfl)) k3 bel lt3) (trodAll_cons_mk (Below.trod laidOut (by kernel_rfl) (of_decide_eq_true (by kernel_rfl)) k4 bel lt4) (trodAll_cons_mk (Below.trod laidOut (by kernel_rfl) (of_decide_eq_true (by kernel_rfl)) k5 bel lt5) (trodAll_cons_mk (Below.trod laidOut (by kernel_rfl) (of_decide_eq_true (by kernel_rfl)) k6 bel lt6) trodAll_mk0))))))), hvars, bel.frame _, fun h => by cases h⟩

/-- THE STATEMENT: the told and tied card. -/
theorem proved : Rows.LawS3126CBuiltToldSaid :=
  Claim7.holds_of_told_tied_any_at .later 4 Ybaf.f4 "fmt.errorf, its operands' methods called" ["fmt.Sprintf, its operands' methods called"] [] _ _ _ _ _ (by kernel_rfl) rfl rfl rfl laidOut (by kernel_rfl) rfl ⟨rfl, rfl, rfl, rfl, rfl, rfl, rfl⟩ rfl rfl (by kernel_rfl) (by kernel_rfl) Ybaf.func4 (by kernel_rfl)
    (of_decide_eq_true (by kernel_rfl)) (of_decide_eq_true (by kernel_rfl)) stops.symm rfl stopKnobs.symm (by kernel_rfl)
    (by kernel_rfl) (by kernel_rfl) (by kernel_rfl) (by kernel_rfl) (by kernel_rfl) (by kernel_rfl) (by kernel_rfl) (by kernel_rfl) (by kernel_rfl) rfl (by kernel_rfl) rfl rfl
    rfl rfl
    rfl (by kernel_rfl) (by kernel_rfl) (by kernel_rfl) (by decide) (by kernel_rfl) lawS3126CBuilt_row_tie
    (OpenClaim.moreEntering_of (by kernel_rfl) (by kernel_rfl) (by kernel_rfl) (by kernel_rfl) (by kernel_rfl) (by kernel_rfl) (by kernel_rfl) (by kernel_rfl) (by kernel_rfl) (by kernel_rfl))
    ⟨_, WideRow.started_initial, quiet _⟩
    (fun os started _ H enc _ => lifted os started H enc)
end Go.Proofs.YbulkblsgFmt.lawS3126CBuilt

import Derived.Test.YbulkblzuSh2
namespace Go.Proofs.Ybulkblzu
open Go.RowKit Go.Maps Go.WideMaps
set_option linter.unusedVariables false
set_option linter.unusedSimpArgs false

set_option maxRecDepth 100000 in
set_option maxHeartbeats 1000000 in
theorem s5body (e : Ent) (p : Option Addr) (gb n c j X m : Nat) (R : Value) (xs : List Value) (wa : World) (hj : j < n) (hr : wa.rangeAt gb (j * 25) (enC e p)) (hown : wa.ownsRow X 33 22 R m xs) (hm : m < 1024) (hX : X ≤ wa.heap.size) {x0 x1 x2 x3 x4 x6 x7 x8 x9 x10 x11 x12 x13 x14 x15 x16 x17 x18 x19 x21 x23 x24 x25 x26 x27 x28 x29 x30 x31 x32 x33 x34 x35 : Value} (K : Act → World → Prop)
    (hK : ∀ (y8 y24 y25 y26 y27 y28 y29 y30 y31 y32 y33 R' : Value) (wy : World), Below X wa wy → (p.isSome = true → R' ≠ .slice none 0 0 ∧ wy.ownsRow X 33 22 R' (m + 1) (xs ++ adC e)) → (p.isSome = false → R' = R ∧ wy.ownsRow X 33 22 R m xs) → K { tmps := #[x0, x1, x2, x3, x4, R', x6, x7, y8, x9, x10, x11, x12, x13, x14, x15, x16, x17, x18, x19, .slice (some ⟨gb, 0, none⟩) n c, x21, .int .i64 ((j : Nat) : Int), x23, y24, y25, y26, y27, y28, y29, y30, y31, y32, y33, x34, x35], defers := [] } wy) :
    Code.wp Yba.prog shX (only K) { tmps := #[x0, x1, x2, x3, x4, R, x6, x7, x8, x9, x10, x11, x12, x13, x14, x15, x16, x17, x18, x19, .slice (some ⟨gb, 0, none⟩) n c, x21, .int .i64 ((j : Nat) : Int), x23, x24, x25, x26, x27, x28, x29, x30, x31, x32, x33, x34, x35], defers := [] } wa := by
  rw [shX_eq]
  refine wp_seq (wp_use (s5r6 e p gb n c j wa hj hr _ ?_))
  intro y24 y25
  have h8 : (wa.alloc (.cells (enC e p).toArray 62)).heap[wa.heap.size]? = some (.cells (enC e p).toArray 62 (0, 0)) := heap_alloc_new _ _
  have bA : Below X wa (wa.alloc (.cells (enC e p).toArray 62)) := below_le (al (Below.refl _ _) _) hX
  refine wp_seq (wp_use (s5r7 e p wa.heap.size _ h8 _ ?_))
  intro y26 y27
  refine wp_cond (t := p.isSome) (by kernel_rfl) ?_
  cases hp : p.isSome with
  | false =>
    refine wp_skip ?_
    exact hK _ y24 y25 y26 y27 _ x29 x30 x31 x32 x33 R _ bA (fun h => by rw [hp] at h; cases h) (fun _ => ⟨rfl, hown.alloc _⟩)
  | true =>
    refine wp_use (s5r8 e p wa.heap.size X m R xs _ h8 (hown.alloc _) hm (by simp; omega) _ ?_)
    intro y29 y30 y31 y32 y33 gn cn wy h1 h2
    refine hK _ y24 y25 y26 y27 _ y29 y30 y31 y32 y33 _ wy ?_ (fun _ => ⟨by simp, h1⟩) (fun h => by rw [hp] at h; cases h)
    exact (bA.trans (below_le (al (Below.refl _ _) _) (by simp; omega))).grown h2 (by simp; omega) (fun k hk => (hown.lt k hk).1)

set_option maxRecDepth 100000 in
set_option maxHeartbeats 1000000 in
theorem s5loop (E : Nat → Ent) (nn s N L n c : Nat) (ga : Option Addr) (cs : List Value) (x wa : World) (hnn : nn ≤ 1024) (hb : Below x.heap.size x wa) (hN : wa.cell? ⟨N, 21, none⟩ = some (.slice ga n c)) (hrow : x.ownsRow L 62 25 (.slice ga n c) n cs) (hel : EL E s nn cs) (hn : n = cnt E s nn) {x0 x1 x2 x3 x4 x7 x8 x9 x10 x11 x12 x13 x14 x15 x16 x17 x18 x19 x20 x21 x22 x23 x24 x25 x26 x27 x28 x29 x30 x31 x32 x33 x34 x35 : Value} (K : Act → World → Prop)
    (hK : ∀ (y8 y17 y18 y19 y20 y21 y22 y23 y24 y25 y26 y27 y28 y29 y30 y31 y32 y33 y34 R : Value) (wy : World), Below x.heap.size x wy → wy.ownsRow x.heap.size 33 22 R (hc E s nn) (hl E s nn) → (hc E s nn = 0 → R = .slice none 0 0) → K { tmps := #[x0, x1, x2, x3, x4, R, .pointer (some ⟨N, 0, none⟩), x7, y8, x9, x10, x11, x12, x13, x14, x15, x16, y17, y18, y19, y20, y21, y22, y23, y24, y25, y26, y27, y28, y29, y30, y31, y32, y33, y34, x35], defers := [] } wy) :
    Code.wp Yba.prog shT (only K) { tmps := #[x0, x1, x2, x3, x4, .slice none 0 0, .pointer (some ⟨N, 0, none⟩), x7, x8, x9, x10, x11, x12, x13, x14, x15, x16, x17, x18, x19, x20, x21, x22, x23, x24, x25, x26, x27, x28, x29, x30, x31, x32, x33, x34, x35], defers := [] } wa := by
  rw [shT_eq]
  refine wp_seq (wp_use (s5r4 N n c ga wa hN _ ?_))
  intro y17 y18 y19
  refine wp_block (wp_loop (fun a wq => ∃ (y8 y23 y24 y25 y26 y27 y28 y29 y30 y31 y32 y33 y34 R : Value) (j i' : Nat), j ≤ n ∧ i' ≤ nn ∧ cnt E s i' = j ∧ a = { tmps := #[x0, x1, x2, x3, x4, R, .pointer (some ⟨N, 0, none⟩), x7, y8, x9, x10, x11, x12, x13, x14, x15, x16, y17, y18, y19, .slice ga n c, .int .i64 ((n : Nat) : Int), .int .i64 ((j : Nat) : Int), y23, y24, y25, y26, y27, y28, y29, y30, y31, y32, y33, y34, x35], defers := [] } ∧ Below x.heap.size x wq ∧ wq.ownsRow x.heap.size 33 22 R (hc E s i') (hl E s i') ∧ (hc E s i' = 0 → R = .slice none 0 0)) (fun a _ => n - (intOf (a.tmps.getD 22 undef)).toNat) ⟨x8, x23, x24, x25, x26, x27, x28, x29, x30, x31, x32, x33, x34, _, 0, 0, Nat.zero_le _, Nat.zero_le _, rfl, rfl, hb, ⟨rfl, Or.inl ⟨rfl, rfl⟩⟩, fun _ => rfl⟩ ?_)
  rintro a wr ⟨y8, y23, y24, y25, y26, y27, y28, y29, y30, y31, y32, y33, y34, R, j, i', hj, hi', hcj, rfl, hbr, hown, hz⟩
  refine wp_seq (wp_use (s5r5 n j wr _ ?_))
  refine wp_seq (wp_cond (t := decide (j < n)) (by kernel_rfl) ?_)
  by_cases hjn : j < n
  · rw [decide_eq_true hjn, if_pos rfl]
    refine wp_skip ?_
    obtain ⟨i, hi, ho, hci⟩ := cnt_inv (E := E) s (n := nn) (j := j) (by omega)
    obtain ⟨e1, e2⟩ := same (E := E) s (a := i') (b := i) (by omega)
    obtain ⟨p, hp, hcell⟩ := hel.2 i hi ho
    obtain ⟨gb, cap, hv, _, hgl, hcs⟩ := own_cell hrow (by omega)
    obtain ⟨rfl, _, rfl⟩ : ga = some ⟨gb, 0, none⟩ ∧ n = n ∧ c = cap := by injection hv with a b c; exact ⟨a, b, c⟩
    have hr : wr.rangeAt gb (j * 25) (enC (E i) p) := by
      intro k u hu
      have hk : k < 25 := (List.getElem?_eq_some_iff.1 hu).1
      have hlen := hel.1
      have m1 : j * 25 + 25 ≤ n * 25 := by omega
      have e3 := hcell k hk
      rw [hci] at e3
      rw [hbr.cell (by exact hgl), hcs (j * 25 + k) (by omega), e3]; exact hu
    rw [e1, e2] at hown
    rw [e1] at hz
    have hm : hc E s i < 1024 := by have := hc_le (E := E) s i; omega
    refine wp_seq (wp_block (wp_use (s5body (E i) p gb n c j x.heap.size (hc E s i) R (hl E s i) wr hjn hr hown hm hbr.size _ ?_)))
    intro z8 z24 z25 z26 z27 z28 z29 z30 z31 z32 z33 R' wy hby hy hno
    refine wp_use (s5r9 j wy (by have := cnt_le (E := E) s nn; omega) _ ?_)
    intro z34
    have hcn : cnt E s (i + 1) = j + 1 := by rw [cnt_yes ho, hci]
    have key : wy.ownsRow x.heap.size 33 22 R' (hc E s (i + 1)) (hl E s (i + 1)) ∧ (hc E s (i + 1) = 0 → R' = .slice none 0 0) := by
      cases hh : p.isSome with
      | true =>
        have hit1 : hit E s i = true := by rw [hit_yes ho, ← hp, hh]
        rw [hc_yes hit1, hl_yes hit1]
        exact ⟨(hy hh).2, fun h => absurd h (by omega)⟩
      | false =>
        have hit0 : hit E s i = false := by rw [hit_yes ho, ← hp, hh]
        obtain ⟨rfl, ho2⟩ := hno hh
        rw [hc_no hit0, hl_no hit0]
        exact ⟨ho2, hz⟩
    refine ⟨⟨z8, _, z24, z25, z26, z27, z28, z29, z30, z31, z32, z33, z34, R', j + 1, i + 1, by omega, by omega, hcn, rfl, hbr.trans hby, key.1, key.2⟩, ?_⟩
    show n - (intOf (.int .i64 ((j + 1 : Nat) : Int))).toNat < n - (intOf (.int .i64 (j : Int))).toNat
    simp only [intOf]
    omega
  · rw [decide_eq_false hjn, if_neg Bool.false_ne_true]
    obtain ⟨e1, e2⟩ := same (E := E) s (a := i') (b := nn) (by omega)
    rw [e1, e2] at hown
    rw [e1] at hz
    refine wp_exit ?_
    exact hK y8 y17 y18 y19 _ _ _ _ y24 y25 y26 y27 y28 y29 y30 y31 y32 y33 y34 R wr hbr hown hz

/-- What share hands back for the sender sel. -/
def hcs (E : Nat → Ent) (sel nn : Nat) : Nat := if sel < 3 then hc E sel nn else 0
def hls (E : Nat → Ent) (sel nn : Nat) : List Value := if sel < 3 then hl E sel nn else []

set_option maxRecDepth 100000 in
set_option maxHeartbeats 1000000 in
theorem share_any (E : Nat → Ent) (B L : Nat) (w x : World) (nn sel : Nat) (F : Lit → Option Value) (Sb : Nat → Nat) (v : Nat → Value) (cs : Nat → List Value) (hnn : nn ≤ 1024) (hsel : sel < 4) (hT : T1 E B L w x nn F Sb v cs) :
    Calls Yba.prog 5 #[.pointer (some ⟨B + 2, 0, none⟩), kA sel] x fun e x' => ∃ R, e = .returned R ∧ Below x.heap.size x x' ∧ x'.ownsRow x.heap.size 33 22 R (hcs E sel nn) (hls E sel nn) ∧ (hcs E sel nn = 0 → R = .slice none 0 0) := by
  go_enter Yba.func5, Yba.ntmps5
  change Code.wp Yba.prog sh5 _ _ _
  rw [sh5_eq]
  refine wp_seq (wp_use (s5r0 sel x _ ?_))
  refine wp_seq (wp_use (s5r1 _ _ ?_))
  have bx : Below x.heap.size x (x.alloc (.cells (kC sel) 28)) := al (Below.refl _ _) _
  have hT1 := hT.below bx
  have look : ∀ r, F (kL sel) = r → (Instr.lookup 46 (.map (some (B + 1))) (kA sel) false).run Yba.prog (x.alloc (.cells (kC sel) 28)).drew = .ok (r.getD (.pointer none)) (x.alloc (.cells (kC sel) 28)).drew := fun r hr => by
    have q := (hT1.mp.of_block (w' := (x.alloc (.cells (kC sel) 28)).drew) rfl).look law28 Yba.underlying46 (zero34 _) (key_all hsel) (kL_ok _)
    rw [hr] at q; exact q
  by_cases h3 : sel < 3
  · have l1 := look _ (hT.old sel h3)
    refine wp_seq (wp_use (wp_seq (wp_use (s5r2 sel (B + 2) (B + 1) x.heap.size _ _ hT1.tbl (heap_alloc_new _ _) l1 _ ?_))))
    intros
    refine wp_seq (wp_use (s5r3 (some ⟨Sb sel, 0, none⟩) _ _ ?_))
    intros
    refine wp_cond_true (by kernel_rfl) ?_
    have hrow := hT.row sel h3
    have hcell := hT1.sh sel h3
    obtain ⟨ga, c, hv⟩ : ∃ ga c, v sel = .slice ga (cnt E sel nn) c := by
      obtain ⟨_, ⟨h, h0⟩ | ⟨gg, cap, _, h, _⟩⟩ := hrow
      · exact ⟨none, 0, by rw [h, h0]⟩
      · exact ⟨_, _, h⟩
    rw [hv] at hrow hcell
    refine wp_use (s5loop E nn sel (Sb sel) L (cnt E sel nn) c ga (cs sel) x (x.alloc (.cells (kC sel) 28)).drew hnn bx.drew hcell hrow (hT.el sel h3) rfl _ ?_)
    intro y8 y17 y18 y19 y20 y21 y22 y23 y24 y25 y26 y27 y28 y29 y30 y31 y32 y33 y34 R wy hby hown hz
    refine wp_seq (wp_use (s5r10 R wy _ ?_))
    intro y35
    change Code.wp Yba.prog Code.ret _ _ _
    go_wp2_with fail
    go_ret
    exact ⟨R, rfl, hby, by rw [hcs, hls, if_pos h3, if_pos h3]; exact hown, by rw [hcs, if_pos h3]; exact hz⟩
  · obtain rfl : sel = 3 := by omega
    have l1 := look _ hT.new
    refine wp_seq (wp_use (wp_seq (wp_use (s5r2 3 (B + 2) (B + 1) x.heap.size _ _ hT1.tbl (heap_alloc_new _ _) l1 _ ?_))))
    intros
    refine wp_seq (wp_use (s5r3 none _ _ ?_))
    intros
    refine wp_cond_false (by kernel_rfl) ?_
    refine wp_skip ?_
    refine wp_seq (wp_use (s5r10 (.slice none 0 0) _ _ ?_))
    intro y35
    change Code.wp Yba.prog Code.ret _ _ _
    go_wp2_with fail
    go_ret
    exact ⟨_, rfl, bx.drew, ⟨rfl, Or.inl ⟨rfl, rfl⟩⟩, fun _ => rfl⟩
end Go.Proofs.Ybulkblzu

import Derived.Test.YbulkblzuBld3
namespace Go.Proofs.Ybulkblzu
open Go.RowKit Go.Maps Go.WideMaps
set_option linter.unusedVariables false
set_option linter.unusedSimpArgs false
theorem bX_eq : bX = (headC bX).seq ((headC (dropC 1 bX)).seq ((headC (dropC 2 bX)).seq (((headC (headC (dropC 3 bX))).seq (.cond (.tmp 57) (thnC (tailC (headC (dropC 3 bX)))) .skip)).seq ((headC (dropC 4 bX)).seq (dropC 5 bX))))) := by kernel_rfl
theorem wp_ok {P : Program} {c : Code} {Q : Exit → Act → World → Prop} {a : Act} {w : World} (h : c.wp P (only (fun a w => Q .normal a w)) a w) : c.wp P Q a w := wp_use h
theorem enC_set (e : Ent) (p : Option Addr) (v : Option Addr) : (enC e p).toArray.setIfInBounds 24 (.pointer v) = (enC e v).toArray := by kernel_rfl

set_option maxRecDepth 100000 in
set_option maxHeartbeats 1000000 in
theorem b4body (E : Nat → Ent) (B L : Nat) (w wr : World) (b off nn c0 i : Nat) (F : Lit → Option Value) (Sb : Nat → Nat) (v : Nat → Value) (cs : Nat → List Value) (HT : T1 E B L w wr i F Sb v cs) (hi : i < 1024) (hin : (i : Int) < (nn : Int)) (hown : (E i).own ≤ 255)
    (q0 : wr.cell? ⟨b, off + i * 5, none⟩ = some (.int .u8 (E i).id)) (q1 : wr.cell? ⟨b, off + i * 5 + 1, none⟩ = some (.string (E i).host)) (q2 : wr.cell? ⟨b, off + i * 5 + 2, none⟩ = some (.int .u16 (E i).port)) (q3 : wr.cell? ⟨b, off + i * 5 + 3, none⟩ = some (.bool (E i).held)) (q4 : wr.cell? ⟨b, off + i * 5 + 4, none⟩ = some (.int .u8 (E i).own)) {x0 x1 x2 x3 x5 x6 x7 x8 x9 x10 x11 x12 x13 x14 x15 x16 x17 x18 x19 x20 x21 x22 x23 x24 x25 x26 x27 x28 x29 x30 x31 x32 x33 x34 x35 x37 x39 x40 x41 x42 x43 x44 x45 x46 x47 x48 x49 x50 x51 x52 x53 x54 x55 x56 x57 x58 x59 x60 x61 x62 x63 x64 x65 x66 x67 x68 x69 x70 x71 x72 x73 x74 x75 x76 x77 x78 x79 : Value} (K : Act → World → Prop)
    (hK : ∀ (y7 y8 y9 y10 y40 y41 y42 y43 y44 y45 y46 y47 y48 y49 y50 y51 y52 y53 y54 y55 y56 y57 y58 y59 y60 y61 y62 y63 y64 y65 y66 y67 y68 y69 y70 y71 y72 y73 y74 y75 y76 y77 : Value) (wy : World) (v' : Nat → Value) (cs' : Nat → List Value), T1 E B L w wy (i + 1) F Sb v' cs' → K { tmps := #[x0, x1, x2, x3, .pointer (some ⟨B + 1 + 1 + 1, 0, none⟩), x5, x6, y7, y8, y9, y10, x11, x12, x13, x14, x15, x16, x17, x18, x19, x20, x21, x22, x23, x24, x25, x26, x27, x28, x29, x30, x31, x32, x33, x34, x35, .slice (some ⟨b, off, none⟩) nn c0, x37, .int .i64 (i : Nat), x39, y40, y41, y42, y43, y44, y45, y46, y47, y48, y49, y50, y51, y52, y53, y54, y55, y56, y57, y58, y59, y60, y61, y62, y63, y64, y65, y66, y67, y68, y69, y70, y71, y72, y73, y74, y75, y76, y77, x78, x79], defers := [] } wy) :
    Code.wp Yba.prog bX (only K) { tmps := #[x0, x1, x2, x3, .pointer (some ⟨B + 1 + 1 + 1, 0, none⟩), x5, x6, x7, x8, x9, x10, x11, x12, x13, x14, x15, x16, x17, x18, x19, x20, x21, x22, x23, x24, x25, x26, x27, x28, x29, x30, x31, x32, x33, x34, x35, .slice (some ⟨b, off, none⟩) nn c0, x37, .int .i64 (i : Nat), x39, x40, x41, x42, x43, x44, x45, x46, x47, x48, x49, x50, x51, x52, x53, x54, x55, x56, x57, x58, x59, x60, x61, x62, x63, x64, x65, x66, x67, x68, x69, x70, x71, x72, x73, x74, x75, x76, x77, x78, x79], defers := [] } wr := by
  rw [bX_eq]
  obtain ⟨w1, hw1⟩ : ∃ x, wr.alloc (.cells (enR (E i)) 31) = x := ⟨_, rfl⟩
  obtain ⟨w2, hw2⟩ : ∃ x, w1.alloc (.cells (adC (E i)).toArray 33) = x := ⟨_, rfl⟩
  obtain ⟨w3, hw3⟩ : ∃ x, w2.alloc (.cells (enC (E i) none).toArray 62) = x := ⟨_, rfl⟩
  have s1 : w1.heap.size = wr.heap.size + 1 := by rw [← hw1]; simp
  have s2 : w2.heap.size = wr.heap.size + 2 := by rw [← hw2]; simp [s1]
  have a7 : w1.heap[wr.heap.size]? = some (.cells (enR (E i)) 31 (0, 0)) := by rw [← hw1]; exact heap_alloc_new _ _
  have a7' : w2.heap[wr.heap.size]? = some (.cells (enR (E i)) 31 (0, 0)) := by rw [← hw2, Below.heap_alloc _ _ _ (by omega)]; exact a7
  have a8 : w2.heap[w1.heap.size]? = some (.cells (adC (E i)).toArray 33 (0, 0)) := by rw [← hw2]; exact heap_alloc_new _ _
  have a7'' : w3.heap[wr.heap.size]? = some (.cells (enR (E i)) 31 (0, 0)) := by rw [← hw3, Below.heap_alloc _ _ _ (by omega)]; exact a7'
  have a8' : w3.heap[w1.heap.size]? = some (.cells (adC (E i)).toArray 33 (0, 0)) := by rw [← hw3, Below.heap_alloc _ _ _ (by omega)]; exact a8
  have a9 : w3.heap[w2.heap.size]? = some (.cells (enC (E i) none).toArray 62 (0, 0)) := by rw [← hw3]; exact heap_alloc_new _ _
  have bx : Below wr.heap.size wr w3 := by rw [← hw3, ← hw2, ← hw1]; exact al (al (al (Below.refl _ _) _) _) _
  have s3 : w3.heap.size = wr.heap.size + 3 := by rw [← hw3]; simp [s2]
  have hs3 : (E i).own % 3 < 3 := Nat.mod_lt _ (by omega)
  have fin : ∀ (p : Option Addr) (wc : World), p.isSome = (E i).held → Below wr.heap.size wr wc → wc.heap[wr.heap.size]? = some (.cells (enR (E i)) 31 (0, 0)) → wc.heap[w2.heap.size]? = some (.cells (enC (E i) p).toArray 62 (0, 0)) → ∀ (y40 y41 y42 y43 y44 y45 y46 y47 y48 y49 y50 y51 y52 y53 y54 y55 y56 y57 y58 y59 y60 y61 : Value), Code.wp Yba.prog ((headC (dropC 4 bX)).seq (dropC 5 bX)) (only K) { tmps := #[x0, x1, x2, x3, .pointer (some ⟨B + 1 + 1 + 1, 0, none⟩), x5, x6, .pointer (some ⟨wr.heap.size, 0, none⟩), .pointer (some ⟨w1.heap.size, 0, none⟩), .pointer (some ⟨w2.heap.size, 0, none⟩), x10, x11, x12, x13, x14, x15, x16, x17, x18, x19, x20, x21, x22, x23, x24, x25, x26, x27, x28, x29, x30, x31, x32, x33, x34, x35, .slice (some ⟨b, off, none⟩) nn c0, x37, .int .i64 (i : Nat), x39, y40, y41, y42, y43, y44, y45, y46, y47, y48, y49, y50, y51, y52, y53, y54, y55, y56, y57, y58, y59, y60, y61, x62, x63, x64, x65, x66, x67, x68, x69, x70, x71, x72, x73, x74, x75, x76, x77, x78, x79], defers := [] } wc := by
    intro p wc hp hbx h7 h9 y40 y41 y42 y43 y44 y45 y46 y47 y48 y49 y50 y51 y52 y53 y54 y55 y56 y57 y58 y59 y60 y61
    refine wp_seq (wp_use (b4r15 (E i) wr.heap.size (B + 1 + 1 + 1) _ (Sb ((E i).own % 3)) wc h7 hown rfl hs3 ((HT.below hbx).ss _ hs3) _ ?_))
    intro y62 y63 y64 y65 y66 y67
    refine b4r16 E B L w wr wc i _ w2.heap.size F Sb v cs p HT hs3 rfl hp hbx hi h9 K ?_
    intro y68 y69 y70 y71 y72 y73 y74 y75 y76 y77 wy v' cs' hT'
    exact hK _ _ _ _ y40 y41 y42 y43 y44 y45 y46 y47 y48 y49 y50 y51 y52 y53 y54 y55 y56 y57 y58 y59 y60 y61 y62 y63 y64 y65 y66 y67 y68 y69 y70 y71 y72 y73 y74 y75 y76 y77 wy v' cs' hT'
  refine wp_seq (wp_use (b4r10 (E i) b off nn c0 i wr hin q0 q1 q2 q3 q4 _ ?_))
  intro y40 y41
  rw [hw1]
  refine wp_seq (wp_use (b4r11 (E i) wr.heap.size w1 a7 _ ?_))
  intro y42 y43 y44 y45 y46 y47 y48 y49
  rw [hw2]
  refine wp_seq (wp_use (b4r12 (E i) wr.heap.size w1.heap.size w2 a7' a8 _ ?_))
  intro y50 y51 y52 y53 y54 y55
  rw [hw3]
  refine wp_seq (wp_use (wp_seq (wp_use (b4r13 (E i) wr.heap.size w3 a7'' _ ?_))))
  intro y56
  refine wp_cond (t := (E i).held) (by kernel_rfl) ?_
  cases hh : (E i).held with
  | false =>
    refine wp_skip ?_
    exact fin none w3 (by rw [hh]; rfl) bx a7'' a9 y40 y41 y42 y43 y44 y45 y46 y47 y48 y49 y50 y51 y52 y53 y54 y55 y56 _ x58 x59 x60 x61
  | true =>
    refine wp_use (b4r14 (E i) w1.heap.size w2.heap.size w3 a8' a9 _ ?_)
    intro y58 y59 y60 y61
    have e9 : (w3.alloc (.cells (heC (E i)) 67)).heap[w2.heap.size]? = some (.cells (enC (E i) none).toArray 62 (0, 0)) := (Below.heap_alloc _ _ _ (by omega)).trans a9
    have e7 : (w3.alloc (.cells (heC (E i)) 67)).heap[wr.heap.size]? = some (.cells (enR (E i)) 31 (0, 0)) := (Below.heap_alloc _ _ _ (by omega)).trans a7''
    refine fin (some ⟨w3.heap.size, 0, none⟩) _ (by rw [hh]; rfl) ((al bx _).setCell (by show wr.heap.size ≤ w2.heap.size; omega) _) ((Below.heap_setCell _ _ _ _ (by show wr.heap.size ≠ w2.heap.size; omega)).trans e7) ?_ y40 y41 y42 y43 y44 y45 y46 y47 y48 y49 y50 y51 y52 y53 y54 y55 y56 _ y58 y59 y60 y61
    rw [row_set e9, enC_set]
end Go.Proofs.Ybulkblzu

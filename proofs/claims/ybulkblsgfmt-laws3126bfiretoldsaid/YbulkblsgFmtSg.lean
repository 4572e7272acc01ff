import Derived.Test.YbulkblsgFmtSa
import Derived.Shelf.Small.Bits
namespace Go.Proofs.YbulkblsgFmt
open Go.RowKit Go.Sort
set_option linter.unusedVariables false
set_option linter.unusedSimpArgs false
variable {H : Nat} {rv : Value} {N : Nat} {lt : Int → Int → Bool} {S : Array Int → World → Prop}
def Bx (B : Nat) (w : World) : Prop := ∃ k : Int, w.cell? ⟨B, 0, none⟩ = some (.int .i64 k) ∧ w.frozen? ⟨B, 0, none⟩ = false
def Two (a b x y : Nat) : Prop := (x = a ∧ y = b) ∨ (x = b ∧ y = a)
set_option maxHeartbeats 2000000 in
set_option maxRecDepth 100000 in
theorem order2_any (X : Srt H rv N lt S) (B a b : Nat) (d : Array Int) (w : World) (hS : S d w) (hB : H ≤ B) (hx : Bx B w) (ha : a < N) (hb : b < N) :
    Calls Ybaf.prog 63 #[.iface 83 rv, .int .i64 (a : Nat), .int .i64 (b : Nat), .pointer (some ⟨B, 0, none⟩)] w fun e w' => ∃ x y : Nat, e = .returned (.tuple #[.int .i64 (x : Nat), .int .i64 (y : Nat)]) ∧ Two a b x y ∧ S d w' ∧ Bx B w' := by
  have hsz := X.small
  have mL := X.mless; have eL := e103
  obtain ⟨k, hk, hf⟩ := hx
  go_enter Ybaf.func63, Ybaf.ntmps63
  go_wp2_with (first
      | (refine (X.less d _ _ _ (by assumption) (by omega) (by omega)).mono ?_; rintro e w2 ⟨rfl, h2, h3⟩; have c2 := (h3 ⟨B, 0, none⟩ hB).1.trans hk; have f2 := (h3 ⟨B, 0, none⟩ hB).2.trans hf))
  · go_ret2
    exact ⟨b, a, rfl, Or.inr ⟨rfl, rfl⟩, X.set _ _ ⟨B, 0, none⟩ _ h2 hB, _, World.cell?_setCell_same _ _ _ c2, by rw [World.frozen?_setCell]; exact f2⟩
  · go_ret2
    exact ⟨a, b, rfl, Or.inl ⟨rfl, rfl⟩, h2, _, c2, f2⟩
set_option maxHeartbeats 2000000 in
set_option maxRecDepth 100000 in
theorem median_any (X : Srt H rv N lt S) (B a b c : Nat) (x y z : Int) (d : Array Int) (w : World) (hx : x = (a : Nat)) (hy : y = (b : Nat)) (hz : z = (c : Nat)) (hS : S d w) (hB : H ≤ B) (hbx : Bx B w) (ha : a < N) (hb : b < N) (hc : c < N) :
    Calls Ybaf.prog 60 #[.iface 83 rv, .int .i64 x, .int .i64 y, .int .i64 z, .pointer (some ⟨B, 0, none⟩)] w fun e w' => ∃ m : Nat, e = .returned (.int .i64 (m : Nat)) ∧ (m = a ∨ m = b ∨ m = c) ∧ S d w' ∧ Bx B w' := by
  subst hx hy hz
  have hsz := X.small
  go_enter Ybaf.func60, Ybaf.ntmps60
  go_wp2_with (first
      | (refine (order2_any X B _ _ d _ hS hB hbx (by omega) (by omega)).mono ?_; rintro e w2 ⟨x1, y1, rfl, t1, hS1, hB1⟩
         have n1 : x1 < N ∧ y1 < N := by rcases t1 with ⟨rfl, rfl⟩ | ⟨rfl, rfl⟩ <;> omega
         clear hS hbx)
      | (refine (order2_any X B _ _ d _ hS1 hB hB1 (by omega) (by omega)).mono ?_; rintro e w3 ⟨x2, y2, rfl, t2, hS2, hB2⟩
         have n2 : x2 < N ∧ y2 < N := by rcases t2 with ⟨rfl, rfl⟩ | ⟨rfl, rfl⟩ <;> omega
         clear hS1 hB1)
      | (refine (order2_any X B _ _ d _ hS2 hB hB2 (by omega) (by omega)).mono ?_; rintro e w4 ⟨x3, y3, rfl, t3, hS3, hB3⟩
         clear hS2 hB2))
  go_ret
  refine ⟨y3, rfl, ?_, hS3, hB3⟩
  unfold Two at t1 t2 t3
  omega
set_option maxHeartbeats 2000000 in
set_option maxRecDepth 100000 in
theorem medadj_any (X : Srt H rv N lt S) (B a : Nat) (x : Int) (d : Array Int) (w : World) (hx : x = (a : Nat)) (hS : S d w) (hB : H ≤ B) (hbx : Bx B w) (ha : a + 1 < N) (ha0 : 1 ≤ a) :
    Calls Ybaf.prog 59 #[.iface 83 rv, .int .i64 x, .pointer (some ⟨B, 0, none⟩)] w fun e w' => ∃ m : Nat, e = .returned (.int .i64 (m : Nat)) ∧ (a - 1 ≤ m ∧ m ≤ a + 1) ∧ S d w' ∧ Bx B w' := by
  subst hx
  have hsz := X.small
  go_enter Ybaf.func59, Ybaf.ntmps59
  go_wp2_with (first
      | (refine (median_any X B (a - 1) a (a + 1) _ _ _ d _ (by omega) (by omega) (by omega) hS hB hbx (by omega) (by omega) (by omega)).mono ?_; rintro e w2 ⟨m, rfl, t1, hS1, hB1⟩))
  go_ret
  exact ⟨m, rfl, by omega, hS1, hB1⟩
end Go.Proofs.YbulkblsgFmt

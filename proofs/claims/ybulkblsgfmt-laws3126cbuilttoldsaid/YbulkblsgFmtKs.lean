import Derived.Test.YbulkblsgFmtLeaf5
namespace Go.Proofs.YbulkblsgFmt
open Go.RowKit Go.Extern.Stop Go.Stop Go.Extern
set_option linter.unusedVariables false
/-- errCut's error, its row told. -/
theorem errCut_row (F : Interp) (s : ByteArray) (w : World) (hF : F.answers w.tape) :
    Calls Ybaf.prog 27 #[.string s] w fun e w' => ∃ b cs t, e = .returned (.iface 108 (.pointer (some ⟨b, 0, none⟩))) ∧ w.heap.size ≤ b ∧ w'.heap[b]? = some (.cells cs t (0, 0)) ∧ Below w.heap.size w w' := by
  have hF' := answers_open hF
  go_enter Ybaf.func27, Ybaf.ntmps27
  go_wp2
  apply rows_value Ybaf.nextTurns
  case hr =>
    go_simp
    exact ⟨rfl, rfl⟩
  case h =>
    go_wp2
    go_ret
    exact ⟨_, _, _, rfl, by omega, by have := heap_alloc_new (w.alloc (.cells #[.iface 9 (.string s)] 20)) (.cells #[Value.string (FmtStop.textOf (F "fmt.errorf" [[37, 115, 32, 104, 101, 97, 100, 101, 114, 32, 99, 117, 116, 32, 115, 104, 111, 114, 116, 32, 98, 121, 32, 116, 104, 101, 32, 115, 110, 97, 112, 115, 104, 111, 116, 32, 108, 101, 110, 103, 116, 104], Ybaf.shape9, FmtStop.pack s.data.toList] 0))] 110); rw [World.size_alloc] at this; exact this, (al (al (Below.refl _ _) _) _).drew⟩
def knd (k : Nat) : Nat := if k % 5 = 0 then 0 else if k % 5 = 1 then 43 else if k % 5 = 2 then 44 else if k % 5 = 3 then 51 else 60
def siz (k l : Nat) : Nat := if k = 44 then 8 else if k = 51 then (l + 2) * 4 else (l + 1) * 8
theorem kind_any (k : Nat) (w : World) : Calls Ybaf.prog 12 #[.int .u8 (k : Nat)] w fun e w' => e = .returned (.int .u8 ((knd k : Nat) : Int)) ∧ w' = w := by
  obtain ⟨r, hr⟩ : ∃ r, r = knd k := ⟨_, rfl⟩
  rw [← hr]
  go_enter Ybaf.func12, Ybaf.ntmps12
  go_wp2_with fail
  all_goals
    go_ret
    refine ⟨?_, rfl⟩
    show Ending.returned (Value.int .u8 _) = _
    congr 2
    rw [hr]
    unfold knd
    simp only [beq_iff_eq, beq_eq_false_iff_ne, ne_eq] at *
    (repeat' split) <;> omega
theorem size_any (k l : Nat) (hl : l ≤ 255) (w : World) : Calls Ybaf.prog 13 #[.int .u8 (k : Nat), .int .u8 (l : Nat)] w fun e w' => e = .returned (.int .i64 ((siz k l : Nat) : Int)) ∧ w' = w := by
  obtain ⟨r, hr⟩ : ∃ r, r = siz k l := ⟨_, rfl⟩
  rw [← hr]
  go_enter Ybaf.func13, Ybaf.ntmps13
  go_wp2_with fail
  all_goals
    go_ret
    refine ⟨?_, rfl⟩
    show Ending.returned (Value.int .i64 _) = _
    congr 2
    rw [hr]
    unfold siz
    simp only [beq_iff_eq, beq_eq_false_iff_ne, ne_eq] at *
    (repeat' split) <;> omega
end Go.Proofs.YbulkblsgFmt

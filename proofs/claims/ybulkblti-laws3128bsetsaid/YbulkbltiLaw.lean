import Derived.Test.YbulkbltiP4
import Derived.Deep.DeepCutAuto
import Derived.Deep.MidRow
import Derived.Deep.CutBlock
import Derived.Deep.LoopGhost
namespace Go.Proofs.Ybulkblti
open Go.RowKit Go.Maps Go.WideMaps
set_option linter.unusedVariables false

set_option maxRecDepth 100000 in
set_option maxHeartbeats 4000000 in
theorem law_main (a0 a1 : Option Addr) (nn c0 np c1 : Nat) (S PN : Nat → ByteArray) (PB : Nat → Int) (name : ByteArray) (sel : Nat) (clear : Bool) (kept ver : Int) (w : World)
    (hnn : nn ≤ 1024) (hnp : np ≤ 1024) (hname : name.size ≤ maxLen) (hsel : sel ≤ 255)
    (h0 : ∀ k, k < nn → ∃ b off, a0 = some ⟨b, off, none⟩ ∧ b < w.heap.size ∧ w.cell? ⟨b, off + k, none⟩ = some (.string (S k)) ∧ (S k).size ≤ maxLen)
    (h1 : ∀ k, k < np → ∃ b off, a1 = some ⟨b, off, none⟩ ∧ b < w.heap.size ∧ w.cell? ⟨b, off + k * 2, none⟩ = some (.string (PN k)) ∧ w.cell? ⟨b, off + k * 2 + 1, none⟩ = some (.int .i64 (PB k)) ∧ (PN k).size ≤ maxLen) :
    Calls Yba.prog 3 #[.slice a0 nn c0, .slice a1 np c1, .string name, .int .u8 sel, .bool clear, .int .i64 kept, .int .u64 ver] w fun e w' => e = .returned (.bool true) ∧ Below w.heap.size w w' := by
  have d0 : decide ((1024 : Int) < (nn : Int)) = false := by simp; omega
  have d1 : decide ((1024 : Int) < (np : Int)) = false := by simp; omega
  have H0 := hid h0
  have H1 := hid h1
  clear h0 h1
  go_enter Yba.func3, Yba.ntmps3
  go_upto_block 0 with fail
  by_cases h0 : sel % 3 = 0
  · have e0' : (sel : Int) % 3 = 0 := by omega
    by_cases hp0 : np = 0
    · subst hp0
      go_upto_region 11 with fail
      rename_i Ka hKa
      exact part4 _ _ _ _ _ _ S PN PB clear kept ver w w.heap.size _ hnn hnp hname rfl H0.out H1.out w rfl Ka _ rfl hKa
    · have hp : sel / 3 % np < np := Nat.mod_lt _ (by omega)
      obtain ⟨b, off, rfl, hb, hc0, hc1, hlen⟩ := H1.out _ hp
      have hp1 : (0 : Int) < (np : Int) := by omega
      have hr1 : 0 ≤ (sel : Int) / 3 % (np : Int) := Int.emod_nonneg _ (by omega)
      have hr2 : (sel : Int) / 3 % (np : Int) < (np : Int) := Int.emod_lt_of_pos _ hp1
      go_upto_region 11 with fail
      rename_i Ka hKa
      exact part4 _ _ _ _ _ _ S PN PB clear kept ver w w.heap.size _ hnn hnp hlen rfl H0.out H1.out w rfl Ka _ rfl hKa
  · have e0' : ¬ (sel : Int) % 3 = 0 := by omega
    by_cases h1 : sel % 3 = 1
    · have e1' : (sel : Int) % 3 = 1 := by omega
      by_cases hp0 : nn = 0
      · subst hp0
        go_upto_region 11 with fail
        rename_i Ka hKa
        exact part4 _ _ _ _ _ _ S PN PB clear kept ver w w.heap.size _ hnn hnp hname rfl H0.out H1.out w rfl Ka _ rfl hKa
      · have hp : sel / 3 % nn < nn := Nat.mod_lt _ (by omega)
        obtain ⟨b, off, rfl, hb, hc0, hlen⟩ := H0.out _ hp
        have hp1 : (0 : Int) < (nn : Int) := by omega
        have hr1 : 0 ≤ (sel : Int) / 3 % (nn : Int) := Int.emod_nonneg _ (by omega)
        have hr2 : (sel : Int) / 3 % (nn : Int) < (nn : Int) := Int.emod_lt_of_pos _ hp1
        go_upto_region 11 with fail
        rename_i Ka hKa
        exact part4 _ _ _ _ _ _ S PN PB clear kept ver w w.heap.size _ hnn hnp hlen rfl H0.out H1.out w rfl Ka _ rfl hKa
    · have e1' : ¬ (sel : Int) % 3 = 1 := by omega
      go_upto_region 11 with fail
      rename_i Ka hKa
      exact part4 _ _ _ _ _ _ S PN PB clear kept ver w w.heap.size _ hnn hnp hname rfl H0.out H1.out w rfl Ka _ rfl hKa

end Go.Proofs.Ybulkblti

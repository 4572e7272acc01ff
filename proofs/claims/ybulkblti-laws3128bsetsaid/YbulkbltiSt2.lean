import Derived.Test.YbulkbltiSt
namespace Go.Proofs.Ybulkblti
open Go.RowKit Go.Maps Go.WideMaps
set_option linter.unusedVariables false

section
variable {B Pb N cm pm : Nat} {w x x' : World} {nO nN kept ver : Int} {nc npp : Nat} {gc gp : Lit → Option Value} {sc sp np : Nat} {pre : Nat → Option Value}
theorem Fin'.below (h : Fin' B Pb N cm pm w x nO nN kept ver nc npp gc gp sc sp np pre) (hb : Below x.heap.size x x') : Fin' B Pb N cm pm w x' nO nN kept ver nc npp gc gp sc sp np pre :=
  ⟨h.st.below h.st.size hb, h.ic.of_block (hb.block N h.ic.lt), h.mc.below hb, h.mp.below hb, fun i hi => by rw [World.cell?_of_block (a := ⟨Pb, i, none⟩) (hb.block Pb h.lPb)]; exact h.pr i hi, Nat.lt_of_lt_of_le h.lPb hb.size⟩
theorem Fin'.setO (h : Fin' B Pb N cm pm w x nO nN kept ver nc npp gc gp sc sp np pre) (l1 : B + 2 ≤ N) (l2 : B + 2 ≤ cm) (l3 : B + 2 ≤ pm) (l4 : B + 2 ≤ Pb) (n' : Int) : Fin' B Pb N cm pm w (x.setCell ⟨B, 0, none⟩ (.int .i64 n')) n' nN kept ver nc npp gc gp sc sp np pre :=
  h.turn h.st.setO (by simp [World.setCell]) (fun c _ hc => Below.heap_setCell _ _ _ _ (by show c ≠ B; omega)) l1 l2 l3 l4
theorem Fin'.setN (h : Fin' B Pb N cm pm w x nO nN kept ver nc npp gc gp sc sp np pre) (l1 : B + 2 ≤ N) (l2 : B + 2 ≤ cm) (l3 : B + 2 ≤ pm) (l4 : B + 2 ≤ Pb) (n' : Int) : Fin' B Pb N cm pm w (x.setCell ⟨B + 1, 0, none⟩ (.int .i64 n')) nO n' kept ver nc npp gc gp sc sp np pre :=
  h.turn h.st.setN (by simp [World.setCell]) (fun c _ hc => Below.heap_setCell _ _ _ _ (by show c ≠ B + 1; omega)) l1 l2 l3 l4
end

theorem kept_no {kept : Int} {o : Option Value} (h : o.isSome = false) : keptO kept o = kept := by unfold keptO; rw [h]; rfl
theorem kept_yes {kept n : Int} {o : Option Value} (h : o.isSome = true) (hn : numO o = n) : keptO kept o = wrap64 (kept - n) := by unfold keptO; rw [h, hn]; rfl
theorem szDel_no {n : Nat} {o : Option Value} (h : o.isSome = false) : szDel o n = n := by unfold szDel; rw [h]; rfl
theorem szDel_yes {n : Nat} {o : Option Value} (h : o.isSome = true) : szDel o n = n - 1 := by unfold szDel; rw [h]; rfl
theorem szNew_tt {n : Nat} {o : Option Value} (h : o.isSome = true) : szNew true o n = n - 1 := by show szDel o n = _; exact szDel_yes h
theorem szNew_tf {n : Nat} {o : Option Value} (h : o.isSome = false) : szNew true o n = n := by show szDel o n = _; exact szDel_no h
theorem szNew_ft {n : Nat} {o : Option Value} (h : o.isSome = true) : szNew false o n = n := by show szPut o n = _; unfold szPut; rw [h]; rfl
theorem szNew_ff {n : Nat} {o : Option Value} (h : o.isSome = false) : szNew false o n = n + 1 := by show szPut o n = _; unfold szPut; rw [h]; rfl
theorem newO_getD (clear : Bool) (b : Nat) : (newO clear b).getD .nilFunc = newV clear b := by cases clear <;> rfl
theorem newO_isSome (clear : Bool) (b : Nat) : (newO clear b).isSome = !clear := by cases clear <;> rfl

theorem kS_eq_of {a b : ByteArray} (h : (a.toList == b.toList) = true) : a = b := by
  rw [ByteArray.toList_eq, ByteArray.toList_eq] at h
  cases a; cases b; simpa using h
theorem kS_ne_of {a b : ByteArray} (h : (a.toList == b.toList) = false) : kS a ≠ kS b := by
  rw [ByteArray.toList_eq, ByteArray.toList_eq] at h
  simp [kS]; simpa using h
theorem new_call0 (B : Nat) (w x : World) (nO : Int) (h : St B w x nO 0) :
    Calls Yba.prog 5 #[.pointer none, .slice none 0 0, .pointer (some ⟨B + 1, 0, none⟩)] x fun e w' => e = .returned (.tuple #[.string ⟨#[110, 101, 119]⟩, .nilIface]) ∧ x.setCell ⟨B + 1, 0, none⟩ (.int .i64 1) = w' := by
  have q := new_call B w x nO 0 h
  rw [show wrap64 (0 + 1) = 1 by unfold wrap64; omega] at q
  exact q

end Go.Proofs.Ybulkblti

import Derived.Test.YbulkblzuShares
namespace Go.Proofs.Ybulkblzu
/-- The code behind the first n statements. -/
def dropC : Nat → Code → Code
  | n + 1, .seq _ b => dropC n b
  | _, c => c
def headC : Code → Code
  | .seq a _ => a
  | c => c
def tailC : Code → Code
  | .seq _ b => b
  | c => c
def blkC : Code → Code
  | .block _ b => b
  | c => c
def lupC : Code → Code
  | .loop b => b
  | c => c
def thnC : Code → Code
  | .cond _ a _ => a
  | c => c
def elsC : Code → Code
  | .cond _ _ b => b
  | c => c
/-- The piece leaves by its end alone, and there K holds. -/
abbrev only (K : Act → World → Prop) : Exit → Act → World → Prop := Exit.then K (fun _ _ _ => False)
theorem wp_use {P : Program} {c : Code} {Q : Exit → Act → World → Prop} {a : Act} {w : World} (h : c.wp P (only (fun a w => Q .normal a w)) a w) : c.wp P Q a w := by
  intro b k cs
  obtain ⟨e, a1, w1, hq, harr⟩ := h b k cs
  cases e with
  | normal => exact ⟨.normal, a1, w1, hq, harr⟩
  | _ => exact hq.elim
end Go.Proofs.Ybulkblzu

import Derived.Test.YbulkblsgFmtSm
namespace Go.Proofs.YbulkblsgFmt
open Go.RowKit Go.Sort
set_option linter.unusedVariables false
set_option linter.unusedSimpArgs false
variable {H0 : Nat} {rv : Value} {N : Nat} {lt : Int → Int → Bool} {S : Array Int → World → Prop}
set_option maxRecDepth 100000 in
set_option maxHeartbeats 1000000 in
theorem pdq_step (X : Srt H0 rv N lt S) (hO : SWO lt) (n : Nat) (IH : PdqOk rv lt S N n) (a0 b0 lim : Nat) (d : Array Int) (w : World) (hn : b0 - a0 = n) (hS : S d w) (hab : a0 ≤ b0) (hb : b0 ≤ N) (hB : Sort.Below lt a0 b0 d) (hlim : lim < 1000) :
    Calls Ybaf.prog 39 #[.iface 83 rv, .int .i64 ((a0 : Nat) : Int), .int .i64 ((b0 : Nat) : Int), .int .i64 ((lim : Nat) : Int)] w fun e w' => e = .returned (.tuple #[]) ∧ ∃ d', S d' w' ∧ PermIn a0 b0 d d' ∧ SortedIn lt a0 b0 d' := by
  have hds := X.size d w hS
  go_enter Ybaf.func39, Ybaf.ntmps39
  change Code.wp Ybaf.prog l39 _ _ _
  rw [Fm_of (N := 129) _ (by rfl)]
  generalize hf : (fun k => Array.getD _ k undef) = f
  have H : Has f [(0, .iface 83 rv), (1, .int .i64 ((a0 : Nat) : Int)), (2, .int .i64 ((b0 : Nat) : Int)), (3, .int .i64 ((lim : Nat) : Int))] := by
    subst hf
    exact ⟨by rfl, by rfl, by rfl, by rfl, trivial⟩
  clear hf
  rw [l39_0]
  refine wp_seq (wp_use (q0 w f _ ?_))
  intro f1 S1 e1
  refine wp_seq (wp_use (q1 w f1 _ ?_))
  intro f2 S2 e2
  have H1 : Has f1 [(8, .bool true), (0, .iface 83 rv), (1, .int .i64 ((a0 : Nat) : Int)), (2, .int .i64 ((b0 : Nat) : Int)), (3, .int .i64 ((lim : Nat) : Int))] := ⟨e1, H.keep S1⟩
  have H2 : Has f2 [(9, .bool true), (8, .bool true), (0, .iface 83 rv), (1, .int .i64 ((a0 : Nat) : Int)), (2, .int .i64 ((b0 : Nat) : Int)), (3, .int .i64 ((lim : Nat) : Int))] := ⟨e2, H1.keep S2⟩
  refine wp_block (wp_loop_ghost (fun k a' w' => ∃ (f : Nat → Value) (a b l : Nat) (wb wp : Bool) (dk : Array Int), a' = Fm 129 f ∧
    Has f [(0, .iface 83 rv), (1, .int .i64 ((a : Nat) : Int)), (2, .int .i64 ((b : Nat) : Int)), (3, .int .i64 ((l : Nat) : Int)), (8, .bool wb), (9, .bool wp)] ∧ k = b - a ∧ k ≤ n ∧ l < 1000 ∧ b ≤ N ∧ a ≤ b ∧ S dk w' ∧ Fin lt a0 b0 d a b dk) n
    ⟨f2, a0, b0, lim, true, true, d, rfl, ⟨H2.2.2.1, H2.2.2.2.1, H2.2.2.2.2.1, H2.2.2.2.2.2.1, H2.2.1, H2.1, trivial⟩, hn.symm, Nat.le_refl _, hlim, hb, hab, hS, ⟨by omega, hab, hB, fun R h1 h2 => ⟨h1, h2⟩⟩⟩ ?_)
  rintro k _ w0 ⟨f, a, b, l, wb, wp, dk, rfl, Hf, rfl, hkn, hl, hbN, hab1, hSk, hF⟩
  refine wp_block ?_
  refine pdqR X hO a0 b0 d a b l wb wp (fun a1 b1 l1 x1 d1 w1 h1 h2 => IH a1 b1 l1 x1 d1 w1 h1 (by omega)) hab1 hbN hl _ ?_ ?_ ?_ dk w0 hSk hF f Hf
  · intro f a' b' l' wb' wp' dk' w' Hf' hl' hba hbN' hab' hS' hF'
    exact ⟨b' - a', hba, f, a', b', l', wb', wp', dk', rfl, Hf', rfl, by omega, hl', hbN', hab', hS', hF'⟩
  · intro f a' b' l' wb' wp' dk' w' Hf' hl' hba hbN' hab' hS' hF'
    exact ⟨b' - a', hba, f, a', b', l', wb', wp', dk', rfl, Hf', rfl, by omega, hl', hbN', hab', hS', hF'⟩
  · intro f dk' w' hS' hp hs
    simp only [Exit.inBlock, Exit.then]
    refine bodyPost_ret (results_none rfl _ _ _) rfl ?_
    exact ⟨rfl, dk', hS', hp, hs⟩
theorem pdq_all (X : Srt H0 rv N lt S) (hO : SWO lt) (n : Nat) : PdqOk rv lt S N n := by
  induction n with
  | zero => intro a b lim x d w hx h; omega
  | succ n ih =>
    intro a b lim x d w hx h hS hab hb hB hl
    subst hx
    by_cases e : b - a < n
    · exact ih a b lim _ d w rfl e hS hab hb hB hl
    · exact pdq_step X hO n ih a b lim d w (by omega) hS hab hb hB hl
set_option maxRecDepth 100000 in
set_option maxHeartbeats 1000000 in
/-- sort.Sort over such a receiver. -/
theorem sort_any (X : Srt H0 rv N lt S) (hO : SWO lt) (d : Array Int) (w : World) (hS : S d w) :
    Calls Ybaf.prog 25 #[.iface 83 rv] w fun e w' => e = .returned (.tuple #[]) ∧ ∃ d', S d' w' ∧ PermIn 0 N d d' ∧ SortedIn lt 0 N d' := by
  have hsz := X.small
  have mN := X.mlen; have eN := e102
  have hds := X.size d w hS
  have hk : Lib.bitLen N ≤ 62 := Lib.bitLen_le N 62 (by omega) (by omega)
  have hlen := X.len d w hS
  have hB : Hid (Sort.Below lt 0 N d) := Or.inl rfl
  go_enter Ybaf.func25, Ybaf.ntmps25
  go_wp2_with (first
    | (refine hlen.mono ?_; rintro e w1 ⟨rfl, h1⟩)
    | (refine (len_any _ _ (by omega) (by omega)).mono ?_; rintro e w2 ⟨rfl, rfl⟩)
    | (refine (pdq_all X hO (N + 1) 0 N (Lib.bitLen N) _ d _ rfl (by omega) h1 (by omega) (Nat.le_refl _) hB.out (by omega)).mono ?_; rintro e w3 ⟨rfl, h3⟩))
  · refine bodyPost_ret (results_none rfl _ _ _) rfl ?_
    exact ⟨rfl, d, h1, permIn_refl _ _ _, fun i j a1 a2 a3 => by omega⟩
  · go_end0
    exact ⟨rfl, h3⟩
end Go.Proofs.YbulkblsgFmt

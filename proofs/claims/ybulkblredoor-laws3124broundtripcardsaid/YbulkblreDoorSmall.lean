import Derived.Test.YbulkblreDoorStr
import Derived.Laws.AppendOwnNone
import Derived.Laws.IdiomStrings
namespace Go.Proofs.YbulkblreDoor
open Go.RowKit
set_option linter.unusedVariables false
attribute [local go_sem] bs_size bs_append bs_toList bs_extract bs_get

/-- The suffixes' names. -/
def nm : Nat → List UInt8
  | 0 => [95, 97, 108, 112, 104, 97]
  | 1 => [95, 98, 101, 116, 97]
  | 2 => [95, 112, 114, 101]
  | 3 => [95, 114, 99]
  | _ => [95, 112]

theorem name_any (k : Nat) (w : World) (hk : k < 5) : Calls Ybad.prog 6 #[.int .i64 k] w fun e w' => e = .returned (.string (bs (nm k))) ∧ w = w' := by
  match k, hk with
  | 0, _ => go_enter Ybad.func6, Ybad.ntmps6; go_wp2; go_ret; exact ⟨rfl, rfl⟩
  | 1, _ => go_enter Ybad.func6, Ybad.ntmps6; go_wp2; go_ret; exact ⟨rfl, rfl⟩
  | 2, _ => go_enter Ybad.func6, Ybad.ntmps6; go_wp2; go_ret; exact ⟨rfl, rfl⟩
  | 3, _ => go_enter Ybad.func6, Ybad.ntmps6; go_wp2; go_ret; exact ⟨rfl, rfl⟩
  | 4, _ => go_enter Ybad.func6, Ybad.ntmps6; go_wp2; go_ret; exact ⟨rfl, rfl⟩
  | n + 5, h => omega

/-- The decimal digits, as the loop makes them. -/
def dloop : Nat → Nat → List UInt8 → List UInt8
  | 0, _, acc => acc
  | f + 1, x, acc => if x = 0 then acc else dloop f (x / 10) (UInt8.ofNat (48 + x % 10) :: acc)
def digs (n : Nat) : List UInt8 := if n = 0 then [48] else dloop 10 n []

theorem isDig_of (x : Nat) : isDig (UInt8.ofNat (48 + x % 10)) = true := by
  rw [isDig_iff]; simp; omega

theorem dloop_dig : ∀ f x acc, (∀ c ∈ acc, isDig c = true) → ∀ c ∈ dloop f x acc, isDig c = true
  | 0, _, _, h => h
  | f + 1, x, acc, h => by
    unfold dloop
    split
    · exact h
    · refine dloop_dig f _ _ fun c hc => ?_
      rcases List.mem_cons.1 hc with rfl | hc
      · exact isDig_of x
      · exact h c hc
theorem dloop_len : ∀ f x acc, acc.length ≤ (dloop f x acc).length ∧ (dloop f x acc).length ≤ acc.length + f
  | 0, _, _ => ⟨Nat.le_refl _, Nat.le_refl _⟩
  | f + 1, x, acc => by
    unfold dloop
    split
    · exact ⟨Nat.le_refl _, by omega⟩
    · have := dloop_len f (x / 10) (UInt8.ofNat (48 + x % 10) :: acc)
      simp only [List.length_cons] at this; omega
theorem digs_dig (n : Nat) : ∀ c ∈ digs n, isDig c = true := by
  unfold digs; split
  · simp [isDig]
  · exact dloop_dig _ _ _ (by simp)
theorem digs_len (n : Nat) : 0 < (digs n).length ∧ (digs n).length ≤ 10 := by
  unfold digs; split
  · simp
  · rename_i h
    have h1 := dloop_len 10 n []
    have h2 : dloop 10 n [] = dloop 9 (n / 10) [UInt8.ofNat (48 + n % 10)] := by rw [dloop, if_neg h]
    have h3 := dloop_len 9 (n / 10) [UInt8.ofNat (48 + n % 10)]
    rw [h2]; simp only [List.length_cons, List.length_nil] at h3; omega

theorem Ybad.info5 : (Ybad.prog.info? 5).map (fun i => (i.zero, i.size, i.bytes)) = some (some (.int .u8 0), 1, 1) := by kernel_rfl
theorem Ybad.info9 : (Ybad.prog.info? 9).map (fun i => (i.zero, i.size, i.bytes)) = some (some (.string ByteArray.empty), 1, 16) := by kernel_rfl

def byteVals (l : List UInt8) : List Value := l.map fun c => .int .u8 c.toNat

set_option maxHeartbeats 400000 in
theorem digits_any (n : Nat) (w : World) (hn : n ≤ 4294967295) : Calls Ybad.prog 8 #[.int .u32 n] w fun e w' => e = .returned (.string (bs (digs n))) ∧ Below w.heap.size w w' := by
  by_cases h0 : n = 0
  · subst h0
    go_enter Ybad.func8, Ybad.ntmps8
    go_wp2
    go_ret
    exact ⟨rfl, Below.refl _ _⟩
  · have HD : Hid (digs n = dloop 10 n []) := by show digs n = dloop 10 n []; unfold digs; rw [if_neg h0]
    have h0' : ((n : Int) == 0) = false := by simp; omega
    obtain ⟨i5, hi5, hz5, hs5, hb5⟩ := info_parts Ybad.info5
    go_enter Ybad.func8, Ybad.ntmps8
    go_wp2
    go_loopw [0, 3] (fun x v wr => ∃ (m f : Nat) (acc : List UInt8), x = .int .u32 (m : Nat) ∧ m ≤ n ∧ m < 10 ^ f ∧ Hid (dloop f m acc = dloop 10 n []) ∧ f + acc.length = 10 ∧ wr.ownsRow w.heap.size 5 1 v acc.length (byteVals acc) ∧ Below w.heap.size w wr ∧ (acc = [] → m = n ∧ v = .slice none 0 0)) (fun x _ _ => (intOf x).toNat)
    case atStart => exact ⟨n, 10, [], rfl, Nat.le_refl _, by omega, rfl, rfl, World.ownsRow_nil _ _ _ _, Below.refl _ _, fun _ => ⟨rfl, rfl⟩⟩
    case round =>
      obtain ⟨m, f, acc, rfl, hmn, hmf, hdl, hfa, hown, hbel, hnil⟩ := hrel
      have hsz := hbel.size
      by_cases hm : m = 0
      · subst hm
        have hne : acc ≠ [] := fun e => by have := (hnil e).1; omega
        have hpos : 0 < acc.length := List.length_pos_iff.2 hne
        obtain ⟨g, cap, rfl, hg1, hg2⟩ := hown.form hpos
        have hres : Hid (acc = dloop 10 n []) := by
          have := hdl.out
          cases f with
          | zero => exact this
          | succ f => rw [dloop, if_pos rfl] at this; exact this
        have hcv := run_convert_bytes_back (P := Ybad.prog) wr 23 9 5 ⟨g, 0, none⟩ cap acc Ybad.underlying23 Ybad.underlying5 Ybad.underlying9 (fun j hj => by
          have := hown.cells (g := g) rfl j (.int .u8 (acc[j].toNat : Int)) (by simp [byteVals, List.getElem?_eq_getElem hj])
          exact this)
        clear hmf hown hnil
        go_wp2
        go_ret
        exact ⟨by rw [HD.out, ← hres.out]; rfl, hbel⟩
      · obtain ⟨f', rfl⟩ : ∃ f', f = f' + 1 := ⟨f - 1, by
          rcases Nat.eq_zero_or_pos f with e | e
          · subst e; simp at hmf; omega
          · omega⟩
        have hpow : m / 10 < 10 ^ f' := by rw [Nat.pow_succ] at hmf; omega
        have hm' : ¬ ((m : Int) ≤ 0) := by omega
        have hdl' : Hid (dloop f' (m / 10) (UInt8.ofNat (48 + m % 10) :: acc) = dloop 10 n []) := by
          have := hdl.out
          rw [dloop, if_neg hm] at this; exact this
        have hbyte : Hid (((UInt8.ofNat (48 + m % 10)).toNat : Int) = 48 + (m : Int) % 10) := by
          show ((UInt8.ofNat (48 + m % 10)).toNat : Int) = 48 + (m : Int) % 10
          simp; omega
        clear hmf hdl
        cases acc with
        | nil =>
          obtain ⟨hmn', rfl⟩ := hnil rfl
          clear hnil hmn' hown
          go_wp2_with (at_builtin; refine wpList_append_own_none rfl (.tmp 12) (.tmp 13) 23 rfl w.heap.size 5 i5 1 Ybad.underlying23 hi5 _ 1 _ rfl (World.ownsRow_lit wr #[.int .u8 (48 + (m : Int) % 10)] 1 hsz (by unfold maxLen; omega) rfl) rfl ?_)
          go_roundw
          case rel =>
            refine ⟨m / 10, f', [UInt8.ofNat (48 + m % 10)], by go_num, by omega, hpow, hdl', by simp at hfa ⊢; omega, ?_, hbel.alloc hsz _, fun h => by cases h⟩
            have := World.ownsRow_lit (base := w.heap.size) (e := 5) (size := 1) wr #[.int .u8 (48 + (m : Int) % 10)] 1 hsz (by unfold maxLen; omega) rfl
            have e : byteVals [UInt8.ofNat (48 + m % 10)] = [.int .u8 (48 + (m : Int) % 10)] := by show [Value.int .u8 ((UInt8.ofNat (48 + m % 10)).toNat : Int)] = _; rw [hbyte.out]
            rw [e]; exact this
          case measure => simp [intOf]; omega
        | cons a acc =>
          obtain ⟨g, cap, rfl, hg1, hg2⟩ := hown.form (by simp)
          clear hnil
          have e : byteVals (UInt8.ofNat (48 + m % 10) :: a :: acc) = [.int .u8 (48 + (m : Int) % 10)] ++ byteVals (a :: acc) := by show Value.int .u8 ((UInt8.ofNat (48 + m % 10)).toNat : Int) :: byteVals (a :: acc) = _; rw [hbyte.out]; rfl
          have E := (show Hid _ from e)
          clear e
          have hla : (a :: acc).length ≤ 10 := by omega
          go_wp2_with (at_builtin; refine wpList_append_lies _ rfl (.tmp 12) (.tmp 13) 23 rfl w.heap.size 5 i5 (.int .u8 0) 1 1 Ybad.underlying23 hi5 hz5 hs5 hb5 rfl (by decide) _ 1 _ rfl (World.ownsRow_lit wr #[.int .u8 (48 + (m : Int) % 10)] 1 hsz (by unfold maxLen; omega) rfl) ⟨g, 0, none⟩ (a :: acc).length cap (byteVals (a :: acc)) rfl (by simp [byteVals]) ((hown.alloc _).cells rfl) (by intro u hu; simp only [byteVals, List.mem_map] at hu; obtain ⟨x, _, rfl⟩ := hu; rfl) (by simp) (by unfold maxLen; omega) (by omega) (by simp; omega) (wr.heap.size + 1) (by simp) ?_; intro g2 cap2 w2 hown2 hgrow2 hat2 hlt2)
          go_roundw
          case rel =>
            refine ⟨m / 10, f', UInt8.ofNat (48 + m % 10) :: a :: acc, by go_num, by omega, hpow, hdl', by simp at hfa ⊢; omega, ?_, ?_, fun h => by cases h⟩
            · rw [E.out]
              have e2 : (UInt8.ofNat (48 + m % 10) :: a :: acc).length = 1 + (a :: acc).length := by simp; omega
              rw [e2]; exact hown2
            · exact (hbel.alloc hsz _).grown hgrow2 (by simp; omega) (fun k hk => by have := Option.some.inj hk; simp at this; omega)
          case measure => simp [intOf]; omega

theorem own_below {w w' : World} {base : Nat} {e : TypeId} {size : Nat} {v : Value} {n : Nat} {xs : List Value} (h : w.ownsRow base e size v n xs) (hb : Below w.heap.size w w') : w'.ownsRow base e size v n xs := by
  obtain ⟨h1, h2⟩ := h
  refine ⟨h1, ?_⟩
  rcases h2 with h2 | ⟨g, cap, cur, hv, hg, hh, r⟩
  · exact Or.inl h2
  · have hlt : g < w.heap.size := (Array.getElem?_eq_some_iff.1 hh).1
    exact Or.inr ⟨g, cap, cur, hv, hg, by rw [hb.block g hlt]; exact hh, r⟩

/-- Strings as cells. -/
def strVals (l : List (List UInt8)) : List Value := l.map fun x => .string (bs x)
theorem strVals_len (l : List (List UInt8)) : (strVals l).length = l.length := by simp [strVals]
theorem strVals_append (a b : List (List UInt8)) : strVals (a ++ b) = strVals a ++ strVals b := by simp [strVals]
theorem strVals_one : ∀ (l : List (List UInt8)) (u : Value), u ∈ strVals l → u.oneCell' = true := by
  intro l u hu; simp only [strVals, List.mem_map] at hu; obtain ⟨x, _, rfl⟩ := hu; rfl
theorem strVals_get (l : List (List UInt8)) (j : Nat) (h : j < l.length) : (strVals l)[j]? = some (.string (bs l[j])) := by simp [strVals, List.getElem?_eq_getElem h]

set_option maxHeartbeats 400000 in
/-- Two slices of the same strings. -/
theorem same_any (l : List (List UInt8)) (a b : Nat) (ca cb ba bb : Nat) (w : World) (hl : l.length ≤ 1000000) (h1 : w.ownsRow ba 9 1 (.slice (some ⟨a, 0, none⟩) l.length ca) l.length (strVals l)) (h2 : w.ownsRow bb 9 1 (.slice (some ⟨b, 0, none⟩) l.length cb) l.length (strVals l)) :
    Calls Ybad.prog 7 #[.slice (some ⟨a, 0, none⟩) l.length ca, .slice (some ⟨b, 0, none⟩) l.length cb] w fun e w' => e = .returned (.bool true) ∧ Below w.heap.size w w' := by
  have h3 : ((l.length : Int) != (l.length : Int)) = false := by simp
  go_enter Ybad.func7, Ybad.ntmps7
  go_wp2
  go_loopw [5] (fun i wr => ∃ k : Nat, k ≤ l.length ∧ i = .int .i64 (k : Nat) ∧ Below w.heap.size w wr) (fun i _ => l.length - (intOf i).toNat)
  case atStart => exact ⟨0, Nat.zero_le _, rfl, Below.refl _ _⟩
  case round =>
    obtain ⟨k, hk, rfl, hbel⟩ := hrel
    by_cases hlt : k < l.length
    · have c1 : wr.cell? ⟨a, k, none⟩ = some (.string (bs l[k])) := by rw [(own_below h1 hbel).cellAt k (by omega)]; exact strVals_get l k hlt
      have c2 : wr.cell? ⟨b, k, none⟩ = some (.string (bs l[k])) := by rw [(own_below h2 hbel).cellAt k (by omega)]; exact strVals_get l k hlt
      have i1 : (k : Int) < (l.length : Int) := by omega
      have i2 : (0 : Int) ≤ (k : Int) := by omega
      go_wp2
      go_quiet (fail)
      go_wp2
      go_roundw
      case rel => exact ⟨k + 1, by omega, by go_num, below_drewN hbel _⟩
      case measure => simp [intOf]; omega
    · go_wp2
      go_ret
      exact ⟨rfl, hbel⟩

set_option maxHeartbeats 400000 in
/-- slices.Clone of a slice that the call owns, not nil. -/
theorem clone_any (l : List (List UInt8)) (a ca ba B : Nat) (w : World) (hl : l.length ≤ 1000000) (h0 : 0 < l.length) (hB : B ≤ w.heap.size) (h1 : w.ownsRow ba 9 1 (.slice (some ⟨a, 0, none⟩) l.length ca) l.length (strVals l)) :
    Calls Ybad.prog 10 #[.slice (some ⟨a, 0, none⟩) l.length ca] w fun e w' => ∃ v, e = .returned v ∧ w'.ownsRow B 9 1 v l.length (strVals l) ∧ Below w.heap.size w w' := by
  obtain ⟨i9, hi9, hz9, hs9, hb9⟩ := info_parts Ybad.info9
  have hnil := fun wx => Lib.run_eql_slice_nil (P := Ybad.prog) wx
  go_enter Ybad.func10, Ybad.ntmps10
  go_wp2_with (at_builtin; refine wpList_append_lies _ rfl (.tmp 5) (.tmp 6) 22 rfl B 9 i9 (.string ByteArray.empty) 1 16 Ybad.underlying22 hi9 hz9 hs9 hb9 rfl (by decide) _ 0 _ rfl (World.ownsRow_lit w #[] 0 hB (by unfold maxLen; omega) rfl) ⟨a, 0, none⟩ l.length ca (strVals l) rfl (by simp [strVals]) ((h1.alloc _).cells rfl) (strVals_one l) (by omega) (by unfold maxLen; omega) (by omega) (by simp; omega) (w.heap.size + 1) (by simp) ?_; intro g2 cap2 w2 hown2 hgrow2 hat2 hlt2)
  go_ret
  refine ⟨_, rfl, by simpa using hown2, ((Below.refl _ _).alloc (Nat.le_refl _) _).grown hgrow2 (by simp) (fun k hk => by have := Option.some.inj hk; simp at this; omega)⟩

end Go.Proofs.YbulkblreDoor

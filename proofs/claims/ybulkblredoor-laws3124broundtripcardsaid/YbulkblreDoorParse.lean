import Derived.Test.YbulkblreDoorText
import Derived.Deep.RegionLaw
import Derived.Deep.LoopGhost
import Derived.Deep.DeepCutAuto
namespace Go.Proofs.YbulkblreDoor
open Go.RowKit
set_option linter.unusedVariables false
attribute [local go_sem] bs_size bs_append bs_toList bs_extract bs_get
attribute [local go_sem ↓] Go.wp_at_zero Go.wp_at_succ

theorem Ybad.info26 : (Ybad.prog.info? 26).map (fun i => (i.zero, i.size, i.bytes)) = some (some (.agg #[.int .i64 0, .string ByteArray.empty]), 2, 24) := by kernel_rfl

def isL (c : Nat) : Bool := decide (c ≠ 0)
theorem isL_no {c : Nat} (h : c = 0) : isL c = false := by simp [isL, h]
theorem isL_yes {c : Nat} (h : ¬ c = 0) : isL c = true := by simp [isL, h]

set_option maxRecDepth 100000 in
set_option maxHeartbeats 4000000 in
theorem parse_any (Ns : List (List UInt8)) (c : Nat) (Ss : List (Nat × List UInt8)) (r : List UInt8) (kb ko kc : Nat) (w : World) (hK : IsKinds kb ko kc w)
    (hN : 0 < Ns.length) (hNl : Ns.length ≤ 5000) (hSl : Ss.length ≤ 5000) (hc : c = 0 ∨ (97 ≤ c ∧ c ≤ 122)) (hr : r.length ≤ 10) (hrd : ∀ x ∈ r, isDig x = true)
    (hNs : ∀ x ∈ Ns, 0 < x.length ∧ x.length ≤ 10 ∧ ∀ y ∈ x, isDig y = true)
    (hSs : ∀ x ∈ Ss, x.1 < 5 ∧ x.2.length ≤ 10 ∧ ∀ y ∈ x.2, isDig y = true) :
    Calls Ybad.prog 9 #[.string (bs (textOf Ns c Ss r))] w fun e w' => ∃ nv sv, e = .returned (.tuple #[.agg #[nv, .int .u8 c, sv, .string (bs r)], .bool true]) ∧ PS w.heap.size w w' Ns c Ss r nv sv := by
  obtain ⟨i9, hi9, hz9, hs9, hb9⟩ := info_parts Ybad.info9
  obtain ⟨i26, hi26, hz26, hs26, hb26⟩ := info_parts Ybad.info26
  have hR1l : (R1 c Ss r).length ≤ 100000 := by have := R1_len c Ss r (fun x hx => (hSs x hx).2.1) hr; omega
  have hNL : ∀ i, (joinDots (Ns.drop i)).length ≤ 100000 := fun i => by
    have := joinDots_len (Ns.drop i) (fun x hx => (hNs x (List.mem_of_mem_drop hx)).2.1)
    have h2 : (Ns.drop i).length ≤ Ns.length := by simp
    omega
  have HNs := hid hNs
  have HSs := hid hSs
  clear hNs hSs
  have HR1 := hid (R1_head c hc Ss r)
  obtain ⟨T, hT⟩ : ∃ T, textOf Ns c Ss r = T := ⟨_, rfl⟩
  rw [hT]
  have HT := hid hT
  clear hT
  go_enter Ybad.func9, Ybad.ntmps9
  go_wp2_with fail
  go_loopg [5] Ns.length (fun gk s wr => ∃ (i : Nat) (nv : Value), i + gk = Ns.length ∧ i < Ns.length ∧ s = .string (bs (joinDots (Ns.drop i) ++ R1 c Ss r)) ∧ PS w.heap.size w wr (Ns.take i) 0 [] [] nv (.slice none 0 0))
  case atStart =>
    refine ⟨0, .slice none 0 0, by omega, hN, by rw [← HT.out]; rfl, ?_⟩
    exact PS.start w
  case round =>
    obtain ⟨i, nv, hig, hi, rfl, hP⟩ := hrel
    obtain ⟨t, ht, hda, htl, hth⟩ : ∃ t, t = (if i + 1 < Ns.length then 46 :: (joinDots (Ns.drop (i + 1)) ++ R1 c Ss r) else R1 c Ss r) ∧ joinDots (Ns.drop i) ++ R1 c Ss r = Ns[i] ++ t ∧ t.length ≤ 200001 ∧ ∀ x, t.head? = some x → isDig x = false := by
      refine ⟨_, rfl, drop_at Ns i hi (R1 c Ss r), ?_, ?_⟩
      · have := hNL (i + 1)
        split <;> simp <;> omega
      · split
        · intro x hx; simp at hx; subst hx; decide
        · intro x hx; exact (HR1.out x hx).1
    have Ht := hid ht
    clear ht
    obtain ⟨hd0, hd1, hd2⟩ := HNs.out Ns[i] (List.getElem_mem hi)
    have HTk := hid (List.take_succ_eq_append_getElem hi)
    have hlen : (Ns.take i).length = i := by simp; omega
    have HP := hid hP
    obtain ⟨p0, p1, p2, p3, pf, prt, po1, po2, pnf, psf, pap, pbel, psz⟩ := hP
    have pf0 := pf 0 (by omega)
    rw [hda]
    clear hda
    generalize hde : Ns[i] = d at *
    have hnz : ((d.length : Int) == 0) = false := beq_eq_false_iff_ne.2 (by omega)
    clear prt po2 psf pap p1 p2 p3 pf pbel
    have hsl : (d.length : Int) ≤ (d.length : Int) + (t.length : Int) := by omega
    have hsl2 : (d.length : Int) ≤ (d ++ t).length := by simp; omega
    go_wp2_with fail
    refine (lead_any d t _ hd2 hth (by omega)).mono ?_
    rintro e w1 ⟨rfl, rfl⟩
    go_wp2_with fail
    go_cut [] (fun wx => ∃ nv2, PS w.heap.size w wx (Ns.take (i + 1)) 0 [] [] nv2 (.slice none 0 0))
    case first =>
      have hBx : Below wr.heap.size wr (wr.alloc (.cells #[.string (bs d)] 9)).drew := ((Below.refl _ _).alloc (Nat.le_refl _) _).drew
      go_region_law ((refine step_append_lies _ (by rfl) (.tmp 21) (.tmp 25) 22 (by rfl) (w.heap.size + 2) 9 i9 (.string ByteArray.empty) 1 16 Ybad.underlying22 hi9 hz9 hs9 hb9 rfl (by omega) nv (Ns.take i).length (strVals (Ns.take i)) (by simp [Act.eval]) ((po1.alloc _).drew) ⟨wr.heap.size, 0, none⟩ 1 1 [.string (bs d)] (by simp [Act.eval]) (by rfl) (World.news_of_block (cs := #[.string (bs d)]) (t := 9) (fr := (0, 0)) (heap_alloc_new wr _)) (by simp [Value.oneCell']) (by omega) (by unfold maxLen; omega) (by omega) (by simp; omega) (wr.heap.size + 1) (by simp) ?_; intro g2 cap2 w2 hown2 hgrow2 hat2 hlt2; obtain ⟨b0, b1, b2, b3⟩ := HP.out.behind hBx hgrow2 (.inl rfl); have R := hid (HP.out.num hBx hgrow2 (Or.elim hat2 Or.inl (fun e => Or.inr (by omega))) hown2)))
      all_goals
        go_wp2_with fail
        go_meet
        case rel =>
          have q := R.out
          rw [hlen] at q
          rw [HTk.out]
          exact ⟨_, q⟩
    case rest =>
      obtain ⟨nv2, hP2⟩ := hcut
      clear po1 HP
      by_cases hl : i + 1 < Ns.length
      · obtain ⟨t2, ht2, ht3⟩ : ∃ t2, joinDots (Ns.drop (i + 1)) ++ R1 c Ss r = t2 ∧ t = 46 :: t2 := ⟨_, rfl, by rw [Ht.out, if_pos hl]⟩
        have Ht2 := hid ht2
        clear ht2 Ht
        subst ht3
        have htl2 : t2.length ≤ 200000 := by simp at htl; omega
        go_wp2_with (go_at_call 12; refine (pre_any (46 :: t2) [46] _ (by simp; omega) (by simp)).mono ?_; rintro e w1 ⟨rfl, rfl⟩; simp only [List.isPrefixOf, beq_self_eq_true, Bool.and_self])
        go_roundg (gk - 1)
        case measure => omega
        case rel => exact ⟨i + 1, nv2, by omega, hl, by rw [Ht2.out], hP2⟩
      · have ht3 : t = R1 c Ss r := by rw [Ht.out, if_neg hl]
        clear Ht
        have hpre : (([46] : List UInt8).isPrefixOf t) = false := by
          cases t with
          | nil => rfl
          | cons x t => have := (HR1.out x (by rw [← ht3]; rfl)).2; simp [List.isPrefixOf]; exact fun e => this e.symm
        have Ht3 := hid ht3
        clear ht3
        rw [List.take_of_length_le (by omega)] at hP2
        clear hi hig hl HTk hlen hde hd0 hd1 hd2 hsl hsl2 hnz p0 pnf psz pf0 hth
        obtain ⟨wo, hwo⟩ : ∃ wo : World, wo = wc := ⟨_, rfl⟩
        subst hwo
        go_upto_region 10 with (go_at_call 12; refine (pre_any t [46] _ (by omega) (by simp)).mono ?_; rintro e w1 ⟨rfl, rfl⟩; rw [hpre])
        obtain ⟨X, hX⟩ : ∃ X, sufT Ss ++ revT r = X := ⟨_, rfl⟩
        have HX := hid hX
        have hXl : X.length ≤ 100000 := by have h := hR1l; unfold R1 at h; rw [hX] at h; simp at h; omega
        have hXh : ∀ x, X.head? = some x → x.toNat < 97 := by rw [← hX]; exact sufT_head97 Ss r
        have htX : t = letterT c ++ X := by rw [Ht3.out, ← hX]; rfl
        clear hX Ht3 hpre
        have hcl : c ≤ 122 := by omega
        go_cut [47] (fun s47 wx => s47 = .bool (isL c) ∧ wo = wx)
        case first =>
          by_cases hc0 : c = 0
          · have hd0 := hid (isL_no hc0)
            have e : t = X := by rw [htX]; unfold letterT; rw [if_pos hc0]; rfl
            subst e
            clear htX hc0
            cases t with
            | nil =>
              go_wp2_with fail
              go_meet
              case rel => exact ⟨by rw [hd0.out], rfl⟩
            | cons x t' =>
              have hx97 := hXh x rfl
              have hx97' : ¬ ((97 : Int) ≤ (x.toNat : Int)) := by omega
              go_wp2_with fail
              go_meet
              case rel => exact ⟨by rw [hd0.out], rfl⟩
          · have hd0 := hid (isL_yes hc0)
            have e : t = UInt8.ofNat c :: X := by rw [htX]; unfold letterT; rw [if_neg hc0]; rfl
            clear htX
            obtain ⟨x, hx⟩ : ∃ x, UInt8.ofNat c = x := ⟨_, rfl⟩
            have hxc : x.toNat = c := by rw [← hx]; simp; omega
            rw [hx] at e
            subst e
            have hx1 : (97 : Int) ≤ (x.toNat : Int) := by omega
            have hx2 : (x.toNat : Int) ≤ 122 := by omega
            clear hx hxc hc0 hXh
            go_wp2_with fail
            go_meet
            case rel => exact ⟨by rw [hd0.out], rfl⟩
        case rest =>
          obtain ⟨rfl, rfl⟩ := hcut
          have HP2 := hid hP2
          have q1 := hP2.n1
          have q2 := hP2.fz 1 (by omega)
          clear hP2
          go_upto_if 47 with fail
          go_cut [5, 47] (fun s5 s47 wx => s5 = .string (bs X) ∧ PS w.heap.size w wx Ns c [] [] nv2 (.slice none 0 0))
          case first =>
            by_cases hc0 : c = 0
            · have hd0 := isL_no hc0
              have e : t = X := by rw [htX]; unfold letterT; rw [if_pos hc0]; rfl
              have HC := hid hc0
              rw [hd0]
              clear hc0 htX hd0
              go_wp2_with fail
              go_meet
              case rel => exact ⟨by rw [e], by rw [HC.out]; exact HP2.out⟩
            · have hd0 := isL_yes hc0
              have e : t = UInt8.ofNat c :: X := by rw [htX]; unfold letterT; rw [if_neg hc0]; rfl
              clear htX
              obtain ⟨x, hx⟩ : ∃ x, UInt8.ofNat c = x := ⟨_, rfl⟩
              have hxc : Hid (x.toNat = c) := by show x.toNat = c; rw [← hx]; simp; omega
              rw [hx] at e
              subst e
              rw [hd0]
              clear hx hc0 hXh hd0
              go_wp2_with fail
              go_meet
              case rel =>
                refine ⟨rfl, ?_⟩
                have := HP2.out.letter (c' := c)
                rw [hxc.out]
                exact this
          case rest =>
            obtain ⟨rfl, hP3⟩ := hcut
            clear HP2 q1 q2 htX hXh
            go_wp2_with fail
            go_loopg [5] Ss.length (fun gk s wr => ∃ (j : Nat) (sv : Value), j + gk = Ss.length ∧ s = .string (bs (sufT (Ss.drop j) ++ revT r)) ∧ PS w.heap.size w wr Ns c (Ss.take j) [] nv2 sv)
            case atStart => exact ⟨0, .slice none 0 0, by omega, by rw [← HX.out]; rfl, hP3⟩
            case round =>
              obtain ⟨j, sv, hjg, rfl, hP⟩ := hrel
              have HP := hid hP
              obtain ⟨p0, p1, p2, p3, pf, prt, po1, po2, pnf, psf, pap, pbel, psz⟩ := hP
              have pf2 := pf 2 (by omega)
              have pf3 := pf 3 (by omega)
              have HK := hid (hK.below pbel)
              clear hP3 prt po1 pnf psf pap p1 pf pbel
              by_cases hjl : j < Ss.length
              · obtain ⟨hk5, hd1, hd2⟩ := HSs.out Ss[j] (List.getElem_mem hjl)
                have hsd := sufT_drop Ss j hjl (revT r)
                have HTk := hid (List.take_succ_eq_append_getElem hjl)
                have hlen : (Ss.take j).length = j := by simp; omega
                have hht := sufT_tail (Ss.drop (j + 1)) r
                have ht2l : (sufT (Ss.drop (j + 1)) ++ revT r).length ≤ 100000 := by
                  have h1 := sufT_len (Ss.drop (j + 1)) (fun x hx => (HSs.out x (List.mem_of_mem_drop hx)).2.1)
                  have h2 : (Ss.drop (j + 1)).length ≤ Ss.length := by simp
                  have h3 : (revT r).length ≤ 12 := by unfold revT; split <;> simp; omega
                  simp; omega
                rw [hsd]
                clear hsd
                generalize hxe : Ss[j] = x at *
                obtain ⟨kk, d⟩ := x
                simp only at hk5 hd1 hd2
                obtain ⟨t2, ht2⟩ : ∃ t2, sufT (Ss.drop (j + 1)) ++ revT r = t2 := ⟨_, rfl⟩
                rw [ht2] at hht ht2l ⊢
                have Ht2 := hid ht2
                clear ht2 hxe
                simp only
                have hY : ∀ x, (d ++ t2).head? = some x → x ≠ 114 := by
                  intro x hx
                  cases d with
                  | nil => exact (hht x hx).2.2
                  | cons y d => simp at hx; subst hx; have := hd2 y (by simp); intro e; subst e; revert this; decide
                have hpre1 : (([95] : List UInt8).isPrefixOf (nm kk ++ (d ++ t2))) = true := by
                  obtain ⟨l, hl⟩ := nm_head kk
                  rw [hl]; simp [List.isPrefixOf]
                have hnml := nm_len kk
                have HY := hid hY
                have hht' : ∀ x, t2.head? = some x → isDig x = false := fun x hx => (hht x hx).1
                have HH := hid hht'
                clear hY hht hht'
                have kh := HK.out.head
                go_wp2_with (go_at_call 12; refine (pre_any (nm kk ++ (d ++ t2)) [95] _ (by simp; omega) (by simp)).mono ?_; rintro e w1 ⟨rfl, rfl⟩; rw [hpre1])
                obtain ⟨wp, hwp⟩ : ∃ wp : World, wp = wr := ⟨_, rfl⟩
                subst hwp
                go_loopg [5, 7, 57] 5 (fun gm s5 s7 s57 wi => ∃ (i : Nat), i + gm = 5 ∧ i ≤ kk ∧ s57 = .int .i64 (i : Nat) ∧ s5 = .string (bs (nm kk ++ (d ++ t2))) ∧ s7 = .int .i64 (-1) ∧ wp = wi)
                case atStart => exact ⟨0, by omega, Nat.zero_le _, rfl, rfl, rfl, rfl⟩
                case round =>
                  obtain ⟨i, hig, hik, rfl, rfl, rfl, hwi⟩ := hrel
                  subst hwi
                  have kci := HK.out.cell i (by omega)
                  have hi5 : (i : Int) < 5 := by omega
                  have hnmi := nm_len i
                  by_cases hie : i = kk
                  · subst hie
                    have hpre2 := hid (nm_yes i (d ++ t2))
                    have hk0 : ¬ ((i : Int) < 0) := by omega
                    have htk : List.take (d.length + t2.length) (d ++ t2) = d ++ t2 := List.take_of_length_le (by simp)
                    go_wp2_with (go_at_call 12; refine (pre_any (nm i ++ (d ++ t2)) (nm i) _ (by simp; omega) (by omega)).mono ?_; rintro e w1 ⟨rfl, rfl⟩; rw [hpre2.out])
                    refine (lead_any d t2 _ hd2 HH.out (by omega)).mono ?_
                    rintro e w1 ⟨rfl, rfl⟩
                    have hsl : (d.length : Int) ≤ (d.length : Int) + (t2.length : Int) := by omega
                    go_wp2_with fail
                    go_cut [] (fun wx => ∃ sv2, PS w.heap.size w wx Ns c (Ss.take (j + 1)) [] nv2 sv2)
                    case first =>
                      have hBx : Below wp.heap.size wp (wp.alloc (.cells #[.int .i64 (i : Nat), .string (bs d)] 26)).drew := ((Below.refl _ _).alloc (Nat.le_refl _) _).drew
                      go_region_law ((refine step_append_lies _ (by rfl) (.tmp 77) (.tmp 83) 24 (by rfl) (w.heap.size + 2) 26 i26 (.agg #[.int .i64 0, .string ByteArray.empty]) 2 24 Ybad.underlying24 hi26 hz26 hs26 hb26 rfl (by omega) sv (Ss.take j).length (sufVals (Ss.take j)) (by simp [Act.eval]) ((po2.alloc _).drew) ⟨wp.heap.size, 0, none⟩ 1 1 [.int .i64 (i : Nat), .string (bs d)] (by simp [Act.eval]) (by rfl) (World.news_of_block (cs := #[.int .i64 (i : Nat), .string (bs d)]) (t := 26) (fr := (0, 0)) (heap_alloc_new wp _)) (by simp [Value.oneCell']) (by omega) (by unfold maxLen; omega) (by omega) (by simp; omega) (wp.heap.size + 1) (by simp) ?_; intro g2 cap2 w2 hown2 hgrow2 hat2 hlt2; obtain ⟨b0, b1, b2, b3⟩ := HP.out.behind hBx hgrow2 (.inr rfl); have R := hid (HP.out.suf (x := (i, d)) hBx hgrow2 (Or.elim hat2 Or.inl (fun e => Or.inr (by omega))) hown2)))
                      all_goals
                        go_wp2_with fail
                        go_meet
                        case rel =>
                          have q := R.out
                          rw [hlen] at q
                          rw [HTk.out]
                          exact ⟨_, q⟩
                    case rest =>
                      obtain ⟨sv2, hP4⟩ := hcut
                      clear po2 HP
                      go_wp2_with fail
                      go_roundg (Ss.length - (j + 1))
                      case measure => omega
                      case rel => exact ⟨j + 1, sv2, by omega, by rw [Ht2.out], hP4⟩
                  · have hpre2 := hid (nm_not i kk (by omega) hk5 (d ++ t2) (fun _ => HY.out))
                    go_wp2_with (go_at_call 12; refine (pre_any (nm kk ++ (d ++ t2)) (nm i) _ (by simp; omega) (by omega)).mono ?_; rintro e w1 ⟨rfl, rfl⟩; rw [hpre2.out])
                    go_roundg (gk - 1)
                    case measure => omega
                    case rel => exact ⟨i + 1, by omega, by omega, by go_num, rfl, rfl, rfl⟩
              · obtain rfl : j = Ss.length := by omega
                rw [List.take_length] at HP
                have hrest : sufT (Ss.drop Ss.length) ++ revT r = revT r := by simp [sufT]
                rw [hrest]
                clear hrest
                have hpre1 : (([95] : List UInt8).isPrefixOf (revT r)) = false := by
                  unfold revT; split <;> rfl
                have HPRE := hid hpre1
                clear hpre1
                obtain ⟨c0, f0⟩ := HP.out.rt 0 (by omega)
                obtain ⟨c1, f1⟩ := HP.out.rt 1 (by omega)
                obtain ⟨c2, f2⟩ := HP.out.rt 2 (by omega)
                obtain ⟨c3, f3⟩ := HP.out.rt 3 (by omega)
                obtain ⟨y0, c0⟩ := Option.isSome_iff_exists.1 c0
                obtain ⟨y1, c1⟩ := Option.isSome_iff_exists.1 c1
                obtain ⟨y2, c2⟩ := Option.isSome_iff_exists.1 c2
                obtain ⟨y3, c3⟩ := Option.isSome_iff_exists.1 c3
                simp only [Nat.zero_add] at c0 c1 c2 c3 f0 f1 f2 f3
                have p1 := HP.out.n1
                have hne1 : ¬ (w.heap.size = w.heap.size + 1) := by omega
                obtain ⟨na, nn, nc, hnv⟩ : ∃ na nn nc, nv2 = .slice na nn nc := by
                  rcases HP.out.nf with ⟨g, cap, h⟩ | ⟨h, _⟩
                  · exact ⟨_, _, _, h⟩
                  · exact ⟨_, _, _, h⟩
                obtain ⟨sa, sn, sc, hsv⟩ : ∃ na nn nc, sv = .slice na nn nc := by
                  rcases HP.out.sf with ⟨g, cap, h⟩ | ⟨h, _⟩
                  · exact ⟨_, _, _, h⟩
                  · exact ⟨_, _, _, h⟩
                subst hnv
                subst hsv
                clear po2 HSs
                by_cases hr0 : r = []
                · have hrv : revT r = [] := by unfold revT; rw [if_pos hr0]
                  rw [hrv] at HPRE ⊢
                  clear hrv
                  go_wp2_with fail
                  refine (pre_any [] [95] _ (by simp) (by simp)).mono ?_
                  rintro e w1 ⟨rfl, rfl⟩
                  rw [HPRE.out]
                  go_wp2_with fail
                  refine (cut_no [] [45, 114] _ (by simp) (by simp) rfl).mono ?_
                  rintro e w1 ⟨rfl, rfl⟩
                  go_wp2_with fail
                  have HP' : PS w.heap.size w wr Ns c Ss r (.slice na nn nc) (.slice sa sn sc) := by rw [hr0]; exact HP.out
                  refine bodyPost_ret (v := .tuple #[.agg #[.slice na nn nc, .int .u8 c, .slice sa sn sc, .string (bs [])], .bool true]) ?_ rfl ⟨.slice na nn nc, .slice sa sn sc, ?_, ?_⟩
                  · simp [results, Ybad.results9, go_sem, c0, c1, c2, c3]
                  · rw [hr0]
                  · exact (((HP'.result 0 _).result 1 _).result 2 _).result 3 _
                · have hrv : revT r = 45 :: 114 :: r := by unfold revT; rw [if_neg hr0]; rfl
                  rw [hrv] at HPRE ⊢
                  clear hrv
                  have hrp : 0 < r.length := List.length_pos_iff.2 hr0
                  have hrz : ((r.length : Int) == 0) = false := beq_eq_false_iff_ne.2 (by omega)
                  have hrz2 : ((r.length : Int) != (r.length : Int)) = false := by simp
                  clear hr0
                  go_wp2_with fail
                  refine (pre_any (45 :: 114 :: r) [95] _ (by simp; omega) (by simp)).mono ?_
                  rintro e w1 ⟨rfl, rfl⟩
                  rw [HPRE.out]
                  go_wp2_with fail
                  refine (cut_yes r [45, 114] _ (by simp; omega)).mono ?_
                  rintro e w1 ⟨rfl, rfl⟩
                  go_wp2_with fail
                  have hl := lead_any r [] wr hrd (fun x hx => by cases hx) (by simp; omega)
                  rw [List.append_nil] at hl
                  refine hl.mono ?_
                  rintro e w1 ⟨rfl, rfl⟩
                  clear hl
                  go_wp2_with fail
                  have HP' := HP.out.rev (r' := r)
                  refine bodyPost_ret (v := .tuple #[.agg #[.slice na nn nc, .int .u8 c, .slice sa sn sc, .string (bs r)], .bool true]) ?_ rfl ⟨.slice na nn nc, .slice sa sn sc, rfl, ?_⟩
                  · simp [results, Ybad.results9, go_sem, c0, c1, c2, c3]
                  · exact (((HP'.result 0 _).result 1 _).result 2 _).result 3 _

end Go.Proofs.YbulkblreDoor

import Derived.Test.YbulkblreDoorLawPlain
namespace Go.Proofs.YbulkblreDoor
open Go.RowKit
set_option linter.unusedVariables false
attribute [local go_sem] bs_size bs_append bs_toList bs_extract bs_get
attribute [local go_sem ↓] Go.wp_at_zero Go.wp_at_succ

def hasN (n3 : Nat) (s : Nat → Nat) (k : Nat) : Bool := decide (k < n3 ∧ s k ≠ 0)
theorem hasN_no1 {n3 : Nat} {s : Nat → Nat} {k : Nat} (h : ¬ k < n3) : hasN n3 s k = false := by simp [hasN, h]
theorem hasN_no2 {n3 : Nat} {s : Nat → Nat} {k : Nat} (h : s k = 0) : hasN n3 s k = false := by simp [hasN, h]
theorem hasN_yes {n3 : Nat} {s : Nat → Nat} {k : Nat} (h : k < n3) (h2 : ¬ s k = 0) : hasN n3 s k = true := by simp [hasN, h, h2]
theorem sNum_no {n3 : Nat} {s : Nat → Nat} {k : Nat} (h : hasN n3 s k = false) : sNum n3 s k = [] := by unfold sNum; rw [if_neg (by simpa [hasN] using h)]
theorem sNum_yes {n3 : Nat} {s : Nat → Nat} {k : Nat} (h : hasN n3 s k = true) : k < n3 ∧ s k ≠ 0 ∧ sNum n3 s k = digs (s k - 1) := by
  have h' : k < n3 ∧ s k ≠ 0 := by simpa [hasN] using h
  refine ⟨h'.1, h'.2, ?_⟩
  unfold sNum; rw [if_pos h']

set_option maxRecDepth 100000 in
set_option maxHeartbeats 4000000 in
theorem law_main (a0 a2 a3 : Option Addr) (n0 c0 n2 c2 n3 c3 : Nat) (z kd s : Nat → Nat) (lt rv : Nat) (on : Bool) (kb ko kc : Nat) (w : World) (hK : IsKinds kb ko kc w)
    (hn0 : n0 ≤ 1024) (hn2 : n2 ≤ 1024) (hn3 : n3 ≤ 1024) (hlt : lt ≤ 255) (hrv : rv ≤ 4294967295)
    (h0 : ∀ k, k < n0 → ∃ b off, a0 = some ⟨b, off, none⟩ ∧ b < w.heap.size ∧ w.cell? ⟨b, off + k, none⟩ = some (.int .u32 (z k)) ∧ z k ≤ 4294967295)
    (h2 : ∀ k, k < n2 → ∃ b off, a2 = some ⟨b, off, none⟩ ∧ b < w.heap.size ∧ w.cell? ⟨b, off + k, none⟩ = some (.int .u8 (kd k)) ∧ kd k ≤ 255)
    (h3 : ∀ k, k < n3 → ∃ b off, a3 = some ⟨b, off, none⟩ ∧ b < w.heap.size ∧ w.cell? ⟨b, off + k, none⟩ = some (.int .u32 (s k)) ∧ s k ≤ 4294967295) :
    Calls Ybad.prog 4 #[.slice a0 n0 c0, .int .u8 lt, .slice a2 n2 c2, .slice a3 n3 c3, .int .u32 rv, .bool on] w fun e w' => e = .returned (.bool true) ∧ Below w.heap.size w w' := by
  obtain ⟨i9, hi9, hz9, hs9, hb9⟩ := info_parts Ybad.info9
  have d0 : decide ((1024 : Int) < (n0 : Int)) = false := by simp; omega
  have d2 : decide ((1024 : Int) < (n2 : Int)) = false := by simp; omega
  have d3 : decide ((1024 : Int) < (n3 : Int)) = false := by simp; omega
  have H0 := hid h0
  have H2 := hid h2
  have H3 := hid h3
  clear h0 h2 h3
  go_enter Ybad.func4, Ybad.ntmps4
  go_upto_if 42 with fail
  go_cut [13, 14, 42] (fun v t s42 wx => EX w.heap.size w wx v (NsF n0 z 0) ∧ t = .string (bs (joinDots (NsF n0 z 0))))
  case first =>
    by_cases hz0 : n0 = 0
    · have e : Hid (NsF n0 z 0 = [[48]]) := by show NsF n0 z 0 = [[48]]; unfold NsF; rw [if_pos hz0]
      subst hz0
      have hst := EX.start w
      have HS := hid hst
      have hown := hst.1
      clear hst
      go_wp2_with (at_builtin; refine wpList_append_lies _ rfl (.tmp 43) (.tmp 44) 22 rfl w.heap.size 9 i9 (.string ByteArray.empty) 1 16 Ybad.underlying22 hi9 hz9 hs9 hb9 rfl (by decide) _ 0 (strVals []) rfl (hown.alloc _) ⟨w.heap.size, 0, none⟩ 1 1 [.string (bs [48])] rfl rfl (cell_one_new _ _ _) (by intro u hu; simp at hu; subst hu; rfl) (by omega) (by unfold maxLen; omega) (by omega) (by simp) (w.heap.size + 1) (by simp) ?_; intro g2 cap2 w2 hown2 hgrow2 hat2 hlt2; have R := hid (HS.out.step hgrow2 hown2); clear hown2 hgrow2 hat2 hlt2)
      go_meet
      case rel => exact ⟨by rw [e.out]; exact R.out, by rw [e.out]; rfl⟩
    · have e : Hid (NsF n0 z 0 = []) := by show NsF n0 z 0 = []; unfold NsF; rw [if_neg hz0]; rfl
      have hz1 : ((n0 : Int) == 0) = false := beq_eq_false_iff_ne.2 (by omega)
      go_wp2_with fail
      go_meet
      case rel => exact ⟨by rw [e.out]; exact EX.start w, by rw [e.out]; rfl⟩
  case rest =>
    obtain ⟨hE0, rfl⟩ := hcut
    go_wp2_with fail
    go_loopw [13, 14, 48] (fun v t i wr => ∃ k : Nat, k ≤ n0 ∧ i = .int .i64 (k : Nat) ∧ t = .string (bs (joinDots (NsF n0 z k))) ∧ EX w.heap.size w wr v (NsF n0 z k)) (fun _ _ i _ => n0 - (intOf i).toNat)
    case atStart => exact ⟨0, Nat.zero_le _, rfl, rfl, hE0⟩
    case round =>
      obtain ⟨k, hk, rfl, rfl, hE⟩ := hrel
      clear hE0
      by_cases hkl : k < n0
      · obtain ⟨b, off, rfl, hb, hc, hzk⟩ := H0.out k hkl
        have hF : ∀ j, NsF n0 z j = NsTo z j := fun j => by unfold NsF; rw [if_neg (by omega)]
        rw [hF] at hE ⊢
        have hJl : (joinDots (NsTo z k)).length ≤ 11 * k := by
          have := joinDots_len (NsTo z k) (fun x hx => by rw [← hF k] at hx; exact (NsF_mem n0 z k x hx).2.1)
          rw [NsTo_len] at this; exact this
        have hLl : (NsTo z k).length = k := NsTo_len z k
        have hLle : (NsTo z k).length ≤ 1024 := by omega
        have HS1 := hid (NsTo_succ z k)
        have HJ : Hid (joinDots (NsTo z (k + 1)) = if k = 0 then digs (z k) else joinDots (NsTo z k) ++ 46 :: digs (z k)) := by
          show joinDots (NsTo z (k + 1)) = if k = 0 then digs (z k) else joinDots (NsTo z k) ++ 46 :: digs (z k)
          rw [NsTo_succ]
          split
          · rename_i e; subst e; rfl
          · rw [joinDots_snoc _ _ (fun e => by have := congrArg List.length e; rw [hLl] at this; simp at this; omega)]
        have HF := hid hF
        clear hF hLl
        have hJ0 : Hid (k = 0 → joinDots (NsTo z k) = []) := fun e => by subst e; rfl
        obtain ⟨hdl0, hdl⟩ := digs_len (z k)
        have hcr : wr.cell? ⟨b, off + k, none⟩ = some (.int .u32 (z k)) := by rw [hE.2.1.cell (by exact hb)]; exact hc
        generalize hDe : digs (z k) = D at *
        generalize hLe : NsTo z k = L at *
        generalize hJe : joinDots L = J at *
        have HE := hid hE
        have hDe' := hid hDe
        clear hDe hLe hJe hc
        by_cases hk0 : k = 0
        · have hk1 : k ≤ 0 := by omega
          have Hk0 := hid hk0
          clear hk0
          go_wp2_with fail
          refine (digits_any (z k) _ hzk).mono ?_
          rintro e w1 ⟨rfl, hb1⟩
          rw [hDe'.out]
          have HE1 := hid (HE.out.below hb1)
          have hown1 := HE1.out.1
          have hB1 := HE1.out.2.2.2
          go_wp2_with (at_builtin; refine wpList_append_lies _ rfl (.tmp 55) (.tmp 57) 22 rfl w.heap.size 9 i9 (.string ByteArray.empty) 1 16 Ybad.underlying22 hi9 hz9 hs9 hb9 rfl (by decide) _ L.length (strVals L) rfl (hown1.alloc _) ⟨w1.heap.size, 0, none⟩ 1 1 [.string (bs D)] rfl rfl (cell_one_new _ _ _) (by intro u hu; simp at hu; subst hu; rfl) (by omega) (by unfold maxLen; omega) (by omega) (by simp; omega) (w1.heap.size + 1) (by simp) ?_; intro g2 cap2 w2 hown2 hgrow2 hat2 hlt2; have R := hid (HE1.out.step hgrow2 hown2); clear hown2 hgrow2 hat2 hlt2)
          go_roundw
          case rel =>
            refine ⟨k + 1, by omega, by go_num, ?_, ?_⟩
            · rw [HF.out, HJ.out, if_pos Hk0.out]
              rw [hJ0.out Hk0.out]; rfl
            · rw [HF.out, HS1.out]; exact R.out
          case measure => simp [intOf]; omega
        · have hk1 : 0 < k := by omega
          have Hk0 := hid hk0
          clear hk0
          go_wp2_with fail
          refine (digits_any (z k) _ hzk).mono ?_
          rintro e w1 ⟨rfl, hb1⟩
          rw [hDe'.out]
          have HE1 := hid (HE.out.below hb1)
          have hown1 := HE1.out.1
          have hB1 := HE1.out.2.2.2
          go_wp2_with (at_builtin; refine wpList_append_lies _ rfl (.tmp 55) (.tmp 57) 22 rfl w.heap.size 9 i9 (.string ByteArray.empty) 1 16 Ybad.underlying22 hi9 hz9 hs9 hb9 rfl (by decide) _ L.length (strVals L) rfl (hown1.alloc _) ⟨w1.heap.size, 0, none⟩ 1 1 [.string (bs D)] rfl rfl (cell_one_new _ _ _) (by intro u hu; simp at hu; subst hu; rfl) (by omega) (by unfold maxLen; omega) (by omega) (by simp; omega) (w1.heap.size + 1) (by simp) ?_; intro g2 cap2 w2 hown2 hgrow2 hat2 hlt2; have R := hid (HE1.out.step hgrow2 hown2); clear hown2 hgrow2 hat2 hlt2)
          go_roundw
          case rel =>
            refine ⟨k + 1, by omega, by go_num, ?_, ?_⟩
            · rw [HF.out, HJ.out, if_neg Hk0.out]
              exact congrArg Value.string (by rw [show ({ data := #[46] } : ByteArray) = bs [46] from rfl, bs_append, bs_append]; simp)
            · rw [HF.out, HS1.out]; exact R.out
          case measure => simp [intOf]; omega
      · obtain rfl : k = n0 := by omega
        have hM := NsF_mem k z k
        have hNl : 0 < (NsF k z k).length ∧ (NsF k z k).length ≤ 1025 := by
          unfold NsF; split
          · simp
          · rw [NsTo_len]; omega
        have hJl : (joinDots (NsF k z k)).length ≤ 11 * (NsF k z k).length := joinDots_len _ (fun x hx => (hM x hx).2.1)
        obtain ⟨hNl0, hNl⟩ := hNl
        have hco := cOf_ok lt
        generalize hNSe : NsF k z k = NS at *
        generalize hJe : joinDots NS = J at *
        have HM := hid hM
        have HJ := hid hJe
        clear hM hNSe hJe H0
        have HE := hid hE
        have hown := hE.1
        have hBr := hE.2.2.2
        clear hE
        go_upto_if 70 with fail
        go_cut [13, 14, 70] (fun v t s70 wx => EX w.heap.size w wx v (NS ++ letterL (cOf lt)) ∧ t = .string (bs (J ++ letterT (cOf lt))))
        case first =>
          by_cases hl0 : lt % 27 = 0
          · have hb0 : (((lt : Nat) : Int) % 27 != 0) = false := by simp; omega
            have e1 : Hid (letterL (cOf lt) = []) := by show letterL (cOf lt) = []; rw [cOf_no hl0]; rfl
            have e2 : Hid (letterT (cOf lt) = []) := by show letterT (cOf lt) = []; rw [cOf_no hl0]; rfl
            clear hl0
            go_wp2_with fail
            go_meet
            case rel => exact ⟨by rw [e1.out, List.append_nil]; exact HE.out, by rw [e2.out, List.append_nil]⟩
          · have hb0 : (((lt : Nat) : Int) % 27 != 0) = true := by simp; omega
            have hc1 : ¬ cOf lt = 0 := by rw [cOf_yes hl0]; omega
            have e1 : Hid (letterL (cOf lt) = [[UInt8.ofNat (cOf lt)]]) := by show letterL (cOf lt) = [[UInt8.ofNat (cOf lt)]]; unfold letterL; rw [if_neg hc1]
            have e2 : Hid (letterT (cOf lt) = [UInt8.ofNat (cOf lt)]) := by show letterT (cOf lt) = [UInt8.ofNat (cOf lt)]; unfold letterT; rw [if_neg hc1]
            have henc : Utf8.encode (97 + (lt : Int) % 27 - 1) = bs [UInt8.ofNat (cOf lt)] := by
              rw [cOf_yes hl0, ← encode_ascii (96 + lt % 27) (by omega)]
              congr 1; omega
            clear hl0 hc1
            go_wp2_with (at_builtin; refine wpList_append_lies _ rfl (.tmp 76) (.tmp 78) 22 rfl w.heap.size 9 i9 (.string ByteArray.empty) 1 16 Ybad.underlying22 hi9 hz9 hs9 hb9 rfl (by decide) _ NS.length (strVals NS) rfl (hown.alloc _) ⟨wr.heap.size, 0, none⟩ 1 1 [.string (bs [UInt8.ofNat (cOf lt)])] rfl rfl (cell_one_new _ _ _) (by intro u hu; simp at hu; subst hu; rfl) (by omega) (by unfold maxLen; omega) (by omega) (by simp; omega) (wr.heap.size + 1) (by simp) ?_; intro g2 cap2 w2 hown2 hgrow2 hat2 hlt2; have R := hid (HE.out.step hgrow2 hown2); clear hown2 hgrow2 hat2 hlt2)
            go_meet
            case rel => exact ⟨by rw [e1.out]; exact R.out, by rw [e2.out]⟩
        case rest =>
          obtain ⟨hE1, rfl⟩ := hcut
          clear HE hown hBr
          go_wp2_with fail
          have hL2l : (NS ++ letterL (cOf lt)).length ≤ 1026 := by
            have h3 : (letterL (cOf lt)).length ≤ 1 := by unfold letterL; split <;> simp
            simp; omega
          have hJ2l : (J ++ letterT (cOf lt)).length ≤ 20000 := by
            have h3 : (letterT (cOf lt)).length ≤ 1 := by unfold letterT; split <;> simp
            simp; omega
          generalize hL2e : NS ++ letterL (cOf lt) = L2 at *
          generalize hJ2e : J ++ letterT (cOf lt) = J2 at *
          have HL2 := hid hL2e
          have HJ2 := hid hJ2e
          clear hL2e hJ2e
          go_loopw [13, 14, 85] (fun v t i wr => ∃ k : Nat, k ≤ n2 ∧ i = .int .i64 (k : Nat) ∧ t = .string (bs (J2 ++ sufT (SsTo kd n3 s k))) ∧ EX w.heap.size w wr v (L2 ++ sufTexts (SsTo kd n3 s k))) (fun _ _ i _ => n2 - (intOf i).toNat)
          case atStart => exact ⟨0, Nat.zero_le _, rfl, by simp [SsTo, sufT], by simpa [SsTo, sufTexts] using hE1⟩
          case round =>
            obtain ⟨k, hk, rfl, rfl, hE⟩ := hrel
            clear hE1
            have hSl := SsTo_len kd n3 s k
            have hTl : (J2 ++ sufT (SsTo kd n3 s k)).length ≤ 60000 := by
              have := sufT_len (SsTo kd n3 s k) (fun x hx => (SsTo_mem kd n3 s k x hx).2.1)
              rw [hSl] at this; simp; omega
            have hLl : (L2 ++ sufTexts (SsTo kd n3 s k)).length ≤ 3000 := by simp [sufTexts]; omega
            clear hSl
            by_cases hkl : k < n2
            · obtain ⟨b, off, rfl, hb, hc, hkk⟩ := H2.out k hkl
              have HS1 := hid (SsTo_succ kd n3 s k)
              have hcr : wr.cell? ⟨b, off + k, none⟩ = some (.int .u8 (kd k)) := by rw [hE.2.1.cell (by exact hb)]; exact hc
              generalize hTe : J2 ++ sufT (SsTo kd n3 s k) = TT at *
              generalize hLe : L2 ++ sufTexts (SsTo kd n3 s k) = LL at *
              have HTe := hid hTe
              have HLe := hid hLe
              have HE := hid hE
              have hbelr := hE.2.1
              clear hTe hLe hc hE
              obtain ⟨wq, hwq⟩ : ∃ wq : World, wq = wr := ⟨_, rfl⟩
              subst hwq
              go_upto_region 26 with fail
              go_cut [100] (fun s100 wx => s100 = .bool (hasN n3 s k) ∧ wq = wx)
              case first =>
                by_cases hk3 : k < n3
                · obtain ⟨b3, off3, rfl, hb3, hc3, hs3⟩ := H3.out k hk3
                  have hcr3 : wq.cell? ⟨b3, off3 + k, none⟩ = some (.int .u32 (s k)) := by rw [hbelr.cell (by exact hb3)]; exact hc3
                  have hk3' : (k : Int) < (n3 : Int) := by omega
                  by_cases hsk : s k = 0
                  · have e := hid (hasN_no2 (n3 := n3) hsk)
                    have hsb : (((s k : Nat) : Int) != 0) = false := by simp; omega
                    clear hsk
                    go_wp2_with fail
                    go_meet
                    case rel => exact ⟨by rw [e.out], rfl⟩
                  · have e := hid (hasN_yes hk3 hsk)
                    have hsb : (((s k : Nat) : Int) != 0) = true := by simp; omega
                    clear hsk
                    go_wp2_with fail
                    go_meet
                    case rel => exact ⟨by rw [e.out], rfl⟩
                · have e := hid (hasN_no1 (s := s) hk3)
                  have hk3' : ¬ ((k : Int) < (n3 : Int)) := by omega
                  go_wp2_with fail
                  go_meet
                  case rel => exact ⟨by rw [e.out], rfl⟩
              case rest =>
                obtain ⟨rfl, rfl⟩ := hcut
                go_upto_if 100 with fail
                go_cut [22, 100] (fun s22 s100 wx => s22 = .string (bs (sNum n3 s k)) ∧ Below wq.heap.size wq wx)
                case first =>
                  cases hh : hasN n3 s k with
                  | false =>
                    have e := hid (sNum_no hh)
                    clear hh
                    go_wp2_with fail
                    go_meet
                    case rel => exact ⟨by rw [e.out]; rfl, Below.refl _ _⟩
                  | true =>
                    obtain ⟨hk3, hsk, e⟩ := sNum_yes hh
                    have E := hid e
                    clear hh e
                    obtain ⟨b3, off3, rfl, hb3, hc3, hs3⟩ := H3.out k hk3
                    have hcr3 : wq.cell? ⟨b3, off3 + k, none⟩ = some (.int .u32 (s k)) := by rw [hbelr.cell (by exact hb3)]; exact hc3
                    have hk3' : (k : Int) < (n3 : Int) := by omega
                    have hsk1 : (1 : Int) ≤ (s k : Nat) := by omega
                    go_wp2_with fail
                    rw [show (((s k : Nat) : Int) - 1) = ((s k - 1 : Nat) : Int) from by omega]
                    refine (digits_any (s k - 1) _ (by omega)).mono ?_
                    rintro e w1 ⟨rfl, hb1⟩
                    go_wp2_with fail
                    go_meet
                    case rel => exact ⟨by rw [E.out], hb1⟩
                case rest =>
                  obtain ⟨rfl, hbq⟩ := hcut
                  have hnl := nm_len (kd k % 5)
                  have hsl := (sNum_ok n3 s k).1
                  have HE1 := hid (HE.out.below hbq)
                  have hown1 := HE1.out.1
                  have hB1 := HE1.out.2.2.2
                  have e2 := hid (sufT_snoc (SsTo kd n3 s k) (kd k % 5, sNum n3 s k))
                  have e3 := hid (sufTexts_snoc (SsTo kd n3 s k) (kd k % 5, sNum n3 s k))
                  generalize hne : sNum n3 s k = num at *
                  clear hne HE
                  go_wp2_with fail
                  rw [show (((kd k : Nat) : Int) % 5) = ((kd k % 5 : Nat) : Int) from by omega]
                  refine (name_any (kd k % 5) _ (Nat.mod_lt _ (by omega))).mono ?_
                  rintro e w1 ⟨rfl, rfl⟩
                  generalize hnme : nm (kd k % 5) = name at *
                  clear hnme
                  go_wp2_with (at_builtin; refine wpList_append_lies _ rfl (.tmp 113) (.tmp 115) 22 rfl w.heap.size 9 i9 (.string ByteArray.empty) 1 16 Ybad.underlying22 hi9 hz9 hs9 hb9 rfl (by decide) _ LL.length (strVals LL) rfl (hown1.alloc _) ⟨wc.heap.size, 0, none⟩ 1 1 [.string (bs (name ++ num))] rfl rfl (cell_one_new _ _ _) (by intro u hu; simp at hu; subst hu; rfl) (by omega) (by unfold maxLen; omega) (by omega) (by simp; omega) (wc.heap.size + 1) (by simp) ?_; intro g2 cap2 w2 hown2 hgrow2 hat2 hlt2; have R := hid (HE1.out.step hgrow2 hown2); clear hown2 hgrow2 hat2 hlt2)
                  go_roundw
                  case rel =>
                    refine ⟨k + 1, by omega, by go_num, ?_, ?_⟩
                    · exact congrArg (fun l => Value.string (bs l)) (by rw [HS1.out, e2.out, ← HTe.out]; simp only [List.append_assoc])
                    · rw [HS1.out, e3.out, ← List.append_assoc, HLe.out]; exact R.out
                  case measure => simp [intOf]; omega
            · obtain rfl : k = n2 := by omega
              have hSm := SsTo_mem kd n3 s k
              have hSl := SsTo_len kd n3 s k
              have hSl' : (SsTo kd n3 s k).length ≤ 1024 := by omega
              clear hSl
              generalize hSe : SsTo kd n3 s k = SS at *
              have HSm := hid hSm
              clear hSe hSm H2 H3
              obtain ⟨TT, hTT⟩ : ∃ TT, J2 ++ sufT SS = TT := ⟨_, rfl⟩
              obtain ⟨LL, hLL⟩ : ∃ LL, L2 ++ sufTexts SS = LL := ⟨_, rfl⟩
              rw [hTT] at hTl ⊢
              rw [hLL] at hLl hE
              have HTT := hid hTT
              have HLL := hid hLL
              have HE := hid hE
              have hown := hE.1
              have hBr := hE.2.2.2
              clear hE hTT hLL
              obtain ⟨wq, hwq⟩ : ∃ wq : World, wq = wr := ⟨_, rfl⟩
              subst hwq
              go_upto_if 121 with fail
              go_cut [13, 14, 121] (fun v t s121 wx => EX w.heap.size w wx v (LL ++ revL (rOf on rv)) ∧ t = .string (bs (TT ++ revT (rOf on rv))))
              case first =>
                cases on with
                | false =>
                  go_wp2_with fail
                  go_meet
                  case rel =>
                    have e1 : revL (rOf false rv) = [] := rfl
                    have e2 : revT (rOf false rv) = [] := rfl
                    exact ⟨by rw [e1, List.append_nil]; exact HE.out, by rw [e2, List.append_nil]⟩
                | true =>
                  have hrne : digs rv ≠ [] := fun e => by have := (digs_len rv).1; rw [e] at this; simp at this
                  have e1 : Hid (revL (rOf true rv) = [[45, 114] ++ digs rv]) := by show revL (digs rv) = _; unfold revL; rw [if_neg hrne]
                  have e2 : Hid (revT (rOf true rv) = [45, 114] ++ digs rv) := by show revT (digs rv) = _; unfold revT; rw [if_neg hrne]
                  have hdl := (digs_len rv).2
                  go_wp2_with fail
                  refine (digits_any rv _ hrv).mono ?_
                  rintro e w1 ⟨rfl, hb1⟩
                  have HE1 := hid (HE.out.below hb1)
                  have hown1 := HE1.out.1
                  have hB1 := HE1.out.2.2.2
                  generalize hde : digs rv = dd at *
                  clear hde hrne
                  go_wp2_with (at_builtin; refine wpList_append_lies _ rfl (.tmp 125) (.tmp 127) 22 rfl w.heap.size 9 i9 (.string ByteArray.empty) 1 16 Ybad.underlying22 hi9 hz9 hs9 hb9 rfl (by decide) _ LL.length (strVals LL) rfl (hown1.alloc _) ⟨w1.heap.size, 0, none⟩ 1 1 [.string (bs ([45, 114] ++ dd))] rfl rfl (cell_one_new _ _ _) (by intro u hu; simp at hu; subst hu; rfl) (by omega) (by unfold maxLen; omega) (by omega) (by simp; omega) (w1.heap.size + 1) (by simp) ?_; intro g2 cap2 w2 hown2 hgrow2 hat2 hlt2; have R := hid (HE1.out.step hgrow2 hown2); clear hown2 hgrow2 hat2 hlt2)
                  go_meet
                  case rel =>
                    refine ⟨by rw [e1.out]; exact R.out, ?_⟩
                    rw [e2.out]
                    exact congrArg Value.string (by rw [show ({ data := #[45, 114] } : ByteArray) = bs [45, 114] from rfl, bs_append, bs_append])
              case rest =>
                obtain ⟨hE2, rfl⟩ := hcut
                clear HE hown hBr
                have hro := rOf_ok on rv
                have et : TT ++ revT (rOf on rv) = textOf NS (cOf lt) SS (rOf on rv) := by
                  rw [← HTT.out, ← HJ2.out, ← HJ.out]; simp only [textOf, R1, List.append_assoc]
                have eL : LL ++ revL (rOf on rv) = NS ++ letterL (cOf lt) ++ sufTexts SS ++ revL (rOf on rv) := by rw [← HLL.out, ← HL2.out]
                have hLne : 0 < (NS ++ letterL (cOf lt) ++ sufTexts SS ++ revL (rOf on rv)).length := by simp; omega
                have hLmx : (NS ++ letterL (cOf lt) ++ sufTexts SS ++ revL (rOf on rv)).length ≤ 10000 := by
                  have h3 : (revL (rOf on rv)).length ≤ 1 := by unfold revL; split <;> simp
                  rw [← eL]; simp; omega
                rw [et]
                rw [eL] at hE2
                clear et eL
                generalize hrr : rOf on rv = rr at *
                generalize hcc : cOf lt = cc at *
                clear hrr hcc
                obtain ⟨LX, hLX⟩ : ∃ LX, NS ++ letterL cc ++ sufTexts SS ++ revL rr = LX := ⟨_, rfl⟩
                rw [hLX] at hLne hLmx hE2
                have HLX := hid hLX
                clear hLX
                have HE2 := hid hE2
                obtain ⟨hX1, hX2, hX3, hX4⟩ := hE2
                obtain ⟨ge, ce, rfl⟩ : ∃ g cap, u13 = .slice (some ⟨g, 0, none⟩) LX.length cap := by
                  rcases hX3 with h | ⟨_, h⟩
                  · exact h
                  · rw [h] at hLne; simp at hLne
                clear hX3
                go_wp2_with fail
                refine (parse_any NS cc SS rr kb ko kc _ (hK.below hX2) hNl0 (by omega) (by omega) hco hro.1 hro.2 HM.out HSm.out).mono ?_
                rintro e w1 ⟨nv, sv, rfl, hP⟩
                obtain ⟨na, nc, rfl⟩ : ∃ g cap, nv = .slice (some ⟨g, 0, none⟩) NS.length cap := by
                  rcases hP.nf with h | ⟨_, h⟩
                  · exact h
                  · rw [h] at hNl0; simp at hNl0
                obtain ⟨sa, sc, rfl, hsa⟩ : ∃ sa sc, sv = .slice sa SS.length sc ∧ ∀ k, k < SS.length → ∃ g, sa = some ⟨g, 0, none⟩ := by
                  rcases hP.sf with ⟨g, cap, h⟩ | ⟨h, h'⟩
                  · exact ⟨_, _, h, fun _ _ => ⟨g, rfl⟩⟩
                  · exact ⟨none, 0, by rw [h, h']; rfl, fun k hk => by rw [h'] at hk; simp at hk⟩
                have HPP := hid hP
                have HE3 := hid (HE2.out.below hP.bel)
                clear hP
                go_wp2_with fail
                have hbA : Below w1.heap.size w1 (w1.alloc (.cells #[.slice (some ⟨na, 0, none⟩) NS.length nc, .int .u8 cc, .slice sa SS.length sc, .string (bs rr)] 28)) := (Below.refl _ _).alloc (Nat.le_refl _) _
                have HE4 := hid (HE3.out.below hbA)
                refine (parts_any NS SS cc rr na nc _ _ sa sc kb ko kc _ hNl0 (by omega) (by omega) (by omega) (by omega) (fun x hx => ⟨(HSm.out x hx).1, by have := (HSm.out x hx).2.1; omega⟩) (HPP.out.own1.alloc _) hsa (HPP.out.own2.alloc _) (hK.below HE4.out.2.1)).mono ?_
                rintro e w3 ⟨g3, cap3, rfl, hown3, hb3⟩
                rw [HLX.out] at hown3 ⊢
                have HE5 := hid (HE4.out.below hb3)
                go_wp2_with fail
                refine (same_any LX g3 ge cap3 ce _ _ _ (by omega) hown3 HE5.out.1).mono ?_
                rintro e w4 ⟨rfl, hb4⟩
                go_wp2_with fail
                go_ret
                exact ⟨rfl, (HE5.out.below hb4).2.1⟩

end Go.Proofs.YbulkblreDoor

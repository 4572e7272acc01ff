import Derived.Test.YbulkblsgFmtSl
namespace Go.Proofs.YbulkblsgFmt
open Go.RowKit Go.Sort
set_option linter.unusedVariables false
set_option linter.unusedSimpArgs false
variable {H0 : Nat} {rv : Value} {N : Nat} {lt : Int → Int → Bool} {S : Array Int → World → Prop}
theorem lm1 (l : Nat) (h : (((l : Nat) : Int) == 0) = false) (hl : l < 1000) : ∃ l1 : Nat, (l : Int) - 1 = (l1 : Int) ∧ l1 < 1000 := by
  have : l ≠ 0 := fun e => by rw [e] at h; simp at h
  exact ⟨l - 1, by omega, by omega⟩
def PdqOk (rv : Value) (lt : Int → Int → Bool) (S : Array Int → World → Prop) (N n : Nat) : Prop := ∀ (a b lim : Nat) (x : Int) (d : Array Int) (w : World), x = (a : Nat) → b - a < n → S d w → a ≤ b → b ≤ N → Sort.Below lt a b d → lim < 1000 →
    Calls Ybaf.prog 39 #[.iface 83 rv, .int .i64 x, .int .i64 ((b : Nat) : Int), .int .i64 ((lim : Nat) : Int)] w fun e w' => e = .returned (.tuple #[]) ∧ ∃ d', S d' w' ∧ PermIn a b d d' ∧ SortedIn lt a b d'
def RoundEnd (rv : Value) (lt : Int → Int → Bool) (S : Array Int → World → Prop) (N a0 b0 : Nat) (d : Array Int) (n : Nat) (Q : Act → World → Prop) : Prop := ∀ (f : Nat → Value) (a b l : Nat) (wb wp : Bool) (dk : Array Int) (w : World),
  Has f [(0, .iface 83 rv), (1, .int .i64 ((a : Nat) : Int)), (2, .int .i64 ((b : Nat) : Int)), (3, .int .i64 ((l : Nat) : Int)), (8, .bool wb), (9, .bool wp)] → l < 1000 → b - a < n → b ≤ N → a ≤ b → S dk w → Fin lt a0 b0 d a b dk → Q (Fm 129 f) w
theorem p39_0 : p39 = (headC p39).seq (((headC (headC (dropC 1 p39))).seq (Code.cond (.tmp 23) ((headC (thnC (tailC (headC (dropC 1 p39))))).seq .ret) .skip)).seq (((headC (headC (dropC 2 p39))).seq (Code.cond (.tmp 29) ((headC (thnC (tailC (headC (dropC 2 p39))))).seq .ret) .skip)).seq (dropC 3 p39))) := by kernel_rfl
theorem p39_3 : dropC 3 p39 = ((headC (headC (dropC 3 p39))).seq (Code.cond (.tmp 35) ((headC (thnC (tailC (headC (dropC 3 p39))))).seq (tailC (thnC (tailC (headC (dropC 3 p39)))))) .skip)).seq ((headC (dropC 4 p39)).seq (dropC 5 p39)) := by kernel_rfl
theorem p39_5 : dropC 5 p39 = ((headC (headC (dropC 5 p39))).seq (Code.cond (.tmp 50) ((headC (thnC (tailC (headC (dropC 5 p39))))).seq ((headC (tailC (thnC (tailC (headC (dropC 5 p39)))))).seq (tailC (tailC (thnC (tailC (headC (dropC 5 p39)))))))) .skip)).seq (dropC 6 p39) := by kernel_rfl
theorem p39_6 : dropC 6 p39 = ((headC (headC (dropC 6 p39))).seq (Code.cond (.tmp 68) ((headC (thnC (tailC (headC (dropC 6 p39))))).seq (Code.cond (.tmp 72) .ret .skip)) .skip)).seq (dropC 7 p39) := by kernel_rfl
theorem p39_7 : dropC 7 p39 = ((headC (headC (dropC 7 p39))).seq (Code.cond (.tmp 82) ((headC (thnC (tailC (headC (dropC 7 p39))))).seq ((headC (tailC (thnC (tailC (headC (dropC 7 p39)))))).seq (.exit 1))) .skip)).seq (dropC 8 p39) := by kernel_rfl
theorem p39_8 : dropC 8 p39 = (headC (dropC 8 p39)).seq ((headC (dropC 9 p39)).seq ((headC (dropC 10 p39)).seq ((headC (dropC 11 p39)).seq ((headC (dropC 12 p39)).seq (Code.cond (.tmp 108) ((headC (thnC (tailC (dropC 12 p39)))).seq ((headC (tailC (thnC (tailC (dropC 12 p39))))).seq (tailC (tailC (thnC (tailC (dropC 12 p39))))))) ((headC (elsC (tailC (dropC 12 p39)))).seq ((headC (tailC (elsC (tailC (dropC 12 p39))))).seq (tailC (tailC (elsC (tailC (dropC 12 p39)))))))))))) := by kernel_rfl
theorem l39_0 : l39 = (headC l39).seq ((headC (dropC 1 l39)).seq (Code.block 0 (.loop (Code.block 1 p39)))) := by kernel_rfl
set_option maxRecDepth 100000 in
set_option maxHeartbeats 1000000 in
theorem pdqT (X : Srt H0 rv N lt S) (hO : SWO lt) (a0 b0 : Nat) (d : Array Int) (a b l : Nat) (wb wp : Bool) (n p : Int) (IH : PdqOk rv lt S N (b - a)) (hn : n = (b : Int) - (a : Int)) (hab : a + 12 < b) (hbN : b ≤ N) (hl : l < 1000) (hp : (a : Int) ≤ p) (hp2 : p < b) (Q : Exit → Act → World → Prop) (hN : RoundEnd rv lt S N a0 b0 d (b - a) (Q .normal)) (dk : Array Int) (w : World) (hS : S dk w) (hF : Fin lt a0 b0 d a b dk) (f : Nat → Value) (H : Has f [(0, .iface 83 rv), (1, .int .i64 ((a : Nat) : Int)), (2, .int .i64 ((b : Nat) : Int)), (3, .int .i64 ((l : Nat) : Int)), (8, .bool wb), (9, .bool wp), (10, .int .i64 n), (11, .int .i64 p)]) :
    Code.wp Ybaf.prog (dropC 8 p39) Q (Fm 129 f) w := by
  have hsz := X.small
  rw [p39_8]
  obtain ⟨p, rfl⟩ : ∃ p' : Nat, p = (p' : Int) := ⟨p.toNat, by omega⟩
  have hc : CallR 52 #[.iface 83 rv, .int .i64 ((a : Nat) : Int), .int .i64 ((b : Nat) : Int), .int .i64 ((p : Nat) : Int)] w fun v w' => ∃ x y : Value, v = .tuple #[x, y] ∧ ∃ (m : Nat) (q : Bool), x = .int .i64 ((m : Nat) : Int) ∧ y = .bool q ∧ ∃ (d' : Array Int), S d' w' ∧ PermIn a b dk d' ∧ a ≤ m ∧ m < b ∧ (∀ i, a ≤ i → i < m → lt d'[i]! d'[m]! = true) ∧ (∀ i, m < i → i < b → lt d'[i]! d'[m]! = false) :=
    (part_any X a b p dk w hS (by omega) (by omega) hbN).mono fun e w' ⟨m, q, h1, h2⟩ => ⟨_, h1, _, _, rfl, m, q, rfl, rfl, h2⟩
  refine wp_seq (wp_use (q20 rv a b p w _ hc f H.1 H.2.1 H.2.2.1 H.2.2.2.2.2.2.2.1 _ ?_))
  intro f1 x y w1 S1 e1_14 e1_15 hR1
  have H1 : Has f1 [(14, x), (15, y), (0, .iface 83 rv), (1, .int .i64 ((a : Nat) : Int)), (2, .int .i64 ((b : Nat) : Int)), (3, .int .i64 ((l : Nat) : Int)), (8, .bool wb), (9, .bool wp), (10, .int .i64 n), (11, .int .i64 ((p : Nat) : Int))] := ⟨e1_14, e1_15, H.keep S1⟩
  obtain ⟨m, q, rfl, rfl, d7, hS7, hp7, hm7, hm7', hlo7, hhi7⟩ := hR1
  obtain ⟨hB7, hB7', hL7, hR7⟩ := hF.left hO hp7 hm7 hm7' hlo7 hhi7
  refine wp_seq (wp_use (q21 _ _ f1 H1.2.1 _ ?_))
  intro f2  S2 e2_9 
  have H2 : Has f2 [(9, .bool q), (14, .int .i64 ((m : Nat) : Int)), (15, .bool q), (0, .iface 83 rv), (1, .int .i64 ((a : Nat) : Int)), (2, .int .i64 ((b : Nat) : Int)), (3, .int .i64 ((l : Nat) : Int)), (8, .bool wb), (10, .int .i64 n), (11, .int .i64 ((p : Nat) : Int))] := ⟨e2_9, H1.keep S2⟩
  refine wp_seq (wp_use (q22 a b m _ hm7 hm7' (by omega) (by omega) f2 H2.2.2.2.2.1 H2.2.2.2.2.2.1 H2.2.1 _ ?_))
  intro f3  S3 e3_16 e3_17 
  have H3 : Has f3 [(16, .int .i64 ((m : Int) - (a : Int))), (17, .int .i64 ((b : Int) - (m : Int))), (9, .bool q), (14, .int .i64 ((m : Nat) : Int)), (15, .bool q), (0, .iface 83 rv), (1, .int .i64 ((a : Nat) : Int)), (2, .int .i64 ((b : Nat) : Int)), (3, .int .i64 ((l : Nat) : Int)), (8, .bool wb), (10, .int .i64 n), (11, .int .i64 ((p : Nat) : Int))] := ⟨e3_16, e3_17, H2.keep S3⟩
  refine wp_seq (wp_use (q23 n _ (by omega) (by omega) f3 H3.2.2.2.2.2.2.2.2.2.2.1 _ ?_))
  intro f4  S4 e4_18 
  have H4 : Has f4 [(18, .int .i64 (n / 8)), (16, .int .i64 ((m : Int) - (a : Int))), (17, .int .i64 ((b : Int) - (m : Int))), (9, .bool q), (14, .int .i64 ((m : Nat) : Int)), (15, .bool q), (0, .iface 83 rv), (1, .int .i64 ((a : Nat) : Int)), (2, .int .i64 ((b : Nat) : Int)), (3, .int .i64 ((l : Nat) : Int)), (8, .bool wb), (10, .int .i64 n), (11, .int .i64 ((p : Nat) : Int))] := ⟨e4_18, H3.keep S4⟩
  refine wp_seq (wp_use (q24 _ _ _ f4 H4.2.1 H4.2.2.1 _ ?_))
  intro f5  S5 e5_108 
  have H5 : Has f5 [(108, .bool (decide (((m : Int) - (a : Int)) < ((b : Int) - (m : Int))))), (18, .int .i64 (n / 8)), (16, .int .i64 ((m : Int) - (a : Int))), (17, .int .i64 ((b : Int) - (m : Int))), (9, .bool q), (14, .int .i64 ((m : Nat) : Int)), (15, .bool q), (0, .iface 83 rv), (1, .int .i64 ((a : Nat) : Int)), (2, .int .i64 ((b : Nat) : Int)), (3, .int .i64 ((l : Nat) : Int)), (8, .bool wb), (10, .int .i64 n), (11, .int .i64 ((p : Nat) : Int))] := ⟨e5_108, H4.keep S5⟩
  by_cases hcd : ((m : Int) - (a : Int)) < ((b : Int) - (m : Int))
  · refine wp_cond_true (evN rfl (H5.1.trans (by rw [decide_eq_true hcd]))) ?_
    refine wp_seq (wp_use (q25 _ _ _ f5 H5.2.2.1 H5.2.1 _ ?_))
    intro f6  S6 e6_8 
    have H6 : Has f6 [(8, .bool (decide ((n / 8) ≤ ((m : Int) - (a : Int))))), (108, .bool (decide (((m : Int) - (a : Int)) < ((b : Int) - (m : Int))))), (18, .int .i64 (n / 8)), (16, .int .i64 ((m : Int) - (a : Int))), (17, .int .i64 ((b : Int) - (m : Int))), (9, .bool q), (14, .int .i64 ((m : Nat) : Int)), (15, .bool q), (0, .iface 83 rv), (1, .int .i64 ((a : Nat) : Int)), (2, .int .i64 ((b : Nat) : Int)), (3, .int .i64 ((l : Nat) : Int)), (10, .int .i64 n), (11, .int .i64 ((p : Nat) : Int))] := ⟨e6_8, H5.keep S6⟩
    have hc2 : CallR 39 #[.iface 83 rv, .int .i64 ((a : Nat) : Int), .int .i64 ((m : Nat) : Int), .int .i64 ((l : Nat) : Int)] w1 fun v w' => ∃ d', S d' w' ∧ PermIn a m d7 d' ∧ SortedIn lt a m d' :=
      (IH a m l _ d7 w1 rfl (by omega) hS7 hm7 (by omega) hB7 hl).mono fun e w' ⟨h1, h2⟩ => ⟨_, h1, h2⟩
    refine wp_seq (wp_use (q26 rv a m l _ _ hc2 f6 H6.2.2.2.2.2.2.2.2.1 H6.2.2.2.2.2.2.2.2.2.1 H6.2.2.2.2.2.2.2.2.2.2.2.1 H6.2.2.2.2.2.2.1 _ ?_))
    intro f7 v2 w2 S7  hR2
    have H7 : Has f7 [(8, .bool (decide ((n / 8) ≤ ((m : Int) - (a : Int))))), (108, .bool (decide (((m : Int) - (a : Int)) < ((b : Int) - (m : Int))))), (18, .int .i64 (n / 8)), (16, .int .i64 ((m : Int) - (a : Int))), (17, .int .i64 ((b : Int) - (m : Int))), (9, .bool q), (14, .int .i64 ((m : Nat) : Int)), (15, .bool q), (0, .iface 83 rv), (1, .int .i64 ((a : Nat) : Int)), (2, .int .i64 ((b : Nat) : Int)), (3, .int .i64 ((l : Nat) : Int)), (10, .int .i64 n), (11, .int .i64 ((p : Nat) : Int))] := H6.keep S7
    obtain ⟨d8, hS8, hp8, hs8⟩ := hR2
    refine wp_use (q27 m _ (by omega) f7 H7.2.2.2.2.2.2.1 _ ?_)
    intro f8  S8 e8_1 
    have H8 : Has f8 [(1, .int .i64 ((m + 1 : Nat) : Int)), (8, .bool (decide ((n / 8) ≤ ((m : Int) - (a : Int))))), (108, .bool (decide (((m : Int) - (a : Int)) < ((b : Int) - (m : Int))))), (18, .int .i64 (n / 8)), (16, .int .i64 ((m : Int) - (a : Int))), (17, .int .i64 ((b : Int) - (m : Int))), (9, .bool q), (14, .int .i64 ((m : Nat) : Int)), (15, .bool q), (0, .iface 83 rv), (2, .int .i64 ((b : Nat) : Int)), (3, .int .i64 ((l : Nat) : Int)), (10, .int .i64 n), (11, .int .i64 ((p : Nat) : Int))] := ⟨e8_1, H7.keep S8⟩
    exact hN f8 (m + 1) b l _ _ d8 w2 ⟨H8.2.2.2.2.2.2.2.2.2.1, H8.1, H8.2.2.2.2.2.2.2.2.2.2.1, H8.2.2.2.2.2.2.2.2.2.2.2.1, H8.2.1, H8.2.2.2.2.2.2.1, trivial⟩ hl (by omega) hbN (by omega) hS8 (hL7 d8 hp8 hs8)
  · refine wp_cond_false (evN rfl (H5.1.trans (by rw [decide_eq_false hcd]))) ?_
    refine wp_seq (wp_use (q28 _ _ _ f5 H5.2.2.2.1 H5.2.1 _ ?_))
    intro f6  S6 e6_8 
    have H6 : Has f6 [(8, .bool (decide ((n / 8) ≤ ((b : Int) - (m : Int))))), (108, .bool (decide (((m : Int) - (a : Int)) < ((b : Int) - (m : Int))))), (18, .int .i64 (n / 8)), (16, .int .i64 ((m : Int) - (a : Int))), (17, .int .i64 ((b : Int) - (m : Int))), (9, .bool q), (14, .int .i64 ((m : Nat) : Int)), (15, .bool q), (0, .iface 83 rv), (1, .int .i64 ((a : Nat) : Int)), (2, .int .i64 ((b : Nat) : Int)), (3, .int .i64 ((l : Nat) : Int)), (10, .int .i64 n), (11, .int .i64 ((p : Nat) : Int))] := ⟨e6_8, H5.keep S6⟩
    have hc2 : CallR 39 #[.iface 83 rv, .int .i64 ((m : Int) + 1), .int .i64 ((b : Nat) : Int), .int .i64 ((l : Nat) : Int)] w1 fun v w' => ∃ d', S d' w' ∧ PermIn (m + 1) b d7 d' ∧ SortedIn lt (m + 1) b d' :=
      (IH (m + 1) b l _ d7 w1 (by omega) (by omega) hS7 (by omega) hbN hB7' hl).mono fun e w' ⟨h1, h2⟩ => ⟨_, h1, h2⟩
    refine wp_seq (wp_use (q29 rv b m l (by omega) _ _ hc2 f6 H6.2.2.2.2.2.2.2.2.1 H6.2.2.2.2.2.2.2.2.2.2.1 H6.2.2.2.2.2.2.2.2.2.2.2.1 H6.2.2.2.2.2.2.1 _ ?_))
    intro f7 v2 w2 S7  hR2
    have H7 : Has f7 [(8, .bool (decide ((n / 8) ≤ ((b : Int) - (m : Int))))), (108, .bool (decide (((m : Int) - (a : Int)) < ((b : Int) - (m : Int))))), (18, .int .i64 (n / 8)), (16, .int .i64 ((m : Int) - (a : Int))), (17, .int .i64 ((b : Int) - (m : Int))), (9, .bool q), (14, .int .i64 ((m : Nat) : Int)), (15, .bool q), (0, .iface 83 rv), (1, .int .i64 ((a : Nat) : Int)), (2, .int .i64 ((b : Nat) : Int)), (3, .int .i64 ((l : Nat) : Int)), (10, .int .i64 n), (11, .int .i64 ((p : Nat) : Int))] := H6.keep S7
    obtain ⟨d8, hS8, hp8, hs8⟩ := hR2
    refine wp_use (q30 m _ f7 H7.2.2.2.2.2.2.1 _ ?_)
    intro f8  S8 e8_2 
    have H8 : Has f8 [(2, .int .i64 ((m : Nat) : Int)), (8, .bool (decide ((n / 8) ≤ ((b : Int) - (m : Int))))), (108, .bool (decide (((m : Int) - (a : Int)) < ((b : Int) - (m : Int))))), (18, .int .i64 (n / 8)), (16, .int .i64 ((m : Int) - (a : Int))), (17, .int .i64 ((b : Int) - (m : Int))), (9, .bool q), (14, .int .i64 ((m : Nat) : Int)), (15, .bool q), (0, .iface 83 rv), (1, .int .i64 ((a : Nat) : Int)), (3, .int .i64 ((l : Nat) : Int)), (10, .int .i64 n), (11, .int .i64 ((p : Nat) : Int))] := ⟨e8_2, H7.keep S8⟩
    exact hN f8 a m l _ _ d8 w2 ⟨H8.2.2.2.2.2.2.2.2.2.1, H8.2.2.2.2.2.2.2.2.2.2.1, H8.1, H8.2.2.2.2.2.2.2.2.2.2.2.1, H8.2.1, H8.2.2.2.2.2.2.1, trivial⟩ hl (by omega) (by omega) hm7 hS8 (hR7 d8 hp8 hs8)
set_option maxRecDepth 100000 in
set_option maxHeartbeats 1000000 in
theorem pdq7 (X : Srt H0 rv N lt S) (hO : SWO lt) (a0 b0 : Nat) (d : Array Int) (a b l : Nat) (wb wp : Bool) (n p : Int) (IH : PdqOk rv lt S N (b - a)) (hn : n = (b : Int) - (a : Int)) (hab : a + 12 < b) (hbN : b ≤ N) (hl : l < 1000) (hp : (a : Int) ≤ p) (hp2 : p < b) (Q : Exit → Act → World → Prop) (hN : RoundEnd rv lt S N a0 b0 d (b - a) (Q .normal)) (hE : RoundEnd rv lt S N a0 b0 d (b - a) (Q (.exit 1))) (dk : Array Int) (w : World) (hS : S dk w) (hF : Fin lt a0 b0 d a b dk) (f : Nat → Value) (H : Has f [(0, .iface 83 rv), (1, .int .i64 ((a : Nat) : Int)), (2, .int .i64 ((b : Nat) : Int)), (3, .int .i64 ((l : Nat) : Int)), (8, .bool wb), (9, .bool wp), (10, .int .i64 n), (11, .int .i64 p)]) :
    Code.wp Ybaf.prog (dropC 7 p39) Q (Fm 129 f) w := by
  have hsz := X.small
  rw [p39_7]
  obtain ⟨p, rfl⟩ : ∃ p' : Nat, p = (p' : Int) := ⟨p.toNat, by omega⟩
  by_cases ha : a = 0
  · subst ha
    refine wp_seq (wp_seq (wp_use (q17z _ f H.2.1 _ ?_)))
    intro f1  S1 e1_82 
    have H1 : Has f1 [(82, .bool false), (0, .iface 83 rv), (1, .int .i64 ((0 : Nat) : Int)), (2, .int .i64 ((b : Nat) : Int)), (3, .int .i64 ((l : Nat) : Int)), (8, .bool wb), (9, .bool wp), (10, .int .i64 n), (11, .int .i64 ((p : Nat) : Int))] := ⟨e1_82, H.keep S1⟩
    refine wp_cond_false (evN rfl H1.1) (wp_skip ?_)
    exact pdqT X hO a0 b0 d 0 b l wb wp n p IH hn hab hbN hl hp hp2 Q hN dk w hS hF f1 ⟨H1.2.1, H1.2.2.1, H1.2.2.2.1, H1.2.2.2.2.1, H1.2.2.2.2.2.1, H1.2.2.2.2.2.2.1, H1.2.2.2.2.2.2.2.1, H1.2.2.2.2.2.2.2.2.1, trivial⟩
  · have hc : CallR 103 #[rv, .int .i64 ((a : Int) - 1), .int .i64 ((p : Nat) : Int)] w fun v w' => ∃ q : Bool, v = .bool q ∧ (S dk w' ∧ q = lt dk[a - 1]! dk[p]!) :=
      (X.lessI dk w ((a : Int) - 1) ((p : Nat) : Int) hS (by omega) (by omega) (by omega) (by omega)).mono fun e w' ⟨h1, h2, _⟩ => ⟨_, h1, _, rfl, h2, by rw [show ((a : Int) - 1).toNat = a - 1 by omega, Int.toNat_natCast]⟩
    refine wp_seq (wp_seq (wp_use (q17 rv a p w X.mless (by omega) (by omega) _ hc f H.1 H.2.1 H.2.2.2.2.2.2.2.1 _ ?_)))
    intro f1 q w1 S1 e1_82 hR1
    have H1 : Has f1 [(82, .bool (!q)), (0, .iface 83 rv), (1, .int .i64 ((a : Nat) : Int)), (2, .int .i64 ((b : Nat) : Int)), (3, .int .i64 ((l : Nat) : Int)), (8, .bool wb), (9, .bool wp), (10, .int .i64 n), (11, .int .i64 ((p : Nat) : Int))] := ⟨e1_82, H.keep S1⟩
    obtain ⟨hS1, hq⟩ := hR1
    cases q with
    | false =>
      refine wp_cond_true (evN rfl H1.1) ?_
      have hc2 : CallR 51 #[.iface 83 rv, .int .i64 ((a : Nat) : Int), .int .i64 ((b : Nat) : Int), .int .i64 ((p : Nat) : Int)] w1 fun v w' => ∃ (m : Nat), v = .int .i64 ((m : Nat) : Int) ∧ ∃ d' : Array Int, S d' w' ∧ PermIn a b dk d' ∧ a < m ∧ m ≤ b ∧ d'[a]! = dk[p]! ∧ (∀ i, a < i → i < m → lt d'[a]! d'[i]! = false) ∧ (∀ i, m ≤ i → i < b → lt d'[a]! d'[i]! = true) :=
        (parteq_any X a b p dk w1 hS1 (by omega) (by omega) hbN).mono fun e w' ⟨m, h1, h2⟩ => ⟨_, h1, m, rfl, h2⟩
      refine wp_seq (wp_use (q18 rv a b p w1 _ hc2 f1 H1.2.1 H1.2.2.1 H1.2.2.2.1 H1.2.2.2.2.2.2.2.2.1 _ ?_))
      intro f2 v w2 S2 e2_13 hR2
      have H2 : Has f2 [(13, v), (82, .bool true), (0, .iface 83 rv), (1, .int .i64 ((a : Nat) : Int)), (2, .int .i64 ((b : Nat) : Int)), (3, .int .i64 ((l : Nat) : Int)), (8, .bool wb), (9, .bool wp), (10, .int .i64 n), (11, .int .i64 ((p : Nat) : Int))] := ⟨e2_13, H1.keep S2⟩
      obtain ⟨m6, rfl, d6, hS6, hp6, hm6, hm6', hv6, hle6, hgt6⟩ := hR2
      refine wp_seq (wp_use (q19 _ _ f2 H2.1 _ ?_))
      intro f3  S3 e3_1 
      have H3 : Has f3 [(1, .int .i64 ((m6 : Nat) : Int)), (13, .int .i64 ((m6 : Nat) : Int)), (82, .bool true), (0, .iface 83 rv), (2, .int .i64 ((b : Nat) : Int)), (3, .int .i64 ((l : Nat) : Int)), (8, .bool wb), (9, .bool wp), (10, .int .i64 n), (11, .int .i64 ((p : Nat) : Int))] := ⟨e3_1, H2.keep S3⟩
      exact wp_exit (hE f3 m6 b l wb wp d6 w2 ⟨H3.2.2.2.1, H3.1, H3.2.2.2.2.1, H3.2.2.2.2.2.1, H3.2.2.2.2.2.2.1, H3.2.2.2.2.2.2.2.1, trivial⟩ hl (by omega) hbN hm6' hS6 (hF.eq hO (by omega) (by omega) (by omega) hq.symm hp6 hm6 hm6' hv6 hle6 hgt6))
    | true =>
      refine wp_cond_false (evN rfl H1.1) (wp_skip ?_)
      exact pdqT X hO a0 b0 d a b l wb wp n p IH hn hab hbN hl hp hp2 Q hN dk w1 hS1 hF f1 ⟨H1.2.1, H1.2.2.1, H1.2.2.2.1, H1.2.2.2.2.1, H1.2.2.2.2.2.1, H1.2.2.2.2.2.2.1, H1.2.2.2.2.2.2.2.1, H1.2.2.2.2.2.2.2.2.1, trivial⟩
set_option maxRecDepth 100000 in
set_option maxHeartbeats 1000000 in
theorem pdq6 (X : Srt H0 rv N lt S) (hO : SWO lt) (a0 b0 : Nat) (d : Array Int) (a b l : Nat) (wb wp : Bool) (n p h : Int) (IH : PdqOk rv lt S N (b - a)) (hn : n = (b : Int) - (a : Int)) (hab : a + 12 < b) (hbN : b ≤ N) (hl : l < 1000) (hp : (a : Int) ≤ p) (hp2 : p < b) (Q : Exit → Act → World → Prop) (hN : RoundEnd rv lt S N a0 b0 d (b - a) (Q .normal)) (hE : RoundEnd rv lt S N a0 b0 d (b - a) (Q (.exit 1))) (hR : ∀ (f : Nat → Value) (dk : Array Int) (w : World), S dk w → PermIn a0 b0 d dk → SortedIn lt a0 b0 dk → Q .ret (Fm 129 f) w) (dk : Array Int) (w : World) (hS : S dk w) (hF : Fin lt a0 b0 d a b dk) (f : Nat → Value) (H : Has f [(0, .iface 83 rv), (1, .int .i64 ((a : Nat) : Int)), (2, .int .i64 ((b : Nat) : Int)), (3, .int .i64 ((l : Nat) : Int)), (8, .bool wb), (9, .bool wp), (10, .int .i64 n), (11, .int .i64 p), (12, .int .i64 h)]) :
    Code.wp Ybaf.prog (dropC 6 p39) Q (Fm 129 f) w := by
  have hsz := X.small
  rw [p39_6]
  refine wp_join (fun a' w' => ∃ (g : Nat → Value) (dj : Array Int), a' = Fm 129 g ∧ Has g [(0, .iface 83 rv), (1, .int .i64 ((a : Nat) : Int)), (2, .int .i64 ((b : Nat) : Int)), (3, .int .i64 ((l : Nat) : Int)), (8, .bool wb), (9, .bool wp), (10, .int .i64 n), (11, .int .i64 p)] ∧ S dj w' ∧ Fin lt a0 b0 d a b dj) ?_ ?_
  · cases wb with
    | false =>
      refine wp_seq (wp_use (q15f _ f H.2.2.2.2.1 _ ?_))
      intro f1  S1 e1_68 
      have H1 : Has f1 [(68, .bool false), (0, .iface 83 rv), (1, .int .i64 ((a : Nat) : Int)), (2, .int .i64 ((b : Nat) : Int)), (3, .int .i64 ((l : Nat) : Int)), (8, .bool false), (9, .bool wp), (10, .int .i64 n), (11, .int .i64 p), (12, .int .i64 h)] := ⟨e1_68, H.keep S1⟩
      refine wp_cond_false (evN rfl H1.1) (wp_skip ?_)
      exact ⟨f1, dk, rfl, ⟨H1.2.1, H1.2.2.1, H1.2.2.2.1, H1.2.2.2.2.1, H1.2.2.2.2.2.1, H1.2.2.2.2.2.2.1, H1.2.2.2.2.2.2.2.1, H1.2.2.2.2.2.2.2.2.1, trivial⟩, hS, hF⟩
    | true =>
      cases wp with
      | false =>
        refine wp_seq (wp_use (q15tf _ f H.2.2.2.2.1 H.2.2.2.2.2.1 _ ?_))
        intro f1  S1 e1_68 
        have H1 : Has f1 [(68, .bool false), (0, .iface 83 rv), (1, .int .i64 ((a : Nat) : Int)), (2, .int .i64 ((b : Nat) : Int)), (3, .int .i64 ((l : Nat) : Int)), (8, .bool true), (9, .bool false), (10, .int .i64 n), (11, .int .i64 p), (12, .int .i64 h)] := ⟨e1_68, H.keep S1⟩
        refine wp_cond_false (evN rfl H1.1) (wp_skip ?_)
        exact ⟨f1, dk, rfl, ⟨H1.2.1, H1.2.2.1, H1.2.2.2.1, H1.2.2.2.2.1, H1.2.2.2.2.2.1, H1.2.2.2.2.2.2.1, H1.2.2.2.2.2.2.2.1, H1.2.2.2.2.2.2.2.2.1, trivial⟩, hS, hF⟩
      | true =>
        refine wp_seq (wp_use (q15t h _ f H.2.2.2.2.1 H.2.2.2.2.2.1 H.2.2.2.2.2.2.2.2.1 _ ?_))
        intro f1  S1 e1_68 
        have H1 : Has f1 [(68, .bool (h == 1)), (0, .iface 83 rv), (1, .int .i64 ((a : Nat) : Int)), (2, .int .i64 ((b : Nat) : Int)), (3, .int .i64 ((l : Nat) : Int)), (8, .bool true), (9, .bool true), (10, .int .i64 n), (11, .int .i64 p), (12, .int .i64 h)] := ⟨e1_68, H.keep S1⟩
        cases hh : (h == 1) with
        | false =>
          refine wp_cond_false (evN rfl (H1.1.trans (by rw [hh]))) (wp_skip ?_)
          exact ⟨f1, dk, rfl, ⟨H1.2.1, H1.2.2.1, H1.2.2.2.1, H1.2.2.2.2.1, H1.2.2.2.2.2.1, H1.2.2.2.2.2.2.1, H1.2.2.2.2.2.2.2.1, H1.2.2.2.2.2.2.2.2.1, trivial⟩, hS, hF⟩
        | true =>
          refine wp_cond_true (evN rfl (H1.1.trans (by rw [hh]))) ?_
          have hc : CallR 50 #[.iface 83 rv, .int .i64 ((a : Nat) : Int), .int .i64 ((b : Nat) : Int)] w fun v w' => ∃ q : Bool, v = .bool q ∧ ∃ d' : Array Int, S d' w' ∧ PermIn a b dk d' ∧ (q = true → SortedIn lt a b d') :=
            (pis_any X hO a b dk w hS (by omega) hbN hF.2.2.1).mono fun e w' ⟨q, h1, h2⟩ => ⟨_, h1, q, rfl, h2⟩
          refine wp_seq (wp_use (q16 rv a b w _ hc f1 H1.2.1 H1.2.2.1 H1.2.2.2.1 _ ?_))
          intro f2 v w1 S2 e2_72 hR1
          have H2 : Has f2 [(72, v), (68, .bool (h == 1)), (0, .iface 83 rv), (1, .int .i64 ((a : Nat) : Int)), (2, .int .i64 ((b : Nat) : Int)), (3, .int .i64 ((l : Nat) : Int)), (8, .bool true), (9, .bool true), (10, .int .i64 n), (11, .int .i64 p), (12, .int .i64 h)] := ⟨e2_72, H1.keep S2⟩
          obtain ⟨q, rfl, d5, hS5, hp5, hs5⟩ := hR1
          cases q with
          | false =>
            refine wp_cond_false (evN rfl H2.1) (wp_skip ?_)
            exact ⟨f2, d5, rfl, ⟨H2.2.2.1, H2.2.2.2.1, H2.2.2.2.2.1, H2.2.2.2.2.2.1, H2.2.2.2.2.2.2.1, H2.2.2.2.2.2.2.2.1, H2.2.2.2.2.2.2.2.2.1, H2.2.2.2.2.2.2.2.2.2.1, trivial⟩, hS5, (hF.perm hp5)⟩
          | true =>
            refine wp_cond_true (evN rfl H2.1) (wp_ret ?_)
            have hz := hF.2.2.2 d5 hp5 (hs5 rfl)
            exact hR _ d5 w1 hS5 hz.1 hz.2
  · rintro _ w' ⟨g, dj, rfl, Hg, hSj, hFj⟩
    exact pdq7 X hO a0 b0 d a b l wb wp n p IH hn hab hbN hl hp hp2 Q hN hE dj w' hSj hFj g Hg
set_option maxRecDepth 100000 in
set_option maxHeartbeats 1000000 in
theorem pdq3 (X : Srt H0 rv N lt S) (hO : SWO lt) (a0 b0 : Nat) (d : Array Int) (a b l : Nat) (wb wp : Bool) (n : Int) (IH : PdqOk rv lt S N (b - a)) (hn : n = (b : Int) - (a : Int)) (hab : a + 12 < b) (hbN : b ≤ N) (hl : l < 1000) (hl0 : (((l : Nat) : Int) == 0) = false) (Q : Exit → Act → World → Prop) (hN : RoundEnd rv lt S N a0 b0 d (b - a) (Q .normal)) (hE : RoundEnd rv lt S N a0 b0 d (b - a) (Q (.exit 1))) (hR : ∀ (f : Nat → Value) (dk : Array Int) (w : World), S dk w → PermIn a0 b0 d dk → SortedIn lt a0 b0 dk → Q .ret (Fm 129 f) w) (dk : Array Int) (w : World) (hS : S dk w) (hF : Fin lt a0 b0 d a b dk) (f : Nat → Value) (H : Has f [(0, .iface 83 rv), (1, .int .i64 ((a : Nat) : Int)), (2, .int .i64 ((b : Nat) : Int)), (3, .int .i64 ((l : Nat) : Int)), (8, .bool wb), (9, .bool wp), (10, .int .i64 n)]) :
    Code.wp Ybaf.prog (dropC 3 p39) Q (Fm 129 f) w := by
  have hsz := X.small
  rw [p39_3]
  refine wp_join (fun a' w' => ∃ (g : Nat → Value) (dj : Array Int) (l1 : Nat), a' = Fm 129 g ∧ l1 < 1000 ∧ Has g [(0, .iface 83 rv), (1, .int .i64 ((a : Nat) : Int)), (2, .int .i64 ((b : Nat) : Int)), (3, .int .i64 ((l1 : Nat) : Int)), (8, .bool wb), (9, .bool wp), (10, .int .i64 n)] ∧ S dj w' ∧ Fin lt a0 b0 d a b dj) ?_ ?_
  · refine wp_seq (wp_use (q7 wb _ f H.2.2.2.2.1 _ ?_))
    intro f1  S1 e1_35 
    have H1 : Has f1 [(35, .bool (!wb)), (0, .iface 83 rv), (1, .int .i64 ((a : Nat) : Int)), (2, .int .i64 ((b : Nat) : Int)), (3, .int .i64 ((l : Nat) : Int)), (8, .bool wb), (9, .bool wp), (10, .int .i64 n)] := ⟨e1_35, H.keep S1⟩
    cases wb with
    | false =>
      refine wp_cond_true (evN rfl H1.1) ?_
      have hc : CallR 47 #[.iface 83 rv, .int .i64 ((a : Nat) : Int), .int .i64 ((b : Nat) : Int)] w fun v w' => ∃ d' : Array Int, S d' w' ∧ PermIn a b dk d' :=
        (brk_any X a b dk w hS hab hbN).mono fun e w' ⟨h1, h2⟩ => ⟨_, h1, h2⟩
      obtain ⟨l1, hl1, hl1'⟩ := lm1 l hl0 hl
      refine wp_seq (wp_use (q8 rv a b w _ hc f1 H1.2.1 H1.2.2.1 H1.2.2.2.1 _ ?_))
      intro f2 v w1 S2  hR1
      have H2 : Has f2 [(35, .bool true), (0, .iface 83 rv), (1, .int .i64 ((a : Nat) : Int)), (2, .int .i64 ((b : Nat) : Int)), (3, .int .i64 ((l : Nat) : Int)), (8, .bool false), (9, .bool wp), (10, .int .i64 n)] := H1.keep S2
      obtain ⟨d5, hS5, hp5⟩ := hR1
      refine wp_use (q9 l _ hl f2 H2.2.2.2.2.1 _ ?_)
      intro f3  S3 e3_3 
      have H3 : Has f3 [(3, .int .i64 ((l : Int) - 1)), (35, .bool true), (0, .iface 83 rv), (1, .int .i64 ((a : Nat) : Int)), (2, .int .i64 ((b : Nat) : Int)), (8, .bool false), (9, .bool wp), (10, .int .i64 n)] := ⟨e3_3, H2.keep S3⟩
      rw [hl1] at H3
      exact ⟨f3, d5, l1, rfl, hl1', ⟨H3.2.2.1, H3.2.2.2.1, H3.2.2.2.2.1, H3.1, H3.2.2.2.2.2.1, H3.2.2.2.2.2.2.1, H3.2.2.2.2.2.2.2.1, trivial⟩, hS5, (hF.perm hp5)⟩
    | true =>
      refine wp_cond_false (evN rfl H1.1) (wp_skip ?_)
      exact ⟨f1, dk, l, rfl, hl, ⟨H1.2.1, H1.2.2.1, H1.2.2.2.1, H1.2.2.2.2.1, H1.2.2.2.2.2.1, H1.2.2.2.2.2.2.1, H1.2.2.2.2.2.2.2.1, trivial⟩, hS, hF⟩
  · rintro _ w0 ⟨f, dk, l, rfl, hl, H, hS, hF⟩
    have hc : CallR 48 #[.iface 83 rv, .int .i64 ((a : Nat) : Int), .int .i64 ((b : Nat) : Int)] w0 fun v w' => ∃ x y : Value, v = .tuple #[x, y] ∧ ∃ (m : Nat) (h : Int), x = .int .i64 ((m : Nat) : Int) ∧ y = .int .i64 h ∧ a ≤ m ∧ m < b ∧ S dk w' :=
      (pivot_any X a b dk w0 hS hab hbN).mono fun e w' ⟨m, h, h1, h2⟩ => ⟨_, h1, _, _, rfl, m, h, rfl, rfl, h2⟩
    refine wp_seq (wp_use (q10 rv a b w0 _ hc f H.1 H.2.1 H.2.2.1 _ ?_))
    intro f1 x y w1 S1 e1_11 e1_12 hR1
    have H1 : Has f1 [(11, x), (12, y), (0, .iface 83 rv), (1, .int .i64 ((a : Nat) : Int)), (2, .int .i64 ((b : Nat) : Int)), (3, .int .i64 ((l : Nat) : Int)), (8, .bool wb), (9, .bool wp), (10, .int .i64 n)] := ⟨e1_11, e1_12, H.keep S1⟩
    obtain ⟨m, h, rfl, rfl, hm1, hm2, hS1⟩ := hR1
    rw [p39_5]
    refine wp_join (fun a' w' => ∃ (g : Nat → Value) (dj : Array Int) (p h : Int), a' = Fm 129 g ∧ (a : Int) ≤ p ∧ p < b ∧ Has g [(0, .iface 83 rv), (1, .int .i64 ((a : Nat) : Int)), (2, .int .i64 ((b : Nat) : Int)), (3, .int .i64 ((l : Nat) : Int)), (8, .bool wb), (9, .bool wp), (10, .int .i64 n), (11, .int .i64 p), (12, .int .i64 h)] ∧ S dj w' ∧ Fin lt a0 b0 d a b dj) ?_ ?_
    · refine wp_seq (wp_use (q11 h _ f1 H1.2.1 _ ?_))
      intro f2  S2 e2_50 
      have H2 : Has f2 [(50, .bool (h == 2)), (11, .int .i64 ((m : Nat) : Int)), (12, .int .i64 h), (0, .iface 83 rv), (1, .int .i64 ((a : Nat) : Int)), (2, .int .i64 ((b : Nat) : Int)), (3, .int .i64 ((l : Nat) : Int)), (8, .bool wb), (9, .bool wp), (10, .int .i64 n)] := ⟨e2_50, H1.keep S2⟩
      cases hh : (h == 2) with
      | false =>
        refine wp_cond_false (evN rfl (H2.1.trans (by rw [hh]))) (wp_skip ?_)
        exact ⟨f2, dk, _, _, rfl, by omega, by omega, ⟨H2.2.2.2.1, H2.2.2.2.2.1, H2.2.2.2.2.2.1, H2.2.2.2.2.2.2.1, H2.2.2.2.2.2.2.2.1, H2.2.2.2.2.2.2.2.2.1, H2.2.2.2.2.2.2.2.2.2.1, H2.2.1, H2.2.2.1, trivial⟩, hS1, hF⟩
      | true =>
        refine wp_cond_true (evN rfl (H2.1.trans (by rw [hh]))) ?_
        have hc2 : CallR 49 #[.iface 83 rv, .int .i64 ((a : Nat) : Int), .int .i64 ((b : Nat) : Int)] w1 fun v w' => ∃ d' : Array Int, S d' w' ∧ PermIn a b dk d' :=
          (rev_any X a b dk w1 hS1 (by omega) hbN).mono fun e w' ⟨h1, h2⟩ => ⟨_, h1, h2⟩
        refine wp_seq (wp_use (q12 rv a b w1 _ hc2 f2 H2.2.2.2.1 H2.2.2.2.2.1 H2.2.2.2.2.2.1 _ ?_))
        intro f3 v w2 S3  hR2
        have H3 : Has f3 [(50, .bool (h == 2)), (11, .int .i64 ((m : Nat) : Int)), (12, .int .i64 h), (0, .iface 83 rv), (1, .int .i64 ((a : Nat) : Int)), (2, .int .i64 ((b : Nat) : Int)), (3, .int .i64 ((l : Nat) : Int)), (8, .bool wb), (9, .bool wp), (10, .int .i64 n)] := H2.keep S3
        obtain ⟨d5, hS5, hp5⟩ := hR2
        refine wp_seq (wp_use (q13 a b m _ hm1 hm2 (by omega) (by omega) f3 H3.2.2.2.2.1 H3.2.2.2.2.2.1 H3.2.1 _ ?_))
        intro f4  S4 e4_11 
        have H4 : Has f4 [(11, .int .i64 (((b : Int) - 1) - ((m : Int) - (a : Int)))), (50, .bool (h == 2)), (12, .int .i64 h), (0, .iface 83 rv), (1, .int .i64 ((a : Nat) : Int)), (2, .int .i64 ((b : Nat) : Int)), (3, .int .i64 ((l : Nat) : Int)), (8, .bool wb), (9, .bool wp), (10, .int .i64 n)] := ⟨e4_11, H3.keep S4⟩
        refine wp_use (q14 _ f4  _ ?_)
        intro f5  S5 e5_12 
        have H5 : Has f5 [(12, .int .i64 1), (11, .int .i64 (((b : Int) - 1) - ((m : Int) - (a : Int)))), (50, .bool (h == 2)), (0, .iface 83 rv), (1, .int .i64 ((a : Nat) : Int)), (2, .int .i64 ((b : Nat) : Int)), (3, .int .i64 ((l : Nat) : Int)), (8, .bool wb), (9, .bool wp), (10, .int .i64 n)] := ⟨e5_12, H4.keep S5⟩
        exact ⟨f5, d5, _, _, rfl, by omega, by omega, ⟨H5.2.2.2.1, H5.2.2.2.2.1, H5.2.2.2.2.2.1, H5.2.2.2.2.2.2.1, H5.2.2.2.2.2.2.2.1, H5.2.2.2.2.2.2.2.2.1, H5.2.2.2.2.2.2.2.2.2.1, H5.2.1, H5.1, trivial⟩, hS5, (hF.perm hp5)⟩
    · rintro _ w' ⟨g, dj, p, h, rfl, hp, hp2, Hg, hSj, hFj⟩
      exact pdq6 X hO a0 b0 d a b l wb wp n p h IH hn hab hbN hl hp hp2 Q hN hE hR dj w' hSj hFj g Hg
set_option maxRecDepth 100000 in
set_option maxHeartbeats 1000000 in
theorem pdqR (X : Srt H0 rv N lt S) (hO : SWO lt) (a0 b0 : Nat) (d : Array Int) (a b l : Nat) (wb wp : Bool) (IH : PdqOk rv lt S N (b - a)) (hab : a ≤ b) (hbN : b ≤ N) (hl : l < 1000) (Q : Exit → Act → World → Prop) (hN : RoundEnd rv lt S N a0 b0 d (b - a) (Q .normal)) (hE : RoundEnd rv lt S N a0 b0 d (b - a) (Q (.exit 1))) (hR : ∀ (f : Nat → Value) (dk : Array Int) (w : World), S dk w → PermIn a0 b0 d dk → SortedIn lt a0 b0 dk → Q .ret (Fm 129 f) w) (dk : Array Int) (w : World) (hS : S dk w) (hF : Fin lt a0 b0 d a b dk) (f : Nat → Value) (H : Has f [(0, .iface 83 rv), (1, .int .i64 ((a : Nat) : Int)), (2, .int .i64 ((b : Nat) : Int)), (3, .int .i64 ((l : Nat) : Int)), (8, .bool wb), (9, .bool wp)]) :
    Code.wp Ybaf.prog p39 Q (Fm 129 f) w := by
  have hsz := X.small
  have hds := X.size dk w hS
  rw [p39_0]
  refine wp_seq (wp_use (q2 a b _ (by omega) (by omega) f H.2.1 H.2.2.1 _ ?_))
  intro f1  S1 e1_10 
  have H1 : Has f1 [(10, .int .i64 ((b : Int) - (a : Int))), (0, .iface 83 rv), (1, .int .i64 ((a : Nat) : Int)), (2, .int .i64 ((b : Nat) : Int)), (3, .int .i64 ((l : Nat) : Int)), (8, .bool wb), (9, .bool wp)] := ⟨e1_10, H.keep S1⟩
  refine wp_seq (wp_seq (wp_use (q3 _ _ f1 H1.1 _ ?_)))
  intro f2  S2 e2_23 
  have H2 : Has f2 [(23, .bool (decide (((b : Int) - (a : Int)) ≤ 12))), (10, .int .i64 ((b : Int) - (a : Int))), (0, .iface 83 rv), (1, .int .i64 ((a : Nat) : Int)), (2, .int .i64 ((b : Nat) : Int)), (3, .int .i64 ((l : Nat) : Int)), (8, .bool wb), (9, .bool wp)] := ⟨e2_23, H1.keep S2⟩
  by_cases h12 : ((b : Int) - (a : Int)) ≤ 12
  · refine wp_cond_true (evN rfl (H2.1.trans (by rw [decide_eq_true h12]))) ?_
    have hc : CallR 45 #[.iface 83 rv, .int .i64 ((a : Nat) : Int), .int .i64 ((b : Nat) : Int)] w fun v w' => S (Sort.insertionSort lt dk a b) w' :=
      (ins_any X a b dk w hS hab hbN).mono fun e w' ⟨h1, h2⟩ => ⟨_, h1, h2⟩
    refine wp_seq (wp_use (q4 rv a b w _ hc f2 H2.2.2.1 H2.2.2.2.1 H2.2.2.2.2.1 _ ?_))
    intro f3 v w1 S3  hR1
    have H3 : Has f3 [(23, .bool (decide (((b : Int) - (a : Int)) ≤ 12))), (10, .int .i64 ((b : Int) - (a : Int))), (0, .iface 83 rv), (1, .int .i64 ((a : Nat) : Int)), (2, .int .i64 ((b : Nat) : Int)), (3, .int .i64 ((l : Nat) : Int)), (8, .bool wb), (9, .bool wp)] := H2.keep S3
    have hi := insertionSort_holds hO dk a b hab (by omega)
    have hz := hF.2.2.2 _ hi.1 hi.2
    exact wp_ret (hR _ _ w1 hR1 hz.1 hz.2)
  refine wp_cond_false (evN rfl (H2.1.trans (by rw [decide_eq_false h12]))) (wp_skip ?_)
  refine wp_seq (wp_seq (wp_use (q5 l _ f2 H2.2.2.2.2.2.1 _ ?_)))
  intro f3  S3 e3_29 
  have H3 : Has f3 [(29, .bool (((l : Nat) : Int) == 0)), (23, .bool (decide (((b : Int) - (a : Int)) ≤ 12))), (10, .int .i64 ((b : Int) - (a : Int))), (0, .iface 83 rv), (1, .int .i64 ((a : Nat) : Int)), (2, .int .i64 ((b : Nat) : Int)), (3, .int .i64 ((l : Nat) : Int)), (8, .bool wb), (9, .bool wp)] := ⟨e3_29, H2.keep S3⟩
  cases hl0 : (((l : Nat) : Int) == 0) with
  | false =>
    refine wp_cond_false (evN rfl (H3.1.trans (by rw [hl0]))) (wp_skip ?_)
    exact pdq3 X hO a0 b0 d a b l wb wp _ IH rfl (by omega) hbN hl hl0 Q hN hE hR dk w hS hF f3 ⟨H3.2.2.2.1, H3.2.2.2.2.1, H3.2.2.2.2.2.1, H3.2.2.2.2.2.2.1, H3.2.2.2.2.2.2.2.1, H3.2.2.2.2.2.2.2.2.1, H3.2.2.1, trivial⟩
  | true =>
    refine wp_cond_true (evN rfl (H3.1.trans (by rw [hl0]))) ?_
    have hc : CallR 46 #[.iface 83 rv, .int .i64 ((a : Nat) : Int), .int .i64 ((b : Nat) : Int)] w fun v w' => S (Sort.heapSort lt dk a b) w' :=
      (heap_any X a b dk w hS (by omega) hbN).mono fun e w' ⟨h1, h2⟩ => ⟨_, h1, h2⟩
    refine wp_seq (wp_use (q6 rv a b w _ hc f3 H3.2.2.2.1 H3.2.2.2.2.1 H3.2.2.2.2.2.1 _ ?_))
    intro f4 v w1 S4  hR1
    have H4 : Has f4 [(29, .bool (((l : Nat) : Int) == 0)), (23, .bool (decide (((b : Int) - (a : Int)) ≤ 12))), (10, .int .i64 ((b : Int) - (a : Int))), (0, .iface 83 rv), (1, .int .i64 ((a : Nat) : Int)), (2, .int .i64 ((b : Nat) : Int)), (3, .int .i64 ((l : Nat) : Int)), (8, .bool wb), (9, .bool wp)] := H3.keep S4
    have hi := heapSort_holds hO dk a b hab (by omega)
    have hz := hF.2.2.2 _ hi.1 hi.2
    exact wp_ret (hR _ _ w1 hR1 hz.1 hz.2)
end Go.Proofs.YbulkblsgFmt

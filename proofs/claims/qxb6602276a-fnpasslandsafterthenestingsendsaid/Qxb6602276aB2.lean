import Derived.Test.Qxb6602276aB1
namespace Go.Proofs.Qxb6602276a
open Go.RowKit
set_option linter.unusedVariables false

theorem D_ge (s : ByteArray) : ∀ k : Nat, -(k : Int) ≤ D s k
  | 0 => by simp [D]
  | k + 1 => by
    have := D_ge s k
    simp only [D]
    unfold dl
    split
    · omega
    · split <;> omega

theorem wrap64_small {x : Int} (h : 0 ≤ x) (h2 : x ≤ 4194304) : wrap64 x = x := by unfold wrap64; omega
theorem wrapi_small {x : Int} (h : 0 ≤ x) (h2 : x ≤ 4194304) : IntKind.i64.wrap x = x := by rw [IntKind.wrap_i64]; omega
theorem leap_sum {b B : Nat} {I : Int} (hI : I = (B : Int) - b - 1) (hb : b ≤ 131072) (hB : B ≤ 131072) : wrap64 ((b : Int) + 1) = (b : Int) + 1 ∧ wrap64 ((b : Int) + 1 + I) = (B : Int) ∧ IntKind.i64.wrap ((b : Int) + 1) = (b : Int) + 1 ∧ IntKind.i64.wrap ((b : Int) + 1 + I) = (B : Int) := by
  have e : (b : Int) + 1 + I = B := by omega
  rw [e]
  exact ⟨wrap64_small (by omega) (by omega), wrap64_small (by omega) (by omega), wrapi_small (by omega) (by omega), wrapi_small (by omega) (by omega)⟩
theorem FF_0 (f1 f2 f3 f4 : Nat → Int) (i : Nat) : FF f1 f2 f3 f4 i 0 = f1 i := rfl
theorem FF_1 (f1 f2 f3 f4 : Nat → Int) (i : Nat) : FF f1 f2 f3 f4 i 1 = f2 i := rfl
theorem FF_2 (f1 f2 f3 f4 : Nat → Int) (i : Nat) : FF f1 f2 f3 f4 i 2 = f3 i := rfl
theorem FF_3 (f1 f2 f3 f4 : Nat → Int) (i : Nat) : FF f1 f2 f3 f4 i 3 = f4 i := rfl
set_option maxRecDepth 100000 in
set_option maxHeartbeats 6400000 in
theorem pass_any (s : ByteArray) (T : Int) (M : Nat) (st : Nat → Bool) (kd tx af ta : Nat → Int) (n : Nat) (f1 f2 f3 f4 : Nat → Int) (bf : Nat → Nat) (tok txt skip : Int) (w : World) (tb : Nat) (a : Option Addr) (nc cp cb : Nat) (G C : Nat → Nat) (k0 e0 : Nat)
    (hs : s.size ≤ 1048576) (hT : T ≤ 1048576) (hn : n ≤ 131072) (hD : Dom s T M st kd tx af ta n f1 f2 f3 f4 bf tok txt skip) (h : RS w tb s n (FF f1 f2 f3 f4) a nc cp cb G C) (hc : Closed s k0 e0) (he : e0 ≤ M) :
    Calls Try.prog 12 #[.pointer (some ⟨tb, 0, none⟩), .int .i64 (P s k0 : Int), .int .i64 (TX s k0), .int .i64 (bf (P s k0) : Int)] w fun e w' => e = .returned (.tuple #[.int .i64 (P s e0 : Int), .int .i64 (TX s e0), .int .i64 (bf (P s e0) : Int)]) ∧ Below w.heap.size w w' := by
  have HD : Hid (Dom s T M st kd tx af ta n f1 f2 f3 f4 bf tok txt skip) := hD
  have HR : Hid (RS w tb s n (FF f1 f2 f3 f4) a nc cp cb G C) := h
  have HC : Hid (Closed s k0 e0) := hc
  clear hD h hc
  go_enter Try.func12, Try.ntmps12
  go_wp2
  go_loopw [1, 2, 3, 11] (fun v1 v2 v3 v11 wr => ∃ k : Nat, k0 ≤ k ∧ k < e0 ∧ v1 = .int .i64 (P s k : Int) ∧ v2 = .int .i64 (TX s k) ∧ v3 = .int .i64 (bf (P s k) : Int) ∧ v11 = .int .i64 (D s k - D s k0) ∧ Hid (Below w.heap.size w wr)) (fun v1 _ _ _ _ => P s e0 - (intOf v1).toNat)
  case atStart => exact ⟨k0, by omega, HC.out.1, rfl, rfl, rfl, by simp, Below.refl _ _⟩
  case round =>
    obtain ⟨k, hk0, hke, rfl, rfl, rfl, rfl, HB⟩ := hrel
    have hPk := HD.out.P_size (k := k) (by omega)
    have hbl := (HD.out.bfs _ hPk).le
    have hTk := HD.out.TX_le (M - k) k (by omega)
    have hDk : -4194304 ≤ D s k - D s k0 ∧ D s k - D s k0 ≤ 4194304 := by
      have h1 := D_le s k
      have h2 := D_ge s k
      have h3 := D_le s k0
      have h4 := D_ge s k0
      have h5 := P_ge s k
      omega
    have hPe : P s k < P s e0 := P_mono s hke
    by_cases hsk : bf (P s k) < n ∧ f1 (bf (P s k)) = P s k
    · obtain ⟨hbn, hfb⟩ := hsk
      obtain ⟨e, hke1, hee, heM, q2, q3, q4, hDe⟩ := HD.out.leap HC.out hk0 hke hbn hfb
      have HOP := HC.out.open (k := e) (by omega) hee
      rw [hDe] at HOP
      have hPe2 := P_le s hee
      have hPk2 := P_mono s hke1
      have hbl2 := (HD.out.bfs _ (HD.out.P_size heM)).le
      have HSK : Hid (∀ W : World, Below w.heap.size w W → Calls Try.prog 13 #[.pointer (some ⟨tb, 0, none⟩), .int .i64 (P s k : Int), .int .i64 (bf (P s k) : Int)] W fun e w' => e = .returned (.bool true) ∧ Below W.heap.size W w') := fun W hW => by
        have := skipAt_in W tb s n (FF f1 f2 f3 f4) a nc cp cb G C (P s k) (bf (P s k)) hn hbn (HR.out.below hW)
        have e : (FF f1 f2 f3 f4 (bf (P s k)) 0 == (P s k : Int)) = true := by rw [FF_0, hfb]; simp
        rw [e] at this
        exact this
      have HAT : Hid (∀ W : World, Below w.heap.size w W → Calls Try.prog 14 #[.pointer (some ⟨tb, 2, none⟩), .int .i64 (bf (P s k) : Int)] W fun e w' => AtRet W (FF f1 f2 f3 f4) (bf (P s k)) e ∧ W = w') := fun W hW => at_any W tb s n (FF f1 f2 f3 f4) a nc cp cb G C (bf (P s k)) hn hbn (HR.out.below hW)
      have HF1 : Hid (FF f1 f2 f3 f4 (bf (P s k)) 1 = (P s e : Int)) := (FF_1 f1 f2 f3 f4 _).trans q2
      have HF2 : Hid (FF f1 f2 f3 f4 (bf (P s k)) 2 = TX s e) := (FF_2 f1 f2 f3 f4 _).trans q3
      have HF3 : Hid (FF f1 f2 f3 f4 (bf (P s k)) 3 = (bf (P s e) : Int) - bf (P s k) - 1) := (FF_3 f1 f2 f3 f4 _).trans q4
      have HDE : Hid (D s e = D s k) := hDe
      clear q2 q3 q4 hfb hbn hDe
      generalize bf (P s k) = b at *
      obtain ⟨I, hI⟩ : ∃ I, I = (bf (P s e) : Int) - b - 1 := ⟨_, rfl⟩
      obtain ⟨hw1, hw2, hw3, hw4⟩ := leap_sum hI (Nat.le_trans hbl hn) (Nat.le_trans hbl2 hn)
      rw [← hI] at HF3
      clear hI
      generalize hO : D s k - D s k0 = O at *
      by_cases hend : e = e0
      · have hO0 : O = 0 := HOP.2.2 hend
        subst hO0
        subst hend
        clear HOP
        go_wp2_with (first | (go_at_call 13; refine (HSK.out _ HB.out).mono ?_; rintro e w2 ⟨rfl, hB2⟩) | (go_at_call 14; refine (HAT.out _ (HB.out.trans (hB2.mono HB.out.size))).mono ?_; rintro e w3 ⟨⟨g, o, rfl, hel⟩, rfl⟩; have z1 := hel 1 (by omega); have z2 := hel 2 (by omega); have z3 := hel 3 (by omega); rw [HF1.out] at z1; rw [HF2.out] at z2; rw [HF3.out] at z3; clear hel))
        go_quiet (fail)
        go_wp2
        go_ret3
        exact ⟨rfl, (HB.out.trans (hB2.mono HB.out.size)).trans (below_drewN _ _ _)⟩
      · have hO0 : (O == 0) = false := by
          have : ¬ O = 0 := fun h => hend (HOP.2.1 h)
          simpa using this
        clear HOP
        have hlt' : e < e0 := by omega
        have HLT : Hid (e < e0) := hlt'
        clear hlt'
        go_wp2_with (first | (go_at_call 13; refine (HSK.out _ HB.out).mono ?_; rintro e w2 ⟨rfl, hB2⟩) | (go_at_call 14; refine (HAT.out _ (HB.out.trans (hB2.mono HB.out.size))).mono ?_; rintro e w3 ⟨⟨g, o, rfl, hel⟩, rfl⟩; have z1 := hel 1 (by omega); have z2 := hel 2 (by omega); have z3 := hel 3 (by omega); rw [HF1.out] at z1; rw [HF2.out] at z2; rw [HF3.out] at z3; clear hel))
        go_quiet (fail)
        go_wp2
        go_roundw
        case rel => exact ⟨e, by omega, HLT.out, rfl, rfl, rfl, by rw [HDE.out, hO], (HB.out.trans (hB2.mono HB.out.size)).trans (below_drewN _ _ _)⟩
        case measure => simp [intOf]; omega
    · have HBF : Hid (bf (P s (k + 1)) = bf (P s k)) := HD.out.step (by omega) hsk
      obtain ⟨⟨c, hTok⟩, hP1, hN⟩ := HD.out.lay.tok k (by omega)
      have hTk1 := HD.out.TX_le (M - (k + 1)) (k + 1) (by omega)
      have HOP := HC.out.open (k := k + 1) (by omega) (by omega)
      have HTOK : Hid (∀ W : World, Calls Try.prog 15 #[.string s, .int .i64 (P s k : Int)] W fun e w' => e = .returned (.tuple #[.int .i64 (kdOf s (P s k)), .int .i64 (nOf s (P s k)), .int .i64 (P s (k + 1) : Int)]) ∧ W = w') := fun W => token_any s (P s k) c W hs hTok
      have HSK : Hid (∀ W : World, Below w.heap.size w W → Calls Try.prog 13 #[.pointer (some ⟨tb, 0, none⟩), .int .i64 (P s k : Int), .int .i64 (bf (P s k) : Int)] W fun e w' => e = .returned (.bool false) ∧ Below W.heap.size W w') := fun W hW => by
        by_cases hbn : bf (P s k) < n
        · have := skipAt_in W tb s n (FF f1 f2 f3 f4) a nc cp cb G C (P s k) (bf (P s k)) hn hbn (HR.out.below hW)
          have hfb : ¬ f1 (bf (P s k)) = P s k := fun h => hsk ⟨hbn, h⟩
          have e : (FF f1 f2 f3 f4 (bf (P s k)) 0 == (P s k : Int)) = false := by rw [FF_0]; simpa using hfb
          rw [e] at this
          exact this
        · exact skipAt_out W tb s n (FF f1 f2 f3 f4) a nc cp cb G C (P s k) (bf (P s k)) hn hbn (HR.out.below hW)
      have hTXe : TX s (k + 1) = TX s k + nOf s (P s k) := rfl
      have hDe : D s (k + 1) = D s k + dl (kdOf s (P s k)) := rfl
      have HTX : Hid (TX s (k + 1) = TX s k + nOf s (P s k)) := rfl
      have hPn := P_lt s k
      have hPn2 := P_le s (show k + 1 ≤ e0 by omega)
      clear hsk hTok
      rw [hTXe] at hTk1
      generalize hO : D s k - D s k0 = O at *
      generalize kdOf s (P s k) = K at *
      generalize nOf s (P s k) = N at *
      generalize bf (P s k) = b at *
      by_cases h2 : K = 2
      · subst h2
        have hDe2 : D s (k + 1) = D s k + 1 := hDe
        have HO1 : Hid (D s (k + 1) - D s k0 = O + 1) := by show _ = _; omega
        clear hDe
        by_cases hend : k + 1 = e0
        · have hz : (O + 1 == 0) = true := by
            have := HOP.2.2 hend
            simp; omega
          subst hend
          clear HOP
          go_wp2_with (first | (go_at_call 13; refine (HSK.out _ HB.out).mono ?_; rintro e w2 ⟨rfl, hB2⟩; have z0 := (HR.out.below (HB.out.trans (hB2.mono HB.out.size))).tok) | (go_at_call 15; refine (HTOK.out _).mono ?_; rintro e w3 ⟨rfl, rfl⟩))
          go_ret3
          refine ⟨?_, HB.out.trans (hB2.mono HB.out.size)⟩
          rw [HTX.out, HBF.out]
          rfl
        · have hz : (O + 1 == 0) = false := by
            have h1 : ¬ (D s (k + 1) - D s k0 = 0) := fun h => hend (HOP.2.1 h)
            simp; omega
          have hlt' : k + 1 < e0 := by omega
          have HLT : Hid (k + 1 < e0) := hlt'
          clear hlt'
          clear HOP
          go_wp2_with (first | (go_at_call 13; refine (HSK.out _ HB.out).mono ?_; rintro e w2 ⟨rfl, hB2⟩; have z0 := (HR.out.below (HB.out.trans (hB2.mono HB.out.size))).tok) | (go_at_call 15; refine (HTOK.out _).mono ?_; rintro e w3 ⟨rfl, rfl⟩))
          go_roundw
          case rel => exact ⟨k + 1, by omega, HLT.out, rfl, by rw [HTX.out], by rw [HBF.out], by rw [HO1.out], HB.out.trans (hB2.mono HB.out.size)⟩
          case measure => simp [intOf]; omega
      · by_cases h3 : K = 3
        · subst h3
          have hDe2 : D s (k + 1) = D s k + -1 := hDe
          have HO1 : Hid (D s (k + 1) - D s k0 = O - 1) := by show _ = _; omega
          clear hDe h2
          by_cases hend : k + 1 = e0
          · have hz : (O - 1 == 0) = true := by
              have := HOP.2.2 hend
              simp; omega
            subst hend
            clear HOP
            go_wp2_with (first | (go_at_call 13; refine (HSK.out _ HB.out).mono ?_; rintro e w2 ⟨rfl, hB2⟩; have z0 := (HR.out.below (HB.out.trans (hB2.mono HB.out.size))).tok) | (go_at_call 15; refine (HTOK.out _).mono ?_; rintro e w3 ⟨rfl, rfl⟩))
            go_ret3
            refine ⟨?_, HB.out.trans (hB2.mono HB.out.size)⟩
            rw [HTX.out, HBF.out]
            rfl
          · have hz : (O - 1 == 0) = false := by
              have h1 : ¬ (D s (k + 1) - D s k0 = 0) := fun h => hend (HOP.2.1 h)
              simp; omega
            have hlt' : k + 1 < e0 := by omega
            have HLT : Hid (k + 1 < e0) := hlt'
            clear hlt'
            clear HOP
            go_wp2_with (first | (go_at_call 13; refine (HSK.out _ HB.out).mono ?_; rintro e w2 ⟨rfl, hB2⟩; have z0 := (HR.out.below (HB.out.trans (hB2.mono HB.out.size))).tok) | (go_at_call 15; refine (HTOK.out _).mono ?_; rintro e w3 ⟨rfl, rfl⟩))
            go_roundw
            case rel => exact ⟨k + 1, by omega, HLT.out, rfl, by rw [HTX.out], by rw [HBF.out], by rw [HO1.out], HB.out.trans (hB2.mono HB.out.size)⟩
            case measure => simp [intOf]; omega
        · have hDe2 : D s (k + 1) = D s k := by
            rw [hDe]; unfold dl; rw [if_neg h2, if_neg h3]; omega
          have HO1 : Hid (D s (k + 1) - D s k0 = O) := by show _ = _; omega
          have h2' : (K == 2) = false := by simpa using h2
          have h3' : (K == 3) = false := by simpa using h3
          clear hDe h2 h3
          by_cases hend : k + 1 = e0
          · have hz : (O == 0) = true := by
              have := HOP.2.2 hend
              simp; omega
            subst hend
            clear HOP
            go_wp2_with (first | (go_at_call 13; refine (HSK.out _ HB.out).mono ?_; rintro e w2 ⟨rfl, hB2⟩; have z0 := (HR.out.below (HB.out.trans (hB2.mono HB.out.size))).tok) | (go_at_call 15; refine (HTOK.out _).mono ?_; rintro e w3 ⟨rfl, rfl⟩))
            go_ret3
            refine ⟨?_, HB.out.trans (hB2.mono HB.out.size)⟩
            rw [HTX.out, HBF.out]
            rfl
          · have hz : (O == 0) = false := by
              have h1 : ¬ (D s (k + 1) - D s k0 = 0) := fun h => hend (HOP.2.1 h)
              simp; omega
            have hlt' : k + 1 < e0 := by omega
            have HLT : Hid (k + 1 < e0) := hlt'
            clear hlt'
            clear HOP
            go_wp2_with (first | (go_at_call 13; refine (HSK.out _ HB.out).mono ?_; rintro e w2 ⟨rfl, hB2⟩; have z0 := (HR.out.below (HB.out.trans (hB2.mono HB.out.size))).tok) | (go_at_call 15; refine (HTOK.out _).mono ?_; rintro e w3 ⟨rfl, rfl⟩))
            go_roundw
            case rel => exact ⟨k + 1, by omega, HLT.out, rfl, by rw [HTX.out], by rw [HBF.out], by rw [HO1.out], HB.out.trans (hB2.mono HB.out.size)⟩
            case measure => simp [intOf]; omega
end Go.Proofs.Qxb6602276a

import Derived.Test.Qxb6603303aA7
namespace Go.Proofs.Qxb6603303a
open Go.RowKit
set_option linter.unusedVariables false
set_option linter.unusedSimpArgs false

/-! ### zzSpecQuoteAt (13): the quote stands -/
set_option maxHeartbeats 1000000 in
theorem spec_q (n : Nat) (f : Nat → Int) (b i r k : Nat) (w : World) (hn : n ≤ 1048576) (hc : ∀ i, i < n → w.cell? ⟨b, i, none⟩ = some (.int .u8 (f i))) (hr : IsRun f n i r) (hj : i + r < n) (hq : f (i + r) = 34)
    (E F : Int) (hres : Res f n i r k E F) :
    Calls Try.prog 13 #[.slice (some ⟨b, 0, none⟩) n n, .int .i64 (i : Int)] w fun e w' => e = .returned (.tuple #[.int .i64 E, .int .i64 F]) ∧ Below w.heap.size w w' := by
  have HB : Hid (Calls Try.prog 26 #[.slice (some ⟨b, 0, none⟩) n n, .int .i64 (i : Int)] w fun e w' => e = .returned (.int .i64 (r : Int)) ∧ w = w') := runFrom_any n n f b i r w hn hc hr
  have hck := hc (i + r) hj
  rw [hq] at hck
  by_cases ha : AO r
  · have HO : Hid (Calls Try.prog 27 #[.int .i64 (r : Int)] w fun e w' => e = .returned (.bool true) ∧ w = w') := allOnes_any r w (by omega) true (by simp [ha])
    obtain ⟨rfl, rfl⟩ : E = r ∧ F = ((i + r + 1 : Nat) : Int) := by
      cases hres with
      | q1 h hq ha hE hF => exact ⟨by simpa using hE, by simpa using hF⟩
      | q0 h hq ha' hE hF => exact absurd ha ha'
      | u1 h | u0 h | e1 h | e0 h => exact absurd ⟨hj, hq⟩ h
    clear hres hr hc ha
    go_enter Try.func13, Try.ntmps13
    go_wp2_with (first | (go_at_call 26; refine HB.out.mono ?_; rintro e w' ⟨rfl, rfl⟩) | (go_at_call 27; refine HO.out.mono ?_; rintro e w' ⟨rfl, rfl⟩))
    go_ret2
    exact ⟨rfl, Below.refl _ _⟩
  · have HO : Hid (Calls Try.prog 27 #[.int .i64 (r : Int)] w fun e w' => e = .returned (.bool false) ∧ w = w') := allOnes_any r w (by omega) false (by simp [ha])
    obtain ⟨rfl, rfl⟩ : E = -1 ∧ F = (i : Int) := by
      cases hres with
      | q1 h hq ha' hE hF => exact absurd ha' ha
      | q0 h hq ha hE hF => exact ⟨by simpa using hE, by simpa using hF⟩
      | u1 h | u0 h | e1 h | e0 h => exact absurd ⟨hj, hq⟩ h
    clear hres hr hc ha
    go_enter Try.func13, Try.ntmps13
    go_wp2_with (first | (go_at_call 26; refine HB.out.mono ?_; rintro e w' ⟨rfl, rfl⟩) | (go_at_call 27; refine HO.out.mono ?_; rintro e w' ⟨rfl, rfl⟩))
    go_ret2
    exact ⟨rfl, Below.refl _ _⟩

/-! ### .. no quote stands -/
set_option maxHeartbeats 4000000 in
theorem spec_n (n : Nat) (f : Nat → Int) (b i r k : Nat) (w : World) (hn : n ≤ 1048576) (hc : ∀ i, i < n → w.cell? ⟨b, i, none⟩ = some (.int .u8 (f i))) (hr : IsRun f n i r) (hk : IsPre f n (i + r) k) (hnq : ¬ (i + r < n ∧ f (i + r) = 34))
    (E F : Int) (hres : Res f n i r k E F) :
    Calls Try.prog 13 #[.slice (some ⟨b, 0, none⟩) n n, .int .i64 (i : Int)] w fun e w' => e = .returned (.tuple #[.int .i64 E, .int .i64 F]) ∧ Below w.heap.size w w' := by
  have HB : Hid (Calls Try.prog 26 #[.slice (some ⟨b, 0, none⟩) n n, .int .i64 (i : Int)] w fun e w' => e = .returned (.int .i64 (r : Int)) ∧ w = w') := runFrom_any n n f b i r w hn hc hr
  have HC : Hid (∀ i, i < n → w.cell? ⟨b, i, none⟩ = some (.int .u8 (f i))) := hc
  have HK : Hid (IsPre f n (i + r) k) := hk
  have HR : Hid (Res f n i r k E F) := hres
  have hirn : i + r ≤ n := hr.1
  have hjk : i + r + k ≤ n := hk.2.1
  have hk5 : k ≤ 5 := hk.1
  have H : ∀ (C : Prop), (i + r = n → C) → (∀ (hlt : i + r < n), w.cell? ⟨b, i + r, none⟩ = some (.int .u8 (f (i + r))) → (f (i + r) == 34) = false → C) → C := by
    intro C h1 h2
    by_cases hlt : i + r < n
    · exact h2 hlt (hc _ hlt) (by rw [beq_eq_false_iff_ne]; exact fun e => hnq ⟨hlt, e⟩)
    · exact h1 (by omega)
  clear hc hr hk hnq hres
  refine H _ (fun hj => ?_) (fun hlt hcj hfj => ?_)
  · clear H
    obtain rfl : k = 0 := by omega
    obtain ⟨rfl, rfl⟩ : E = -1 ∧ F = (n : Int) := by
      cases HR.out with
      | q1 h | q0 h => omega
      | u1 h h0 h5 | u0 h h0 h5 => omega
      | e1 h _ _ _ hE hF => exact ⟨hE, hF⟩
      | e0 h _ ha => exact absurd ⟨by omega, .inr rfl⟩ ha
    clear HR HK HC
    have hj' : (i : Int) + r = n := by omega
    go_enter Try.func13, Try.ntmps13
    go_wp2_with (first | (go_at_call 26; refine HB.out.mono ?_; rintro e w' ⟨rfl, rfl⟩))
    refine wp_loop_rounds 1 ?_
    rw [rounds_succ]
    go_wp2
    go_quiet (fail)
    go_wp2
    all_goals
      go_ret2
      exact ⟨rfl, below_drewN _ _ _⟩
  · clear H
    go_enter Try.func13, Try.ntmps13
    go_wp2_with (first | (go_at_call 26; refine HB.out.mono ?_; rintro e w' ⟨rfl, rfl⟩))
    go_loopw [8] (fun v wr => ∃ q : Nat, q ≤ k ∧ v = .int .i64 q ∧ ∃ m, wr = w.drewN m) (fun v _ => 5 - (intOf v).toNat)
    case atStart => exact ⟨0, by omega, rfl, 0, rfl⟩
    case round =>
      obtain ⟨q, hq, rfl, m, rfl⟩ := hrel
      by_cases hqk : q < k
      · have hfq : f (i + r + q) = tl q := HK.out.2.2.1 q hqk
        have hcq := HC.out (i + r + q) (by omega)
        rw [hfq] at hcq
        have e5 : q < 5 := by omega
        have ejq : i + r + q < n := by omega
        obtain rfl | rfl | rfl | rfl | rfl : q = 0 ∨ q = 1 ∨ q = 2 ∨ q = 3 ∨ q = 4 := by omega
        · simp only [tl, List.getD_cons_zero, List.getD_cons_succ, Nat.add_zero] at hcq ejq hfq
          rw [hfq] at hcj
          clear hcq hfj
          go_wp2
          go_quiet (fail)
          go_wp2
          go_roundw
          case rel => exact ⟨1, hqk, rfl, _, rfl⟩
          case measure => simp [intOf]
        · simp only [tl, List.getD_cons_zero, List.getD_cons_succ, Nat.add_zero] at hcq ejq
          have hw : IntKind.i64.wrap ((i : Int) + r + 1) = (i : Int) + r + 1 := by rw [IntKind.wrap_i64]; omega
          have hl : decide ((i : Int) + r + 1 < n) = true := by simp; omega
          have hl1 : (0 : Int) ≤ (i : Int) + r + 1 := by omega
          have hl2 : ((i : Int) + r + 1).toNat = i + r + 1 := by omega
          have hl3 : (i : Int) + r + 1 < n := by omega
          go_wp2
          go_quiet (fail)
          go_wp2
          go_roundw
          case rel => exact ⟨2, hqk, rfl, _, rfl⟩
          case measure => simp [intOf]
        · simp only [tl, List.getD_cons_zero, List.getD_cons_succ, Nat.add_zero] at hcq ejq
          have hw : IntKind.i64.wrap ((i : Int) + r + 2) = (i : Int) + r + 2 := by rw [IntKind.wrap_i64]; omega
          have hl : decide ((i : Int) + r + 2 < n) = true := by simp; omega
          have hl1 : (0 : Int) ≤ (i : Int) + r + 2 := by omega
          have hl2 : ((i : Int) + r + 2).toNat = i + r + 2 := by omega
          have hl3 : (i : Int) + r + 2 < n := by omega
          go_wp2
          go_quiet (fail)
          go_wp2
          go_roundw
          case rel => exact ⟨3, hqk, rfl, _, rfl⟩
          case measure => simp [intOf]
        · simp only [tl, List.getD_cons_zero, List.getD_cons_succ, Nat.add_zero] at hcq ejq
          have hw : IntKind.i64.wrap ((i : Int) + r + 3) = (i : Int) + r + 3 := by rw [IntKind.wrap_i64]; omega
          have hl : decide ((i : Int) + r + 3 < n) = true := by simp; omega
          have hl1 : (0 : Int) ≤ (i : Int) + r + 3 := by omega
          have hl2 : ((i : Int) + r + 3).toNat = i + r + 3 := by omega
          have hl3 : (i : Int) + r + 3 < n := by omega
          go_wp2
          go_quiet (fail)
          go_wp2
          go_roundw
          case rel => exact ⟨4, hqk, rfl, _, rfl⟩
          case measure => simp [intOf]
        · simp only [tl, List.getD_cons_zero, List.getD_cons_succ, Nat.add_zero] at hcq ejq
          have hw : IntKind.i64.wrap ((i : Int) + r + 4) = (i : Int) + r + 4 := by rw [IntKind.wrap_i64]; omega
          have hl : decide ((i : Int) + r + 4 < n) = true := by simp; omega
          have hl1 : (0 : Int) ≤ (i : Int) + r + 4 := by omega
          have hl2 : ((i : Int) + r + 4).toNat = i + r + 4 := by omega
          have hl3 : (i : Int) + r + 4 < n := by omega
          go_wp2
          go_quiet (fail)
          go_wp2
          go_roundw
          case rel => exact ⟨5, hqk, rfl, _, rfl⟩
          case measure => simp [intOf]
      · have HNQ : Hid (¬ f (i + r) = 34) := by rw [beq_eq_false_iff_ne] at hfj; exact hfj
        obtain rfl : q = k := by omega
        by_cases k5 : q = 5
        · subst k5
          by_cases h0 : r = 0
          · subst h0
            obtain ⟨rfl, rfl⟩ : E = -1 ∧ F = (i : Int) := by
              cases HR.out with
              | q1 h hq | q0 h hq => exact absurd hq HNQ.out
              | u1 h h0 | u0 h h0 => omega
              | e1 h _ _ ha => omega
              | e0 h _ ha hE hF => exact ⟨hE, hF⟩
            clear HR HK HC
            go_wp2
            go_quiet (fail)
            go_wp2
            all_goals
              go_ret2
              exact ⟨rfl, below_drewN _ _ _⟩
          · have hr0 : 0 < r := by omega
            by_cases ho : OB r
            · obtain ⟨K, _, hK⟩ := fill_of_OB r ho
              obtain ⟨V, hV⟩ : ∃ V, V = 2 ^ K - 1 := ⟨_, rfl⟩
              obtain ⟨rfl, rfl⟩ : E = (V : Int) ∧ F = (i : Int) + r + 5 := by
                rw [hV]
                cases HR.out with
                | q1 h hq | q0 h hq => exact absurd hq HNQ.out
                | u1 h h0 h5 K' ha hK' hE hF => rw [hK.unique hK']; exact ⟨hE, by rw [hF]; omega⟩
                | u0 h h0 h5 ha => exact absurd ho ha
                | e1 h h5 | e0 h h5 => exact absurd ⟨hr0, rfl⟩ h5
              have hK40 : K ≤ 40 := by
                rcases Nat.lt_or_ge 40 K with h | h
                · have h1 := hK.2 (by omega)
                  have h2 := Nat.pow_le_pow_right (show 0 < 2 by decide) (show 40 ≤ K - 1 by omega)
                  omega
                · exact h
              have HOB : Hid (∀ w, Calls Try.prog 28 #[.int .i64 (r : Int)] w fun e w' => e = .returned (.bool true) ∧ w = w') := fun w => oneBlock_any r w (by omega) hr0 true (by simp [ho])
              have HBL : Hid (∀ w, Calls Try.prog 30 #[.int .i64 (r : Int)] w fun e w' => e = .returned (.int .i64 (K : Int)) ∧ w = w') := fun w => bitLen_any r K w (by omega) hK hK40
              have HLO : Hid (∀ w, Calls Try.prog 29 #[.int .i64 (K : Int)] w fun e w' => e = .returned (.int .i64 (V : Int)) ∧ w = w') := fun w => by rw [hV]; exact lowOnes_any K w hK40
              clear HR HK HC ho hK hV
              go_wp2
              go_quiet (fail)
              go_wp2_with (first | (go_at_call 28; refine (HOB.out _).mono ?_; rintro e w' ⟨rfl, rfl⟩) | (go_at_call 30; refine (HBL.out _).mono ?_; rintro e w' ⟨rfl, rfl⟩) | (go_at_call 29; refine (HLO.out _).mono ?_; rintro e w' ⟨rfl, rfl⟩))
              go_ret2
              exact ⟨rfl, below_drewN _ _ _⟩
            · obtain ⟨rfl, rfl⟩ : E = -1 ∧ F = (i : Int) := by
                cases HR.out with
                | q1 h hq | q0 h hq => exact absurd hq HNQ.out
                | u1 h h0 h5 K' ha hK' hE hF => exact absurd ha ho
                | u0 h h0 h5 ha hE hF => exact ⟨hE, hF⟩
                | e1 h h5 | e0 h h5 => exact absurd ⟨hr0, rfl⟩ h5
              have HOB : Hid (∀ w, Calls Try.prog 28 #[.int .i64 (r : Int)] w fun e w' => e = .returned (.bool false) ∧ w = w') := fun w => oneBlock_any r w (by omega) hr0 false (by simp [ho])
              clear HR HK HC ho
              go_wp2
              go_quiet (fail)
              go_wp2_with (go_at_call 28; refine (HOB.out _).mono ?_; rintro e w' ⟨rfl, rfl⟩)
              go_ret2
              exact ⟨rfl, below_drewN _ _ _⟩
        · have hq5 : q < 5 := by omega
          have hw : IntKind.i64.wrap ((i : Int) + r + q) = (i : Int) + r + q := by rw [IntKind.wrap_i64]; omega
          have hl1 : (0 : Int) ≤ (i : Int) + r + q := by omega
          have hl2 : ((i : Int) + r + q).toNat = i + r + q := by omega
          have hq5d : decide ((q : Int) < 5) = true := by simp; omega
          have hq5e : decide (q < 5) = true := by simp; omega
          by_cases hjn : i + r + q = n
          · have hl : decide ((i : Int) + r + q < n) = false := by simp; omega
            by_cases hok : 0 < r ∨ q = 0
            · obtain ⟨rfl, rfl⟩ : E = -1 ∧ F = (n : Int) := by
                cases HR.out with
                | q1 h hq | q0 h hq => exact absurd hq HNQ.out
                | u1 h h0 h5 | u0 h h0 h5 => omega
                | e1 h _ _ _ hE hF => exact ⟨hE, hF⟩
                | e0 h _ ha hE hF => exact absurd ⟨hjn, hok⟩ ha
              clear HR HK HC
              go_wp2
              go_quiet (fail)
              go_wp2
              all_goals
                go_ret2
                exact ⟨rfl, below_drewN _ _ _⟩
            · obtain ⟨rfl, rfl⟩ : E = -1 ∧ F = (i : Int) := by
                cases HR.out with
                | q1 h hq | q0 h hq => exact absurd hq HNQ.out
                | u1 h h0 h5 | u0 h h0 h5 => omega
                | e1 h _ _ ha hE hF => exact absurd ha hok
                | e0 h _ ha hE hF => exact ⟨hE, hF⟩
              obtain rfl : r = 0 := by omega
              have hq0 : ¬ q = 0 := by omega
              have hw' : IntKind.i64.wrap ((i : Int) + q) = (i : Int) + q := by rw [IntKind.wrap_i64]; omega
              have hl1' : (0 : Int) ≤ (i : Int) + q := by omega
              have hl2' : ((i : Int) + q).toNat = i + q := by omega
              have hl' : decide ((i : Int) + q < n) = false := by simp; omega
              clear HR HK HC hok hw hl1 hl2 hl
              go_wp2
              go_quiet (fail)
              go_wp2
              all_goals
                go_ret2
                exact ⟨rfl, below_drewN _ _ _⟩
          · obtain ⟨rfl, rfl⟩ : E = -1 ∧ F = (i : Int) := by
              cases HR.out with
              | q1 h hq | q0 h hq => exact absurd hq HNQ.out
              | u1 h h0 h5 | u0 h h0 h5 => omega
              | e1 h _ he => exact absurd he hjn
              | e0 h _ ha hE hF => exact ⟨hE, hF⟩
            have hcq := HC.out (i + r + q) (by omega)
            have hfq : ¬ f (i + r + q) = tl q := fun e => HK.out.2.2.2 ⟨hq5, by omega, e⟩
            have ejq : i + r + q < n := by omega
            clear HR HK HC hw hl1 hl2
            obtain rfl | rfl | rfl | rfl | rfl : q = 0 ∨ q = 1 ∨ q = 2 ∨ q = 3 ∨ q = 4 := by omega
            · simp only [tl, List.getD_cons_zero, List.getD_cons_succ, Nat.add_zero] at hcq ejq hfq
              have HF : Hid (¬ f (i + r) = 117) := hfq
              clear hfq
              go_wp2
              go_quiet (fail)
              go_wp2
              all_goals first
                | (go_ret2
                   exact ⟨rfl, below_drewN _ _ _⟩)
                | (rename_i hx
                   exact absurd ((beq_iff_eq.1 hx).trans (by decide)) HF.out)
            · simp only [tl, List.getD_cons_zero, List.getD_cons_succ, Nat.add_zero] at hcq ejq hfq
              have hw : IntKind.i64.wrap ((i : Int) + r + 1) = (i : Int) + r + 1 := by rw [IntKind.wrap_i64]; omega
              have hl : decide ((i : Int) + r + 1 < n) = true := by simp; omega
              have hl1 : (0 : Int) ≤ (i : Int) + r + 1 := by omega
              have hl2 : ((i : Int) + r + 1).toNat = i + r + 1 := by omega
              have hl3 : (i : Int) + r + 1 < n := by omega
              have HF : Hid (¬ f (i + r + 1) = 48) := hfq
              clear hfq
              go_wp2
              go_quiet (fail)
              go_wp2
              all_goals first
                | (go_ret2
                   exact ⟨rfl, below_drewN _ _ _⟩)
                | (rename_i hx
                   exact absurd ((beq_iff_eq.1 hx).trans (by decide)) HF.out)
            · simp only [tl, List.getD_cons_zero, List.getD_cons_succ, Nat.add_zero] at hcq ejq hfq
              have hw : IntKind.i64.wrap ((i : Int) + r + 2) = (i : Int) + r + 2 := by rw [IntKind.wrap_i64]; omega
              have hl : decide ((i : Int) + r + 2 < n) = true := by simp; omega
              have hl1 : (0 : Int) ≤ (i : Int) + r + 2 := by omega
              have hl2 : ((i : Int) + r + 2).toNat = i + r + 2 := by omega
              have hl3 : (i : Int) + r + 2 < n := by omega
              have HF : Hid (¬ f (i + r + 2) = 48) := hfq
              clear hfq
              go_wp2
              go_quiet (fail)
              go_wp2
              all_goals first
                | (go_ret2
                   exact ⟨rfl, below_drewN _ _ _⟩)
                | (rename_i hx
                   exact absurd ((beq_iff_eq.1 hx).trans (by decide)) HF.out)
            · simp only [tl, List.getD_cons_zero, List.getD_cons_succ, Nat.add_zero] at hcq ejq hfq
              have hw : IntKind.i64.wrap ((i : Int) + r + 3) = (i : Int) + r + 3 := by rw [IntKind.wrap_i64]; omega
              have hl : decide ((i : Int) + r + 3 < n) = true := by simp; omega
              have hl1 : (0 : Int) ≤ (i : Int) + r + 3 := by omega
              have hl2 : ((i : Int) + r + 3).toNat = i + r + 3 := by omega
              have hl3 : (i : Int) + r + 3 < n := by omega
              have HF : Hid (¬ f (i + r + 3) = 50) := hfq
              clear hfq
              go_wp2
              go_quiet (fail)
              go_wp2
              all_goals first
                | (go_ret2
                   exact ⟨rfl, below_drewN _ _ _⟩)
                | (rename_i hx
                   exact absurd ((beq_iff_eq.1 hx).trans (by decide)) HF.out)
            · simp only [tl, List.getD_cons_zero, List.getD_cons_succ, Nat.add_zero] at hcq ejq hfq
              have hw : IntKind.i64.wrap ((i : Int) + r + 4) = (i : Int) + r + 4 := by rw [IntKind.wrap_i64]; omega
              have hl : decide ((i : Int) + r + 4 < n) = true := by simp; omega
              have hl1 : (0 : Int) ≤ (i : Int) + r + 4 := by omega
              have hl2 : ((i : Int) + r + 4).toNat = i + r + 4 := by omega
              have hl3 : (i : Int) + r + 4 < n := by omega
              have HF : Hid (¬ f (i + r + 4) = 50) := hfq
              clear hfq
              go_wp2
              go_quiet (fail)
              go_wp2
              all_goals first
                | (go_ret2
                   exact ⟨rfl, below_drewN _ _ _⟩)
                | (rename_i hx
                   exact absurd ((beq_iff_eq.1 hx).trans (by decide)) HF.out)

/-- zzSpecQuoteAt (13), whole. -/
theorem spec_any (n : Nat) (f : Nat → Int) (b i r k : Nat) (w : World) (hn : n ≤ 1048576) (hc : ∀ i, i < n → w.cell? ⟨b, i, none⟩ = some (.int .u8 (f i))) (hr : IsRun f n i r) (hk : IsPre f n (i + r) k)
    (E F : Int) (hres : Res f n i r k E F) :
    Calls Try.prog 13 #[.slice (some ⟨b, 0, none⟩) n n, .int .i64 (i : Int)] w fun e w' => e = .returned (.tuple #[.int .i64 E, .int .i64 F]) ∧ Below w.heap.size w w' := by
  by_cases h : i + r < n ∧ f (i + r) = 34
  · exact spec_q n f b i r k w hn hc hr h.1 h.2 E F hres
  · exact spec_n n f b i r k w hn hc hr hk h E F hres
end Go.Proofs.Qxb6603303a

import Derived.Test.Qxb6603303aA4
namespace Go.Proofs.Qxb6603303a
open Go.RowKit
set_option linter.unusedVariables false

theorem gq_tl (q : Nat) : gq (q + 1) = tl q := by
  match q with
  | 0 | 1 | 2 | 3 | 4 => rfl
  | q + 5 => rfl

/-- the escaped quote stands behind the run iff all five bytes do. -/
theorem esc_iff {f : Nat → Int} {n i r k : Nat} (hr : IsRun f n i r) (h0 : 0 < r) (hk : IsPre f n (i + r) k) (t : Bool) (ht : t = decide (k = 5)) :
    t = true ↔ (i + r - 1) + 6 ≤ n ∧ ∀ q, q < 6 → f (i + r - 1 + q) = gq q := by
  subst ht
  rw [decide_eq_true_iff]
  obtain ⟨k1, k2, k3, k4⟩ := hk
  constructor
  · rintro rfl
    refine ⟨by omega, fun q hq => ?_⟩
    cases q with
    | zero =>
      have := hr.2.1 (r - 1) (by omega)
      rw [show i + r - 1 + 0 = i + (r - 1) by omega, this]; rfl
    | succ q =>
      rw [show i + r - 1 + (q + 1) = i + r + q by omega, k3 q (by omega), gq_tl]
  · rintro ⟨h1, h2⟩
    by_cases h5 : k = 5
    · exact h5
    · exfalso
      refine k4 ⟨by omega, by omega, ?_⟩
      have := h2 (k + 1) (by omega)
      rw [show i + r - 1 + (k + 1) = i + r + k by omega, gq_tl] at this
      exact this


set_option maxHeartbeats 1000000 in
theorem quoteAt_u1 (n : Nat) (f : Nat → Int) (b i r k : Nat) (w : World) (hn : n ≤ 1048576) (hc : ∀ i, i < n → w.cell? ⟨b, i, none⟩ = some (.int .u8 (f i))) (hf : ∀ i, i < n → 0 ≤ f i ∧ f i < 256) (hr : IsRun f n i r) (hk : IsPre f n (i + r) k)
    (hnq : ¬ (i + r < n ∧ f (i + r) = 34)) (h0 : 0 < r) (h5 : k = 5) (K : Nat) (ha : OB r) (hK : IsBl r K) :
    Calls Try.prog 25 #[.slice (some ⟨b, 0, none⟩) n n, .int .i64 (i : Int)] w fun e w' => e = .returned (.tuple #[.int .i64 ((2 ^ K - 1 : Nat) : Int), .int .i64 ((i + r + 5 : Nat) : Int)]) ∧ w = w' := by
  have HB : Hid (Calls Try.prog 38 #[.slice (some ⟨b, 0, none⟩) n n, .int .i64 (i : Int)] w fun e w' => e = .returned (.int .i64 (r : Int)) ∧ w = w') := backs_any n n f b i r w hn hc hr
  have hirn : i + r ≤ n := hr.1
  have hci := hc i (by omega)
  have hfi : (f i == 34) = false := by
    rw [beq_eq_false_iff_ne]
    by_cases h : r = 0
    · subst h; intro e; exact hnq ⟨by omega, by simpa using e⟩
    · have := hr.2.1 0 (by omega)
      simp at this
      rw [this]; decide
  have hj5 : i + r + 5 ≤ n := by have := hk.2.1; omega
  have hcj := hc (i + r) (by omega)
  have hfj : (f (i + r) == 34) = false := by
    rw [beq_eq_false_iff_ne]
    intro e; exact hnq ⟨by omega, e⟩
  have hp1 : (i : Int) + r - 1 = ((i + r - 1 : Nat) : Int) := by omega
  have HE : Hid (Calls Try.prog 40 #[.slice (some ⟨b, 0, none⟩) n n, .int .i64 ((i + r - 1 : Nat) : Int)] w fun e w' => e = .returned (.bool true) ∧ w = w') := escQ_any n n f b (i + r - 1) w hn rfl (by omega) hc hf true (esc_iff hr h0 hk _ (by simp [h5]))
  have HO : Hid (Calls Try.prog 39 #[.int .i64 (r : Int), .bool true] w fun e w' => e = .returned (.int .i64 (low (fill r) : Int)) ∧ w = w') := own_esc r w (by omega) h0
  have hlf : low (fill r) ≤ fill r := andn_le _ _
  have hfl := fill_lt r 21 (by omega)
  have hA := i64_andn r (low (fill r)) (by omega) (by omega)
  obtain ⟨K', hK', hb'⟩ := fill_of_OB r ha
  obtain rfl : K' = K := hb'.unique hK
  rw [andn_fill_of_OB r (by omega) ha] at hA
  have hl2 : low (fill r) = 2 ^ K' - 1 := by rw [low_of_AO _ (by omega) ⟨K', hK'⟩, hK']
  rw [hl2] at hA HO hlf
  clear ha hK hb' hK' hl2
  generalize 2 ^ K' - 1 = V at hA HO hlf ⊢
  have hF : (i : Int) + r + 6 - 1 = ((i + r + 5 : Nat) : Int) := by omega
  clear hc hf hr hk hnq
  go_enter Try.func25, Try.ntmps25
  go_wp2_with (first | (go_at_call 38; refine HB.out.mono ?_; rintro e w' ⟨rfl, rfl⟩) | (go_at_call 40; (try rw [hp1]); refine HE.out.mono ?_; rintro e w' ⟨rfl, rfl⟩) | (go_at_call 39; refine HO.out.mono ?_; rintro e w' ⟨rfl, rfl⟩))
  go_ret2
  exact ⟨rfl, rfl⟩

set_option maxHeartbeats 1000000 in
theorem quoteAt_u0 (n : Nat) (f : Nat → Int) (b i r k : Nat) (w : World) (hn : n ≤ 1048576) (hc : ∀ i, i < n → w.cell? ⟨b, i, none⟩ = some (.int .u8 (f i))) (hf : ∀ i, i < n → 0 ≤ f i ∧ f i < 256) (hr : IsRun f n i r) (hk : IsPre f n (i + r) k)
    (hnq : ¬ (i + r < n ∧ f (i + r) = 34)) (h0 : 0 < r) (h5 : k = 5) (ha : ¬ OB r) :
    Calls Try.prog 25 #[.slice (some ⟨b, 0, none⟩) n n, .int .i64 (i : Int)] w fun e w' => e = .returned (.tuple #[.int .i64 (-1), .int .i64 (i : Int)]) ∧ w = w' := by
  have HB : Hid (Calls Try.prog 38 #[.slice (some ⟨b, 0, none⟩) n n, .int .i64 (i : Int)] w fun e w' => e = .returned (.int .i64 (r : Int)) ∧ w = w') := backs_any n n f b i r w hn hc hr
  have hirn : i + r ≤ n := hr.1
  have hci := hc i (by omega)
  have hfi : (f i == 34) = false := by
    rw [beq_eq_false_iff_ne]
    by_cases h : r = 0
    · subst h; intro e; exact hnq ⟨by omega, by simpa using e⟩
    · have := hr.2.1 0 (by omega)
      simp at this
      rw [this]; decide
  have hj5 : i + r + 5 ≤ n := by have := hk.2.1; omega
  have hcj := hc (i + r) (by omega)
  have hfj : (f (i + r) == 34) = false := by
    rw [beq_eq_false_iff_ne]
    intro e; exact hnq ⟨by omega, e⟩
  have hp1 : (i : Int) + r - 1 = ((i + r - 1 : Nat) : Int) := by omega
  have HE : Hid (Calls Try.prog 40 #[.slice (some ⟨b, 0, none⟩) n n, .int .i64 ((i + r - 1 : Nat) : Int)] w fun e w' => e = .returned (.bool true) ∧ w = w') := escQ_any n n f b (i + r - 1) w hn rfl (by omega) hc hf true (esc_iff hr h0 hk _ (by simp [h5]))
  have HO : Hid (Calls Try.prog 39 #[.int .i64 (r : Int), .bool true] w fun e w' => e = .returned (.int .i64 (low (fill r) : Int)) ∧ w = w') := own_esc r w (by omega) h0
  have hlf : low (fill r) ≤ fill r := andn_le _ _
  have hfl := fill_lt r 21 (by omega)
  have hA := i64_andn r (low (fill r)) (by omega) (by omega)
  have e1 := andn_fill r h0 (by omega) ha
  have e2 : (((andn r (low (fill r)) : Nat) : Int) == 0) = false := by simpa using e1
  generalize andn r (low (fill r)) = A at hA e2
  clear ha e1
  clear hc hf hr hk hnq
  go_enter Try.func25, Try.ntmps25
  go_wp2_with (first | (go_at_call 38; refine HB.out.mono ?_; rintro e w' ⟨rfl, rfl⟩) | (go_at_call 40; (try rw [hp1]); refine HE.out.mono ?_; rintro e w' ⟨rfl, rfl⟩) | (go_at_call 39; refine HO.out.mono ?_; rintro e w' ⟨rfl, rfl⟩))
  go_ret2
  exact ⟨rfl, rfl⟩
end Go.Proofs.Qxb6603303a

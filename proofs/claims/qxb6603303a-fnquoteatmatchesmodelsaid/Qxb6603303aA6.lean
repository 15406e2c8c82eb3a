import Derived.Test.Qxb6603303aA5
namespace Go.Proofs.Qxb6603303a
open Go.RowKit
set_option linter.unusedVariables false

theorem below_drewN (B : Nat) (w : World) (m : Nat) : Below B w (w.drewN m) := ⟨rfl, rfl, rfl, Nat.le_refl _, fun _ _ => rfl⟩

set_option maxHeartbeats 1000000 in
theorem quoteAt_A0 (n : Nat) (f : Nat → Int) (b i r k : Nat) (w : World) (hn : n ≤ 1048576) (hc : ∀ i, i < n → w.cell? ⟨b, i, none⟩ = some (.int .u8 (f i))) (hf : ∀ i, i < n → 0 ≤ f i ∧ f i < 256) (hr : IsRun f n i r) (hk : IsPre f n (i + r) k)
    (hnq : ¬ (i + r < n ∧ f (i + r) = 34)) (h0 : r = 0) (hi : i = n) :
    Calls Try.prog 25 #[.slice (some ⟨b, 0, none⟩) n n, .int .i64 (i : Int)] w fun e w' => e = .returned (.tuple #[.int .i64 (-1), .int .i64 (i : Int)]) ∧ Below w.heap.size w w' := by
  have HB : Hid (Calls Try.prog 38 #[.slice (some ⟨b, 0, none⟩) n n, .int .i64 (i : Int)] w fun e w' => e = .returned (.int .i64 (r : Int)) ∧ w = w') := backs_any n n f b i r w hn hc hr
  have hirn : i + r ≤ n := hr.1
  subst h0 hi
  clear hc hf hr hk hnq
  go_enter Try.func25, Try.ntmps25
  go_wp2_with (first | (go_at_call 38; refine HB.out.mono ?_; rintro e w' ⟨rfl, rfl⟩))
  go_quiet (fail)
  go_wp2
  go_ret2
  exact ⟨rfl, below_drewN _ _ _⟩

set_option maxHeartbeats 1000000 in
theorem quoteAt_A1 (n : Nat) (f : Nat → Int) (b i r k : Nat) (w : World) (hn : n ≤ 1048576) (hc : ∀ i, i < n → w.cell? ⟨b, i, none⟩ = some (.int .u8 (f i))) (hf : ∀ i, i < n → 0 ≤ f i ∧ f i < 256) (hr : IsRun f n i r) (hk : IsPre f n (i + r) k)
    (hnq : ¬ (i + r < n ∧ f (i + r) = 34)) (h0 : 0 < r) (h5 : ¬ k = 5) (hi : i + r = n) :
    Calls Try.prog 25 #[.slice (some ⟨b, 0, none⟩) n n, .int .i64 (i : Int)] w fun e w' => e = .returned (.tuple #[.int .i64 (-1), .int .i64 (n : Int)]) ∧ Below w.heap.size w w' := by
  have HB : Hid (Calls Try.prog 38 #[.slice (some ⟨b, 0, none⟩) n n, .int .i64 (i : Int)] w fun e w' => e = .returned (.int .i64 (r : Int)) ∧ w = w') := backs_any n n f b i r w hn hc hr
  have hirn : i + r ≤ n := hr.1
  have hci := hc i (by omega)
  have hfi : (f i == 34) = false := by
    rw [beq_eq_false_iff_ne]
    by_cases h : r = 0
    · subst h; intro e; exact hnq ⟨by omega, by simpa using e⟩
    · have := hr.2.1 0 (by omega)
      simp at this
      rw [this]; decide
  have hp1 : (i : Int) + r - 1 = ((i + r - 1 : Nat) : Int) := by omega
  have HE : Hid (Calls Try.prog 40 #[.slice (some ⟨b, 0, none⟩) n n, .int .i64 ((i + r - 1 : Nat) : Int)] w fun e w' => e = .returned (.bool false) ∧ w = w') := escQ_any n n f b (i + r - 1) w hn rfl (by omega) hc hf false (esc_iff hr h0 hk _ (by simp [h5]))
  have hd1 : n - (i + r) = 0 := by omega
  clear hi
  clear hc hf hr hk hnq
  go_enter Try.func25, Try.ntmps25
  go_wp2_with (first | (go_at_call 38; refine HB.out.mono ?_; rintro e w' ⟨rfl, rfl⟩) | (go_at_call 40; (try rw [hp1]); refine HE.out.mono ?_; rintro e w' ⟨rfl, rfl⟩))
  go_quiet (fail)
  go_wp2
  go_ret2
  exact ⟨rfl, below_drewN _ _ _⟩

set_option maxHeartbeats 1000000 in
theorem quoteAt_B (n : Nat) (f : Nat → Int) (b i r k : Nat) (w : World) (hn : n ≤ 1048576) (hc : ∀ i, i < n → w.cell? ⟨b, i, none⟩ = some (.int .u8 (f i))) (hf : ∀ i, i < n → 0 ≤ f i ∧ f i < 256) (hr : IsRun f n i r) (hk : IsPre f n (i + r) k)
    (hnq : ¬ (i + r < n ∧ f (i + r) = 34)) (h0 : r = 0) (hi : i < n) :
    Calls Try.prog 25 #[.slice (some ⟨b, 0, none⟩) n n, .int .i64 (i : Int)] w fun e w' => e = .returned (.tuple #[.int .i64 (-1), .int .i64 (i : Int)]) ∧ Below w.heap.size w w' := by
  have HB : Hid (Calls Try.prog 38 #[.slice (some ⟨b, 0, none⟩) n n, .int .i64 (i : Int)] w fun e w' => e = .returned (.int .i64 (r : Int)) ∧ w = w') := backs_any n n f b i r w hn hc hr
  have hirn : i + r ≤ n := hr.1
  subst h0
  have hci := hc i (by omega)
  have hfi : (f i == 34) = false := by
    rw [beq_eq_false_iff_ne]
    intro e; exact hnq ⟨by omega, by simpa using e⟩
  have hd1 : (((n - i : Nat) : Int) == 0) = false := by simp; omega
  have hd2 : decide (n - i = 0) = false := by simp; omega
  have hd3 : decide (n ≤ i) = false := by simp; omega
  clear HB
  have HB : Hid (Calls Try.prog 38 #[.slice (some ⟨b, 0, none⟩) n n, .int .i64 (i : Int)] w fun e w' => e = .returned (.int .i64 (0 : Int)) ∧ w = w') := backs_any n n f b i 0 w hn hc hr
  clear hc hf hr hk hnq
  go_enter Try.func25, Try.ntmps25
  go_wp2_with (first | (go_at_call 38; refine HB.out.mono ?_; rintro e w' ⟨rfl, rfl⟩))
  go_quiet (fail)
  go_wp2
  go_ret2
  exact ⟨rfl, below_drewN _ _ _⟩

set_option maxHeartbeats 1000000 in
theorem quoteAt_C (n : Nat) (f : Nat → Int) (b i r k : Nat) (w : World) (hn : n ≤ 1048576) (hc : ∀ i, i < n → w.cell? ⟨b, i, none⟩ = some (.int .u8 (f i))) (hf : ∀ i, i < n → 0 ≤ f i ∧ f i < 256) (hr : IsRun f n i r) (hk : IsPre f n (i + r) k)
    (hnq : ¬ (i + r < n ∧ f (i + r) = 34)) (h0 : 0 < r) (h5 : ¬ k = 5) (hi : i + r + 5 ≤ n) :
    Calls Try.prog 25 #[.slice (some ⟨b, 0, none⟩) n n, .int .i64 (i : Int)] w fun e w' => e = .returned (.tuple #[.int .i64 (-1), .int .i64 (i : Int)]) ∧ Below w.heap.size w w' := by
  have HB : Hid (Calls Try.prog 38 #[.slice (some ⟨b, 0, none⟩) n n, .int .i64 (i : Int)] w fun e w' => e = .returned (.int .i64 (r : Int)) ∧ w = w') := backs_any n n f b i r w hn hc hr
  have hirn : i + r ≤ n := hr.1
  have hci := hc i (by omega)
  have hfi : (f i == 34) = false := by
    rw [beq_eq_false_iff_ne]
    by_cases h : r = 0
    · subst h; intro e; exact hnq ⟨by omega, by simpa using e⟩
    · have := hr.2.1 0 (by omega)
      simp at this
      rw [this]; decide
  have hcj := hc (i + r) (by omega)
  have hfj : (f (i + r) == 34) = false := by
    rw [beq_eq_false_iff_ne]
    intro e; exact hnq ⟨by omega, e⟩
  have hp1 : (i : Int) + r - 1 = ((i + r - 1 : Nat) : Int) := by omega
  have HE : Hid (Calls Try.prog 40 #[.slice (some ⟨b, 0, none⟩) n n, .int .i64 ((i + r - 1 : Nat) : Int)] w fun e w' => e = .returned (.bool false) ∧ w = w') := escQ_any n n f b (i + r - 1) w hn rfl (by omega) hc hf false (esc_iff hr h0 hk _ (by simp [h5]))

  have hd1 : (((n - (i + r) : Nat) : Int) == 0) = false := by simp; omega
  have hd2 : decide (n - (i + r) = 0) = false := by simp; omega
  have hd3 : decide (n ≤ i + r) = false := by simp; omega
  have hd4 : decide (((n - (i + r) : Nat) : Int) < 5) = false := by simp; omega
  have hd5 : decide (0 < r) = true := by simp; omega
  have hd6 : decide ((0 : Int) < r) = true := by simp; omega
  clear hc hf hr hk hnq
  go_enter Try.func25, Try.ntmps25
  go_wp2_with (first | (go_at_call 38; refine HB.out.mono ?_; rintro e w' ⟨rfl, rfl⟩) | (go_at_call 40; (try rw [hp1]); refine HE.out.mono ?_; rintro e w' ⟨rfl, rfl⟩))
  go_quiet (fail)
  go_wp2
  go_ret2
  exact ⟨rfl, below_drewN _ _ _⟩
end Go.Proofs.Qxb6603303a

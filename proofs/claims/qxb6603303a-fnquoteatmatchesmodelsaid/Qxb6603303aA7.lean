import Derived.Test.Qxb6603303aA6
namespace Go.Proofs.Qxb6603303a
open Go.RowKit
set_option linter.unusedVariables false

theorem ext_tl (d : Nat) (hd : d < 5) : (ByteArray.extract ⟨#[117, 48, 48, 50, 50]⟩ 0 d).toList = (List.range d).map (fun q => UInt8.ofNat (gq (q + 1))) := by
  obtain rfl | rfl | rfl | rfl | rfl : d = 0 ∨ d = 1 ∨ d = 2 ∨ d = 3 ∨ d = 4 := by omega
  all_goals (rw [toList_data]; decide)

theorem pre_iff {f : Nat → Int} {n j k : Nat} (hk : IsPre f n j k) (h1 : j < n) (h2 : n < j + 5) (hf : ∀ i, i < n → 0 ≤ f i ∧ f i < 256) (T : Bool) (hT : T = decide (j + k = n)) :
    ((ByteArray.extract ⟨#[117, 48, 48, 50, 50]⟩ 0 (n - j)).toList == (strOfNums (bs f j (n - j))).toList) = T := by
  have hs := str_eq f j (n - j) (fun q => gq (q + 1)) (fun q hq => hf (j + q) (by omega)) (fun q hq => by
    obtain rfl | rfl | rfl | rfl | rfl : q = 0 ∨ q = 1 ∨ q = 2 ∨ q = 3 ∨ q = 4 := by omega
    all_goals decide)
  rw [ext_tl _ (by omega)]
  obtain ⟨k1, k2, k3, k4⟩ := hk
  subst hT
  by_cases h : j + k = n
  · rw [decide_eq_true h, beq_iff_eq]
    exact (hs.2 fun q hq => by rw [k3 q (by omega), gq_tl]).symm
  · rw [decide_eq_false h, beq_eq_false_iff_ne]
    intro e
    have := hs.1 e.symm k (by omega)
    rw [gq_tl] at this
    exact k4 ⟨by omega, by omega, this⟩

set_option maxHeartbeats 1000000 in
theorem quoteAt_D (n : Nat) (f : Nat → Int) (b i r k : Nat) (w : World) (hn : n ≤ 1048576) (hc : ∀ i, i < n → w.cell? ⟨b, i, none⟩ = some (.int .u8 (f i))) (hf : ∀ i, i < n → 0 ≤ f i ∧ f i < 256) (hr : IsRun f n i r) (hk : IsPre f n (i + r) k)
    (hnq : ¬ (i + r < n ∧ f (i + r) = 34)) (h0 : 0 < r) (h5 : ¬ k = 5) (hi1 : i + r < n) (hi2 : n < i + r + 5) (T : Bool) (hT : T = decide (i + r + k = n)) :
    Calls Try.prog 25 #[.slice (some ⟨b, 0, none⟩) n n, .int .i64 (i : Int)] w fun e w' => e = .returned (.tuple #[.int .i64 (-1), .int .i64 (if T = true then (n : Int) else i)]) ∧ Below w.heap.size w w' := by
  have HB : Hid (Calls Try.prog 38 #[.slice (some ⟨b, 0, none⟩) n n, .int .i64 (i : Int)] w fun e w' => e = .returned (.int .i64 (r : Int)) ∧ w = w') := backs_any n n f b i r w hn hc hr
  have hirn : i + r ≤ n := hr.1
  have hci := hc i (by omega)
  have hfi : (f i == 34) = false := by
    rw [beq_eq_false_iff_ne]
    by_cases h : r = 0
    · subst h; intro e; exact hnq ⟨by omega, by simpa using e⟩
    · have := hr.2.1 0 (by omega)
      simp at this
      rw [this]; decide
  have hcj := hc (i + r) (by omega)
  have hfj : (f (i + r) == 34) = false := by
    rw [beq_eq_false_iff_ne]
    intro e; exact hnq ⟨by omega, e⟩
  have hp1 : (i : Int) + r - 1 = ((i + r - 1 : Nat) : Int) := by omega
  have HE : Hid (Calls Try.prog 40 #[.slice (some ⟨b, 0, none⟩) n n, .int .i64 ((i + r - 1 : Nat) : Int)] w fun e w' => e = .returned (.bool false) ∧ w = w') := escQ_any n n f b (i + r - 1) w hn rfl (by omega) hc hf false (esc_iff hr h0 hk _ (by simp [h5]))

  have hd1 : (((n - (i + r) : Nat) : Int) == 0) = false := by simp; omega
  have hd2 : decide (n - (i + r) = 0) = false := by simp; omega
  have hd3 : decide (n ≤ i + r) = false := by simp; omega
  have hd4 : decide (((n - (i + r) : Nat) : Int) < 5) = true := by simp; omega
  have hd7 : decide (n - (i + r) < 5) = true := by simp; omega
  have hconv : ∀ m cap', (convert 22 9 (.slice (some ⟨b, i + r, none⟩) (n - (i + r)) cap')).run Try.prog (w.drewN m) = .ok (.string (strOfNums (bs f (i + r) (n - (i + r))))) (w.drewN m) := fun m cap' =>
    run_convert_bytes_arg (P := Try.prog) (w.drewN m) 22 5 Try.underlying22 Try.underlying5 b (i + r) (n - (i + r)) cap' (bs f (i + r) (n - (i + r))) (bs_length _ _ _) (fun q hq => by rw [bs_getD _ _ _ _ hq]; exact hc (i + r + q) (by omega)) 9 Try.underlying9
  have hsz : (strOfNums (bs f (i + r) (n - (i + r)))).size = n - (i + r) := by rw [strOfNums_size, bs_length]
  have hpre := pre_iff hk hi1 hi2 (fun q hq => hf q hq) T hT
  have HP : Hid (∀ w', Calls Try.prog 41 #[.string ⟨#[117, 48, 48, 50, 50]⟩, .string (strOfNums (bs f (i + r) (n - (i + r))))] w' fun e w'' => e = .returned (.bool T) ∧ w' = w'') := fun w' =>
    hasPrefix_any ⟨#[117, 48, 48, 50, 50]⟩ _ w' (by decide) (by rw [hsz]; show _ ≤ 5; omega) T (by rw [hsz]; exact hpre)
  clear hpre hT hsz
  have hd5 : decide (0 < r) = true := by simp; omega
  have hd6 : decide ((0 : Int) < r) = true := by simp; omega
  clear hc hf hr hk hnq
  cases T with
  | true =>
    go_enter Try.func25, Try.ntmps25
    go_wp2_with (first | (go_at_call 38; refine HB.out.mono ?_; rintro e w' ⟨rfl, rfl⟩) | (go_at_call 40; (try rw [hp1]); refine HE.out.mono ?_; rintro e w' ⟨rfl, rfl⟩))
    go_quiet ((go_at_call 41; refine (HP.out _).mono ?_; rintro e w' ⟨rfl, rfl⟩; exact ⟨rfl, _, rfl⟩))
    go_wp2
    go_ret2
    exact ⟨rfl, below_drewN _ _ _⟩
  | false =>
    go_enter Try.func25, Try.ntmps25
    go_wp2_with (first | (go_at_call 38; refine HB.out.mono ?_; rintro e w' ⟨rfl, rfl⟩) | (go_at_call 40; (try rw [hp1]); refine HE.out.mono ?_; rintro e w' ⟨rfl, rfl⟩))
    go_quiet ((go_at_call 41; refine (HP.out _).mono ?_; rintro e w' ⟨rfl, rfl⟩; exact ⟨rfl, _, rfl⟩))
    go_wp2
    go_ret2
    exact ⟨rfl, below_drewN _ _ _⟩

/-- quoteAt (25), whole. -/
theorem quoteAt_any (n : Nat) (f : Nat → Int) (b i r k : Nat) (w : World) (hn : n ≤ 1048576) (hin : i ≤ n) (hc : ∀ i, i < n → w.cell? ⟨b, i, none⟩ = some (.int .u8 (f i))) (hf : ∀ i, i < n → 0 ≤ f i ∧ f i < 256) (hr : IsRun f n i r) (hk : IsPre f n (i + r) k)
    (E F : Int) (hres : Res f n i r k E F) :
    Calls Try.prog 25 #[.slice (some ⟨b, 0, none⟩) n n, .int .i64 (i : Int)] w fun e w' => e = .returned (.tuple #[.int .i64 E, .int .i64 F]) ∧ Below w.heap.size w w' := by
  have hres' := hres
  obtain ⟨k1, k2, k3, k4⟩ := hk
  have hk : IsPre f n (i + r) k := ⟨k1, k2, k3, k4⟩
  have hir := hr.1
  cases hres with
  | q1 h hq ha hE hF => exact (quoteAt_q n f b i r k w hn hc hr h hq E F hres').mono fun e w' ⟨he, hw⟩ => ⟨he, hw ▸ Below.refl _ _⟩
  | q0 h hq ha hE hF => exact (quoteAt_q n f b i r k w hn hc hr h hq E F hres').mono fun e w' ⟨he, hw⟩ => ⟨he, hw ▸ Below.refl _ _⟩
  | u1 h h0 h5 K ha hK hE hF =>
    subst hE hF
    exact (quoteAt_u1 n f b i r k w hn hc hf hr hk h h0 h5 K ha hK).mono fun e w' ⟨he, hw⟩ => ⟨he, hw ▸ Below.refl _ _⟩
  | u0 h h0 h5 ha hE hF =>
    subst hE hF
    exact (quoteAt_u0 n f b i r k w hn hc hf hr hk h h0 h5 ha).mono fun e w' ⟨he, hw⟩ => ⟨he, hw ▸ Below.refl _ _⟩
  | e1 h hk5 he ha hE hF =>
    subst hE hF
    by_cases h0 : r = 0
    · have hk0 : k = 0 := by rcases ha with ha | ha <;> omega
      obtain rfl : i = n := by omega
      exact quoteAt_A0 i f b i r k w hn hc hf hr hk h h0 rfl
    · have h0' : 0 < r := by omega
      have h5 : ¬ k = 5 := fun e => hk5 ⟨h0', e⟩
      by_cases hj : i + r = n
      · exact quoteAt_A1 n f b i r k w hn hc hf hr hk h h0' h5 hj
      · have := quoteAt_D n f b i r k w hn hc hf hr hk h h0' h5 (by omega) (by omega) true (by simp [he])
        simpa using this
  | e0 h hk5 ha hE hF =>
    subst hE hF
    by_cases h0 : r = 0
    · by_cases hj : i < n
      · exact quoteAt_B n f b i r k w hn hc hf hr hk h h0 hj
      · exact absurd ⟨by omega, .inr (by omega)⟩ ha
    · have h0' : 0 < r := by omega
      have h5 : ¬ k = 5 := fun e => hk5 ⟨h0', e⟩
      have hne : ¬ i + r + k = n := fun e => ha ⟨e, .inl h0'⟩
      by_cases hj : i + r + 5 ≤ n
      · exact quoteAt_C n f b i r k w hn hc hf hr hk h h0' h5 hj
      · have := quoteAt_D n f b i r k w hn hc hf hr hk h h0' h5 (by omega) (by omega) false (by simp [hne])
        simpa using this

/-- ZZQuoteAt (12). -/
theorem zzQuoteAt_any (n : Nat) (f : Nat → Int) (b i r k : Nat) (w : World) (hn : n ≤ 1048576) (hin : i ≤ n) (hc : ∀ i, i < n → w.cell? ⟨b, i, none⟩ = some (.int .u8 (f i))) (hf : ∀ i, i < n → 0 ≤ f i ∧ f i < 256) (hr : IsRun f n i r) (hk : IsPre f n (i + r) k)
    (E F : Int) (hres : Res f n i r k E F) :
    Calls Try.prog 12 #[.slice (some ⟨b, 0, none⟩) n n, .int .i64 (i : Int)] w fun e w' => e = .returned (.tuple #[.int .i64 E, .int .i64 F]) ∧ Below w.heap.size w w' := by
  have HQ : Hid (Calls Try.prog 25 #[.slice (some ⟨b, 0, none⟩) n n, .int .i64 (i : Int)] w fun e w' => e = .returned (.tuple #[.int .i64 E, .int .i64 F]) ∧ Below w.heap.size w w') := quoteAt_any n f b i r k w hn hin hc hf hr hk E F hres
  clear hc hf hr hk hres
  go_enter Try.func12, Try.ntmps12
  go_wp2_with (go_at_call 25; refine HQ.out.mono ?_; rintro e w' ⟨rfl, hb⟩)
  go_ret2
  exact ⟨rfl, hb⟩
end Go.Proofs.Qxb6603303a

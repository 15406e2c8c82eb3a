import Derived.Test.Qxb6603303aA3
namespace Go.Proofs.Qxb6603303a
open Go.RowKit
set_option linter.unusedVariables false

/-- k bytes of "u0022", and no more, stand at j. -/
def IsPre (f : Nat → Int) (n j k : Nat) : Prop := k ≤ 5 ∧ j + k ≤ n ∧ (∀ q, q < k → f (j + q) = tl q) ∧ ¬ (k < 5 ∧ j + k < n ∧ f (j + k) = tl k)
theorem IsPre.exists (f : Nat → Int) (n j : Nat) (hj : j ≤ n) : ∃ k, IsPre f n j k := by
  have : ∀ d k, k + d = 5 → j + k ≤ n → (∀ q, q < k → f (j + q) = tl q) → ∃ k, IsPre f n j k := by
    intro d
    induction d with
    | zero => exact fun k h1 h2 h3 => ⟨k, by omega, h2, h3, fun h => by omega⟩
    | succ d ih =>
      intro k h1 h2 h3
      by_cases h : j + k < n ∧ f (j + k) = tl k
      · refine ih (k + 1) (by omega) (by omega) fun q hq => ?_
        by_cases e : q = k
        · subst e; exact h.2
        · exact h3 q (by omega)
      · exact ⟨k, by omega, h2, h3, fun h' => h h'.2⟩
  exact this 5 0 (by omega) (by omega) fun q hq => by omega

/-- The answer (E, F), in plain words. -/
inductive Res (f : Nat → Int) (n i r k : Nat) (E F : Int) : Prop where
  | q1 (h : i + r < n) (hq : f (i + r) = 34) (ha : AO r) (hE : E = r) (hF : F = ((i + r + 1 : Nat) : Int))
  | q0 (h : i + r < n) (hq : f (i + r) = 34) (ha : ¬ AO r) (hE : E = -1) (hF : F = i)
  | u1 (h : ¬ (i + r < n ∧ f (i + r) = 34)) (h0 : 0 < r) (hk : k = 5) (K : Nat) (ha : OB r) (hK : IsBl r K) (hE : E = ((2 ^ K - 1 : Nat) : Int)) (hF : F = ((i + r + 5 : Nat) : Int))
  | u0 (h : ¬ (i + r < n ∧ f (i + r) = 34)) (h0 : 0 < r) (hk : k = 5) (ha : ¬ OB r) (hE : E = -1) (hF : F = i)
  | e1 (h : ¬ (i + r < n ∧ f (i + r) = 34)) (hk : ¬ (0 < r ∧ k = 5)) (he : i + r + k = n) (ha : 0 < r ∨ k = 0) (hE : E = -1) (hF : F = n)
  | e0 (h : ¬ (i + r < n ∧ f (i + r) = 34)) (hk : ¬ (0 < r ∧ k = 5)) (ha : ¬ (i + r + k = n ∧ (0 < r ∨ k = 0))) (hE : E = -1) (hF : F = i)
theorem Res.exists (f : Nat → Int) (n i r k : Nat) : ∃ E F, Res f n i r k E F := by
  by_cases h : i + r < n ∧ f (i + r) = 34
  · by_cases ha : AO r
    · exact ⟨_, _, .q1 h.1 h.2 ha rfl rfl⟩
    · exact ⟨_, _, .q0 h.1 h.2 ha rfl rfl⟩
  · by_cases hk : 0 < r ∧ k = 5
    · by_cases ha : OB r
      · obtain ⟨K, _, hK⟩ := fill_of_OB r ha
        exact ⟨_, _, .u1 h hk.1 hk.2 K ha hK rfl rfl⟩
      · exact ⟨_, _, .u0 h hk.1 hk.2 ha rfl rfl⟩
    · by_cases ha : i + r + k = n ∧ (0 < r ∨ k = 0)
      · exact ⟨_, _, .e1 h hk ha.1 ha.2 rfl rfl⟩
      · exact ⟨_, _, .e0 h hk ha rfl rfl⟩

/-! ### quoteAt (25) -/
/-- the quote stands. -/
theorem quoteAt_q (n : Nat) (f : Nat → Int) (b i r k : Nat) (w : World) (hn : n ≤ 1048576) (hc : ∀ i, i < n → w.cell? ⟨b, i, none⟩ = some (.int .u8 (f i))) (hr : IsRun f n i r) (hj : i + r < n) (hq : f (i + r) = 34)
    (E F : Int) (hres : Res f n i r k E F) :
    Calls Try.prog 25 #[.slice (some ⟨b, 0, none⟩) n n, .int .i64 (i : Int)] w fun e w' => e = .returned (.tuple #[.int .i64 E, .int .i64 F]) ∧ w = w' := by
  have hck := hc (i + r) hj
  rw [hq] at hck
  by_cases h0 : r = 0
  · subst h0
    obtain ⟨rfl, rfl⟩ : E = 0 ∧ F = ((i + 1 : Nat) : Int) := by
      cases hres with
      | q1 h hq ha hE hF => exact ⟨by simpa using hE, by simpa using hF⟩
      | q0 h hq ha hE hF => exact absurd ⟨0, rfl⟩ ha
      | u1 h | u0 h | e1 h | e0 h => exact absurd ⟨hj, hq⟩ h
    clear hres hr hc
    simp only [Nat.add_zero] at *
    go_enter Try.func25, Try.ntmps25
    go_wp2
    go_ret2
    exact ⟨rfl, rfl⟩
  · have hci := hc i (by omega)
    have hfi : f i = 92 := by have := hr.2.1 0 (by omega); simpa using this
    rw [hfi] at hci
    have hB := fun w => backs_any n n f b i r w hn
    have hB := hB w hc hr
    have hO := own_plain r w (by omega)
    have hl : low r ≤ r := andn_le _ _
    have hA := i64_andn r (low r) (by omega) (by omega)
    by_cases ha : AO r
    · have e1 := low_of_AO r (by omega) ha
      rw [e1, andn_self r (by omega)] at hA
      rw [e1] at hO
      obtain ⟨rfl, rfl⟩ : E = r ∧ F = ((i + r + 1 : Nat) : Int) := by
        cases hres with
        | q1 h hq ha hE hF => exact ⟨by simpa using hE, by simpa using hF⟩
        | q0 h hq ha' hE hF => exact absurd ha ha'
        | u1 h | u0 h | e1 h | e0 h => exact absurd ⟨hj, hq⟩ h
      have HB : Hid (Calls Try.prog 38 #[.slice (some ⟨b, 0, none⟩) n n, .int .i64 (i : Int)] w fun e w' => e = .returned (.int .i64 (r : Int)) ∧ w = w') := hB
      have HO : Hid (Calls Try.prog 39 #[.int .i64 (r : Int), .bool false] w fun e w' => e = .returned (.int .i64 (r : Int)) ∧ w = w') := hO
      clear hres hr hc e1 hl hB hO
      go_enter Try.func25, Try.ntmps25
      go_wp2_with (first | (go_at_call 38; refine HB.out.mono ?_; rintro e w' ⟨rfl, rfl⟩) | (go_at_call 39; refine HO.out.mono ?_; rintro e w' ⟨rfl, rfl⟩))
      go_ret2
      exact ⟨rfl, rfl⟩
    · have e1 := andn_low r (by omega) ha
      obtain ⟨rfl, rfl⟩ : E = -1 ∧ F = (i : Int) := by
        cases hres with
        | q1 h hq ha' hE hF => exact absurd ha' ha
        | q0 h hq ha hE hF => exact ⟨by simpa using hE, by simpa using hF⟩
        | u1 h | u0 h | e1 h | e0 h => exact absurd ⟨hj, hq⟩ h
      have e2 : (((andn r (low r) : Nat) : Int) == 0) = false := by simpa using e1
      generalize andn r (low r) = A at hA e2
      have HB : Hid (Calls Try.prog 38 #[.slice (some ⟨b, 0, none⟩) n n, .int .i64 (i : Int)] w fun e w' => e = .returned (.int .i64 (r : Int)) ∧ w = w') := hB
      have HO : Hid (Calls Try.prog 39 #[.int .i64 (r : Int), .bool false] w fun e w' => e = .returned (.int .i64 (low r : Int)) ∧ w = w') := hO
      clear hres hr hc e1 hB hO
      go_enter Try.func25, Try.ntmps25
      go_wp2_with (first | (go_at_call 38; refine HB.out.mono ?_; rintro e w' ⟨rfl, rfl⟩) | (go_at_call 39; refine HO.out.mono ?_; rintro e w' ⟨rfl, rfl⟩))
      go_ret2
      exact ⟨rfl, rfl⟩
end Go.Proofs.Qxb6603303a

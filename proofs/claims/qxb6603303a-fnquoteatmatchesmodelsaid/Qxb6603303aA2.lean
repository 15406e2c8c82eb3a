import Derived.Test.Qxb6603303aA1
namespace Go.Proofs.Qxb6603303a
open Go.RowKit
set_option linter.unusedVariables false

/-! ### zzAllOnes (27) -/
theorem allOnes_any (r : Nat) (w : World) (hr : r ≤ 1048576) (t : Bool) (ht : t = true ↔ AO r) :
    Calls Try.prog 27 #[.int .i64 (r : Int)] w fun e w' => e = .returned (.bool t) ∧ w = w' := by
  have HT : Hid (t = true ↔ AO r) := ht
  clear ht
  go_enter Try.func27, Try.ntmps27
  go_wp2
  go_loop [0] (fun v => ∃ m : Nat, m ≤ 1048576 ∧ v = .int .i64 m ∧ Hid (AO m ↔ AO r)) (fun v => (intOf v).toNat)
  case atStart => exact ⟨r, hr, rfl, Iff.rfl⟩
  case round =>
    obtain ⟨m, hm, rfl, HM⟩ := hrel
    have ha := i64_and1 m (by omega)
    by_cases h0 : m = 0
    · subst h0
      clear ha
      have e : t = true := HT.out.2 (HM.out.1 ⟨0, rfl⟩)
      subst e
      go_wp2
      go_ret
      exact ⟨rfl, rfl⟩
    · by_cases h1 : m % 2 = 1
      · rw [h1] at ha
        have HN : Hid (AO (m / 2) ↔ AO r) := by
          refine Iff.trans ?_ HM.out
          constructor
          · intro h
            have := h.odd
            rwa [show 2 * (m / 2) + 1 = m by omega] at this
          · intro h
            rw [show m = 2 * (m / 2) + 1 by omega] at h
            exact h.half
        clear h1
        go_wp2
        go_round
        case rel => exact ⟨m / 2, by omega, by go_num, HN⟩
        case measure => simp [intOf]; omega
      · have h1' : m % 2 = 0 := by omega
        rw [h1'] at ha
        have e : t = false := by
          cases t with
          | false => rfl
          | true =>
            exfalso
            have := HM.out.2 (HT.out.1 rfl)
            rw [show m = 2 * (m / 2) by omega] at this
            exact AO.not_even (by omega) this
        subst e
        have hne : ((m : Int) == 0) = false := by simpa using h0
        clear h1 h1'
        go_wp2
        go_ret
        exact ⟨rfl, rfl⟩

/-! ### zzOneBlock (28) -/
theorem oneBlock_any (r : Nat) (w : World) (hr : r ≤ 1048576) (hr0 : 0 < r) (t : Bool) (ht : t = true ↔ OB r) :
    Calls Try.prog 28 #[.int .i64 (r : Int)] w fun e w' => e = .returned (.bool t) ∧ w = w' := by
  have HT : Hid (t = true ↔ OB r) := ht
  clear ht
  go_enter Try.func28, Try.ntmps28
  go_wp2
  go_loop [0] (fun v => ∃ m : Nat, m ≤ 1048576 ∧ 0 < m ∧ v = .int .i64 m ∧ Hid (OB m ↔ OB r)) (fun v => (intOf v).toNat)
  case atStart => exact ⟨r, hr, hr0, rfl, Iff.rfl⟩
  case round =>
    obtain ⟨m, hm, hm0, rfl, HM⟩ := hrel
    have ha := i64_and1 m (by omega)
    by_cases h1 : m % 2 = 1
    · rw [h1] at ha
      have HA : Hid (AO m ↔ OB r) := by
        refine Iff.trans ?_ HM.out
        rw [show m = 2 * (m / 2) + 1 by omega]
        exact OB.odd.symm
      clear h1 HM
      go_wp2
      clear ha
      go_loop [0] (fun v => ∃ m : Nat, m ≤ 1048576 ∧ v = .int .i64 m ∧ Hid (AO m ↔ OB r)) (fun v => (intOf v).toNat)
      case atStart => exact ⟨m, hm, rfl, HA⟩
      case round =>
        clear HA hm0 hm
        obtain ⟨m, hm, rfl, HM⟩ := hrel
        have ha := i64_and1 m (by omega)
        by_cases h0 : m = 0
        · subst h0
          clear ha
          have e : t = true := HT.out.2 (HM.out.1 ⟨0, rfl⟩)
          subst e
          go_wp2
          go_ret
          exact ⟨rfl, rfl⟩
        · by_cases h1 : m % 2 = 1
          · rw [h1] at ha
            have HN : Hid (AO (m / 2) ↔ OB r) := by
              refine Iff.trans ?_ HM.out
              constructor
              · intro h
                have := h.odd
                rwa [show 2 * (m / 2) + 1 = m by omega] at this
              · intro h
                rw [show m = 2 * (m / 2) + 1 by omega] at h
                exact h.half
            clear h1
            go_wp2
            go_round
            case rel => exact ⟨m / 2, by omega, by go_num, HN⟩
            case measure => simp [intOf]; omega
          · have h1' : m % 2 = 0 := by omega
            rw [h1'] at ha
            have e : t = false := by
              cases t with
              | false => rfl
              | true =>
                exfalso
                have := HM.out.2 (HT.out.1 rfl)
                rw [show m = 2 * (m / 2) by omega] at this
                exact AO.not_even (by omega) this
            subst e
            have hne : ((m : Int) == 0) = false := by simpa using h0
            clear h1 h1'
            go_wp2
            go_ret
            exact ⟨rfl, rfl⟩
    · have h1' : m % 2 = 0 := by omega
      rw [h1'] at ha
      have HN : Hid (OB (m / 2) ↔ OB r) := by
        refine Iff.trans ?_ HM.out
        constructor
        · intro h
          have := h.even
          rwa [show 2 * (m / 2) = m by omega] at this
        · intro h
          rw [show m = 2 * (m / 2) by omega] at h
          exact h.half
      have hp : 0 < m / 2 := by omega
      clear h1 h1'
      go_wp2
      go_round
      case rel => exact ⟨m / 2, by omega, hp, by go_num, HN⟩
      case measure => simp [intOf]; omega

/-! ### zzBitLen (30) -/
theorem IsBl.zero {k : Nat} (h : IsBl 0 k) : k = 0 := by
  cases k with
  | zero => rfl
  | succ k =>
    have := h.2 (by omega)
    have := Nat.two_pow_pos k
    simp at *
theorem IsBl.half {m j : Nat} (hm : 0 < m) (h : IsBl m j) : 0 < j ∧ IsBl (m / 2) (j - 1) := by
  cases j with
  | zero => have := h.1; simp at this; omega
  | succ j =>
    refine ⟨by omega, ?_, fun h0 => ?_⟩
    · have := h.1
      rw [Nat.pow_succ] at this
      simp
      omega
    · cases j with
      | zero => simp at h0
      | succ j =>
        have := h.2 (by omega)
        simp only [Nat.add_sub_cancel] at this ⊢
        rw [Nat.pow_succ] at this
        omega
theorem bitLen_any (r K : Nat) (w : World) (hr : r ≤ 1048576) (hK : IsBl r K) (hK2 : K ≤ 40) :
    Calls Try.prog 30 #[.int .i64 (r : Int)] w fun e w' => e = .returned (.int .i64 (K : Int)) ∧ w = w' := by
  have HK : Hid (IsBl r K) := hK
  clear hK
  go_enter Try.func30, Try.ntmps30
  go_wp2
  go_loop [0, 3] (fun v u => ∃ m k : Nat, m ≤ 1048576 ∧ k ≤ K ∧ v = .int .i64 m ∧ u = .int .i64 k ∧ Hid (IsBl m (K - k))) (fun v u => (intOf v).toNat)
  case atStart => exact ⟨r, 0, hr, by omega, rfl, rfl, HK⟩
  case round =>
    obtain ⟨m, k, hm, hk, rfl, rfl, HM⟩ := hrel
    by_cases h0 : m = 0
    · subst h0
      have e : K - k = 0 := HM.out.zero
      obtain rfl : k = K := by omega
      clear e
      go_wp2
      go_ret
      exact ⟨rfl, rfl⟩
    · have hh := HM.out.half (by omega)
      have hlt : k < K := by omega
      have HN : Hid (IsBl (m / 2) (K - (k + 1))) := by
        have := hh.2
        rwa [show K - k - 1 = K - (k + 1) by omega] at this
      clear hh
      go_wp2
      go_round
      case rel => exact ⟨m / 2, k + 1, by omega, by omega, by go_num, by go_num, HN⟩
      case measure => simp [intOf]; omega

/-! ### zzLowOnes (29), ownEscape (39) -/
theorem lowOnes_any (t : Nat) (w : World) (ht : t ≤ 40) :
    Calls Try.prog 29 #[.int .i64 (t : Int)] w fun e w' => e = .returned (.int .i64 ((2 ^ t - 1 : Nat) : Int)) ∧ w = w' := by
  have e1 : wrap64 ((2 : Int) ^ t) = 2 ^ t := by
    have h1 : (2 : Int) ^ t ≤ 2 ^ 40 := by exact_mod_cast Nat.pow_le_pow_right (show 0 < 2 by decide) ht
    have h0 : (0 : Int) ≤ 2 ^ t := by exact_mod_cast Nat.zero_le (2 ^ t)
    unfold wrap64
    omega
  have e2 : wrap64 ((2 : Int) ^ t - 1) = ((2 ^ t - 1 : Nat) : Int) := by
    have h1 : (2 : Int) ^ t ≤ 2 ^ 40 := by exact_mod_cast Nat.pow_le_pow_right (show 0 < 2 by decide) ht
    have h0 : 0 < 2 ^ t := Nat.two_pow_pos t
    have h2 : (2 : Int) ^ t = ((2 ^ t : Nat) : Int) := by simp
    unfold wrap64
    omega
  go_enter Try.func29, Try.ntmps29
  go_wp2
  go_ret
  exact ⟨ret_int e2, rfl⟩
theorem own_plain (r : Nat) (w : World) (hr : r ≤ 1048576) :
    Calls Try.prog 39 #[.int .i64 (r : Int), .bool false] w fun e w' => e = .returned (.int .i64 (low r : Int)) ∧ w = w' := by
  have h := i64_andn r (r + 1) (by omega) (by omega)
  have h' : bits .andNot .i64 (r : Int) ((r : Int) + 1) = (low r : Int) := by simpa [low] using h
  clear h
  go_enter Try.func39, Try.ntmps39
  go_wp2
  go_ret
  exact ⟨rfl, rfl⟩
theorem own_esc (r : Nat) (w : World) (hr : r ≤ 1048576) (hr0 : 0 < r) :
    Calls Try.prog 39 #[.int .i64 (r : Int), .bool true] w fun e w' => e = .returned (.int .i64 (low (fill r) : Int)) ∧ w = w' := by
  have hf := fill_lt r 21 (by omega)
  have ho := i64_orn r (r - 1) (by omega) (by omega)
  have ho' : bits .or .i64 (r : Int) ((r : Int) - 1) = (fill r : Int) := by
    rw [show ((r : Int) - 1) = ((r - 1 : Nat) : Int) by omega]; exact ho
  have h := i64_andn (fill r) (fill r + 1) (by omega) (by omega)
  have h' : bits .andNot .i64 (fill r : Int) ((fill r : Int) + 1) = (low (fill r) : Int) := by simpa [low] using h
  clear h ho
  go_enter Try.func39, Try.ntmps39
  go_wp2
  go_ret
  exact ⟨rfl, rfl⟩
end Go.Proofs.Qxb6603303a

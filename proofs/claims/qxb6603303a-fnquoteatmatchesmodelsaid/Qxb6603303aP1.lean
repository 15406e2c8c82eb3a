import Derived.Test.Qxb6603303aRows
import Derived.Laws.BitsAllLaws
import Derived.Laws.BitsLemmas
namespace Go.Proofs.Qxb6603303a
set_option linter.unusedVariables false

/-! Plain bits, no Go in sight. -/

/-- a &^ b on 64 bits. -/
def andn (a b : Nat) : Nat := a &&& (2 ^ 64 - (b + 1))
def low (r : Nat) : Nat := andn r (r + 1)
/-- all ones. -/
def AO (r : Nat) : Prop := ∃ t, r = 2 ^ t - 1
/-- one block of ones: s zeros below t ones. -/
def OB (r : Nat) : Prop := ∃ s t, 0 < t ∧ r = (2 ^ t - 1) * 2 ^ s

theorem testBit_andn (a b i : Nat) (ha : a < 2 ^ 64) (hb : b < 2 ^ 64) : (andn a b).testBit i = (a.testBit i && !b.testBit i) := by
  unfold andn
  rw [Nat.testBit_and, Nat.testBit_two_pow_sub_succ hb]
  by_cases h : i < 64
  · simp [h]
  · have : a.testBit i = false := Nat.testBit_lt_two_pow (Nat.lt_of_lt_of_le ha (Nat.pow_le_pow_right (by decide) (by omega)))
    simp [this]

theorem andn_le (a b : Nat) : andn a b ≤ a := Nat.and_le_left

theorem tb0 (a x : Nat) (hx : x < 2) : (2 * a + x).testBit 0 = decide (x = 1) := by
  rw [Nat.testBit_zero]
  congr 1
  have : (2 * a + x) % 2 = x := by omega
  rw [this]
theorem tbs (a x i : Nat) (hx : x < 2) : (2 * a + x).testBit (i + 1) = a.testBit i := by
  rw [Nat.testBit_succ]
  have : (2 * a + x) / 2 = a := by omega
  rw [this]

theorem andn_step (a b x y : Nat) (hx : x < 2) (hy : y < 2) (ha : a < 2 ^ 62) (hb : b < 2 ^ 62) : andn (2 * a + x) (2 * b + y) = 2 * andn a b + (if x = 1 ∧ y = 0 then 1 else 0) := by
  apply Nat.eq_of_testBit_eq
  intro i
  rw [testBit_andn _ _ _ (by omega) (by omega)]
  cases i with
  | zero =>
    rw [tb0 _ _ hx, tb0 _ _ hy, tb0 _ _ (by split <;> omega)]
    obtain rfl | rfl : x = 0 ∨ x = 1 := by omega
    · simp
    · obtain rfl | rfl : y = 0 ∨ y = 1 := by omega
      · simp
      · simp
  | succ i =>
    rw [tbs _ _ _ hx, tbs _ _ _ hy, tbs _ _ _ (by split <;> omega), testBit_andn _ _ _ (by omega) (by omega)]

theorem or_step (a b x y : Nat) (hx : x < 2) (hy : y < 2) : (2 * a + x) ||| (2 * b + y) = 2 * (a ||| b) + (if x = 1 ∨ y = 1 then 1 else 0) := by
  apply Nat.eq_of_testBit_eq
  intro i
  rw [Nat.testBit_or]
  cases i with
  | zero =>
    rw [tb0 _ _ hx, tb0 _ _ hy, tb0 _ _ (by split <;> omega)]
    obtain rfl | rfl : x = 0 ∨ x = 1 := by omega
    · obtain rfl | rfl : y = 0 ∨ y = 1 := by omega
      · simp
      · simp
    · simp
  | succ i =>
    rw [tbs _ _ _ hx, tbs _ _ _ hy, tbs _ _ _ (by split <;> omega), Nat.testBit_or]

theorem low_odd (m : Nat) (h : m < 2 ^ 61) : low (2 * m + 1) = 2 * low m + 1 := by
  have := andn_step m (m + 1) 1 0 (by omega) (by omega) (by omega) (by omega)
  unfold low
  rw [show 2 * m + 1 + 1 = 2 * (m + 1) + 0 by omega, this]
  simp

theorem AO.odd {m : Nat} (h : AO m) : AO (2 * m + 1) := by
  obtain ⟨t, rfl⟩ := h
  refine ⟨t + 1, ?_⟩
  have := Nat.two_pow_pos t
  rw [Nat.pow_succ]; omega

theorem AO.half {m : Nat} (h : AO (2 * m + 1)) : AO m := by
  obtain ⟨t, ht⟩ := h
  cases t with
  | zero => simp at ht
  | succ t =>
    refine ⟨t, ?_⟩
    have := Nat.two_pow_pos t
    rw [Nat.pow_succ] at ht; omega

theorem AO.not_even {m : Nat} (hm : 0 < m) : ¬ AO (2 * m) := by
  rintro ⟨t, ht⟩
  cases t with
  | zero => simp at ht; omega
  | succ t =>
    have := Nat.two_pow_pos t
    rw [Nat.pow_succ] at ht; omega

theorem low_of_AO (r : Nat) : r < 2 ^ 61 → AO r → low r = r := by
  induction r using Nat.strongRecOn with
  | _ r ih =>
    intro hr h
    obtain ⟨m, rfl | rfl⟩ : ∃ m, r = 2 * m ∨ r = 2 * m + 1 := ⟨r / 2, by omega⟩
    · by_cases hm : m = 0
      · subst hm; decide
      · exact absurd h (AO.not_even (by omega))
    · rw [low_odd m (by omega), ih m (by omega) (by omega) h.half]

theorem andn_low (r : Nat) : r < 2 ^ 61 → ¬ AO r → andn r (low r) ≠ 0 := by
  induction r using Nat.strongRecOn with
  | _ r ih =>
    intro hr h
    obtain ⟨m, rfl | rfl⟩ : ∃ m, r = 2 * m ∨ r = 2 * m + 1 := ⟨r / 2, by omega⟩
    · have h0 : m ≠ 0 := fun e => h ⟨0, by omega⟩
      have := andn_step m m 0 1 (by omega) (by omega) (by omega) (by omega)
      have hz : low (2 * m) = 2 * andn m m := by
        unfold low
        simpa using this
      have hmm : andn m m = 0 := by
        apply Nat.eq_of_testBit_eq
        intro i
        rw [testBit_andn _ _ _ (by omega) (by omega)]
        cases m.testBit i <;> simp
      rw [hz, hmm]
      have h1 := andn_step m 0 0 0 (by omega) (by omega) (by omega) (by omega)
      have h2 : andn m 0 = m := by
        apply Nat.eq_of_testBit_eq
        intro i
        rw [testBit_andn _ _ _ (by omega) (by omega)]
        simp
      simp [h2] at h1 ⊢
      omega
    · rw [low_odd m (by omega)]
      have hl : low m ≤ m := andn_le _ _
      have := andn_step m (low m) 1 1 (by omega) (by omega) (by omega) (by omega)
      have hi := ih m (by omega) (by omega) (fun h' => h h'.odd)
      simp at this
      omega

theorem andn_self (m : Nat) (h : m < 2 ^ 62) : andn m m = 0 := by
  apply Nat.eq_of_testBit_eq
  intro i
  rw [testBit_andn _ _ _ (by omega) (by omega)]
  cases m.testBit i <;> simp

/-- The mended run: r | (r-1). -/
def fill (r : Nat) : Nat := r ||| (r - 1)

theorem fill_even (m : Nat) (hm : 0 < m) : fill (2 * m) = 2 * fill m + 1 := by
  have := or_step m (m - 1) 0 1 (by omega) (by omega)
  unfold fill
  rw [show 2 * m - 1 = 2 * (m - 1) + 1 by omega]
  simpa using this
theorem fill_odd (m : Nat) : fill (2 * m + 1) = 2 * m + 1 := by
  have := or_step m m 1 0 (by omega) (by omega)
  unfold fill
  simpa using this

theorem fill_lt (r : Nat) (k : Nat) (h : r < 2 ^ k) : fill r < 2 ^ k := Nat.or_lt_two_pow h (by omega)

theorem OB.even {m : Nat} (h : OB m) : OB (2 * m) := by
  obtain ⟨s, t, ht, rfl⟩ := h
  refine ⟨s + 1, t, ht, ?_⟩
  rw [Nat.pow_succ, ← Nat.mul_assoc, Nat.mul_comm 2, Nat.mul_assoc, Nat.mul_comm 2]

theorem OB.half {m : Nat} (h : OB (2 * m)) : OB m := by
  obtain ⟨s, t, ht, h⟩ := h
  cases s with
  | zero =>
    exfalso
    obtain ⟨t, rfl⟩ : ∃ q, t = q + 1 := ⟨t - 1, by omega⟩
    have := Nat.two_pow_pos t
    rw [Nat.pow_succ] at h; omega
  | succ s =>
    refine ⟨s, t, ht, ?_⟩
    rw [Nat.pow_succ, ← Nat.mul_assoc, Nat.mul_comm _ 2] at h
    omega

theorem OB.odd {m : Nat} : OB (2 * m + 1) ↔ AO (2 * m + 1) := by
  constructor
  · rintro ⟨s, t, ht, h⟩
    cases s with
    | zero => exact ⟨t, by simpa using h⟩
    | succ s =>
      rw [Nat.pow_succ, ← Nat.mul_assoc] at h
      omega
  · rintro ⟨t, h⟩
    refine ⟨0, t, ?_, by simpa using h⟩
    cases t with
    | zero => simp at h
    | succ t => omega

/-- The number of binary digits, by its borders. -/
def IsBl (r k : Nat) : Prop := r < 2 ^ k ∧ (0 < k → 2 ^ (k - 1) ≤ r)

theorem IsBl.unique {r k l : Nat} (h : IsBl r k) (g : IsBl r l) : k = l := by
  rcases Nat.lt_trichotomy k l with h1 | h1 | h1
  · have := g.2 (by omega)
    have := Nat.pow_le_pow_right (show 0 < 2 by decide) (show k ≤ l - 1 by omega)
    have := h.1
    omega
  · exact h1
  · have := h.2 (by omega)
    have := Nat.pow_le_pow_right (show 0 < 2 by decide) (show l ≤ k - 1 by omega)
    have := g.1
    omega

theorem fill_of_OB (r : Nat) : OB r → ∃ k, fill r = 2 ^ k - 1 ∧ IsBl r k := by
  induction r using Nat.strongRecOn with
  | _ r ih =>
    intro h
    obtain ⟨m, rfl | rfl⟩ : ∃ m, r = 2 * m ∨ r = 2 * m + 1 := ⟨r / 2, by omega⟩
    · have hm : 0 < m := by
        rcases Nat.eq_zero_or_pos m with rfl | h0
        · exfalso
          obtain ⟨s, t, ht, h⟩ := h
          obtain ⟨t, rfl⟩ : ∃ q, t = q + 1 := ⟨t - 1, by omega⟩
          have h1 := Nat.two_pow_pos t
          have h2 := Nat.two_pow_pos s
          have : 0 < (2 ^ (t + 1) - 1) * 2 ^ s := Nat.mul_pos (by rw [Nat.pow_succ]; omega) h2
          omega
        · exact h0
      obtain ⟨k, hk, hb⟩ := ih m (by omega) h.half
      refine ⟨k + 1, ?_, ?_, ?_⟩
      · rw [fill_even m hm, hk, Nat.pow_succ]
        have := Nat.two_pow_pos k
        omega
      · rw [Nat.pow_succ]
        have := hb.1
        omega
      · intro _
        cases k with
        | zero => simp; omega
        | succ k =>
          have := hb.2 (by omega)
          simp only [Nat.add_sub_cancel] at this ⊢
          rw [Nat.pow_succ]
          omega
    · obtain ⟨t, ht⟩ := OB.odd.1 h
      refine ⟨t, ?_, ?_, ?_⟩
      · rw [fill_odd, ← ht]
      · have := Nat.two_pow_pos t
        omega
      · intro h0
        obtain ⟨t, rfl⟩ : ∃ q, t = q + 1 := ⟨t - 1, by omega⟩
        have := Nat.two_pow_pos t
        rw [Nat.pow_succ] at ht
        simp
        omega

theorem andn_fill_of_OB (r : Nat) (hr : r < 2 ^ 60) (h : OB r) : andn r (low (fill r)) = 0 := by
  obtain ⟨k, hk, hb⟩ := fill_of_OB r h
  have hf := fill_lt r 60 hr
  rw [low_of_AO _ (by omega) ⟨k, hk⟩]
  apply Nat.eq_of_testBit_eq
  intro i
  rw [testBit_andn _ _ _ (by omega) (by omega)]
  unfold fill
  rw [Nat.testBit_or]
  cases r.testBit i <;> simp

theorem andn_fill (r : Nat) : 0 < r → r < 2 ^ 60 → ¬ OB r → andn r (low (fill r)) ≠ 0 := by
  induction r using Nat.strongRecOn with
  | _ r ih =>
    intro h0 hr h
    obtain ⟨m, rfl | rfl⟩ : ∃ m, r = 2 * m ∨ r = 2 * m + 1 := ⟨r / 2, by omega⟩
    · have hi := ih m (by omega) (by omega) (by omega) (fun h' => h h'.even)
      have hf := fill_lt m 60 (by omega)
      rw [fill_even m (by omega), low_odd _ (by omega)]
      have hl : low (fill m) ≤ fill m := andn_le _ _
      have := andn_step m (low (fill m)) 0 1 (by omega) (by omega) (by omega) (by omega)
      simp at this
      omega
    · rw [fill_odd]
      exact andn_low _ (by omega) (fun h' => h (OB.odd.2 h'))

/-! The same in the model's words. -/
theorem i64_andn (a b : Nat) (ha : a < 2 ^ 62) (hb : b < 2 ^ 62) : bits .andNot .i64 (a : Int) (b : Int) = ((andn a b : Nat) : Int) := by
  have hx : andn a b ≤ a := andn_le a b
  have e : ∀ c : Nat, c < 2 ^ 62 → (BitVec.ofInt 64 (c : Int)).toNat = c := fun c hc => by
    rw [BitVec.ofInt_natCast, BitVec.toNat_ofNat]; exact Nat.mod_eq_of_lt (by omega)
  show IntKind.i64.wrap ((BitVec.ofInt 64 (a : Int) &&& ~~~BitVec.ofInt 64 (b : Int)).toNat : Int) = _
  rw [BitVec.toNat_and, BitVec.toNat_not, e a ha, e b hb]
  have : 2 ^ 64 - 1 - b = 2 ^ 64 - (b + 1) := by omega
  rw [this]
  show IntKind.i64.wrap ((andn a b : Nat) : Int) = _
  rw [IntKind.wrap_i64]
  omega
theorem i64_orn (a b : Nat) (ha : a < 2 ^ 62) (hb : b < 2 ^ 62) : bits .or .i64 (a : Int) (b : Int) = ((a ||| b : Nat) : Int) :=
  (bits_nat .i64 62 (by decide) (fun n h0 h1 => by rw [IntKind.wrap_i64]; omega) a b ha hb).2
theorem i64_and1 (a : Nat) (ha : a < 2 ^ 62) : bits .and .i64 (a : Int) 1 = ((a % 2 : Nat) : Int) := by
  have h := (bits_nat .i64 62 (by decide) (fun n h0 h1 => by rw [IntKind.wrap_i64]; omega) a 1 ha (by decide)).1
  rw [Nat.and_one_is_mod] at h
  simpa using h

end Go.Proofs.Qxb6603303a

import Derived.Test.Qxb6602276aA9
namespace Go.Proofs.Qxb6602276a
open Go.RowKit
set_option linter.unusedVariables false

/-! ### What pass rests on -/
def FF (f1 f2 f3 f4 : Nat → Int) (i f : Nat) : Int := if f = 0 then f1 i else if f = 1 then f2 i else if f = 2 then f3 i else f4 i
theorem P_le (s : ByteArray) {i j : Nat} (h : i ≤ j) : P s i ≤ P s j := by
  rcases Nat.lt_or_ge i j with h1 | h1
  · exact Nat.le_of_lt (P_mono s h1)
  · obtain rfl : i = j := by omega
    exact Nat.le_refl _
section
variable {s : ByteArray} {T : Int} {M : Nat} {st : Nat → Bool} {kd tx af ta : Nat → Int} {n : Nat} {f1 f2 f3 f4 : Nat → Int} {bf : Nat → Nat} {tok txt skip : Int}
theorem Dom.P_size (h : Dom s T M st kd tx af ta n f1 f2 f3 f4 bf tok txt skip) {k : Nat} (hk : k ≤ M) : P s k < s.size + 1 := by
  have := P_le s hk
  have := h.lay.fin
  omega
theorem Dom.TX_le (h : Dom s T M st kd tx af ta n f1 f2 f3 f4 bf tok txt skip) : ∀ (d k : Nat), k + d = M → 0 ≤ TX s k ∧ TX s k ≤ T := by
  have up : ∀ (d k : Nat), k + d = M → TX s k ≤ T := by
    intro d
    induction d with
    | zero => intro k hk; obtain rfl : k = M := by omega
              exact Int.le_of_eq h.lay.txm
    | succ d ih =>
      intro k hk
      have h1 := ih (k + 1) (by omega)
      have h2 := (h.lay.tok k (by omega)).2.2
      simp only [TX] at h1
      omega
  have lo : ∀ k, k ≤ M → 0 ≤ TX s k := by
    intro k
    induction k with
    | zero => intro _; simp [TX]
    | succ k ih =>
      intro hk
      have h1 := ih (by omega)
      have h2 := (h.lay.tok k (by omega)).2.2
      simp only [TX]
      omega
  exact fun d k hk => ⟨lo k (by omega), up d k hk⟩
/-- A skip at token k. -/
theorem Dom.leap (h : Dom s T M st kd tx af ta n f1 f2 f3 f4 bf tok txt skip) {k0 e0 k : Nat} (hc : Closed s k0 e0) (hk0 : k0 ≤ k) (hke : k < e0) (hb : bf (P s k) < n) (hf : f1 (bf (P s k)) = P s k) :
    ∃ e, k < e ∧ e ≤ e0 ∧ e ≤ M ∧ f2 (bf (P s k)) = P s e ∧ f3 (bf (P s k)) = TX s e ∧ f4 (bf (P s k)) = (bf (P s e) : Int) - bf (P s k) - 1 ∧ D s e = D s k := by
  obtain ⟨kq, hkq, e1, e2, e3, e4⟩ := h.nst _ hb
  obtain rfl : kq = k := P_inj s (by rw [hf] at e1; exact_mod_cast e1.symm)
  obtain ⟨e, he, hcl, ha, ht⟩ := h.lay.cl kq hkq e2
  have hin := h.inn _ hb
  rw [e3, ha] at hin
  refine ⟨e, hcl.1, ?_, he, by rw [e3, ha], by rw [e4, ht], by rw [hin, Int.toNat_natCast], hcl.2.1⟩
  rcases Nat.lt_or_ge e0 e with h1 | h1
  · have h2 := hcl.2.2 e0 hke h1
    rcases Nat.lt_or_ge k0 kq with h3 | h3
    · have := hc.2.2 kq h3 hke
      have := hc.2.1
      omega
    · obtain rfl : k0 = kq := by omega
      have := hc.2.1
      omega
  · exact h1
/-- No skip at token k. -/
theorem Dom.step (h : Dom s T M st kd tx af ta n f1 f2 f3 f4 bf tok txt skip) {k : Nat} (hk : k < M) (hn : ¬ (bf (P s k) < n ∧ f1 (bf (P s k)) = P s k)) : bf (P s (k + 1)) = bf (P s k) := by
  have h1 := h.bfs (P s k) (h.P_size (by omega))
  have h2 := h.bfs (P s (k + 1)) (h.P_size (by omega))
  refine h2.unique ⟨h1.le, fun j hj => ?_, fun hb => ?_⟩
  · have := h1.lo j hj
    have := P_lt s k
    omega
  · have h3 := h1.hi hb
    obtain ⟨kq, hkq, e1, _⟩ := h.nst _ hb
    have h4 : k < kq := by
      rcases Nat.lt_or_ge k kq with h5 | h5
      · exact h5
      · exfalso
        have := P_le s h5
        apply hn
        refine ⟨hb, ?_⟩
        omega
    have := P_le s (show k + 1 ≤ kq by omega)
    omega
end
theorem Closed.open {s : ByteArray} {k0 e0 k : Nat} (h : Closed s k0 e0) (h1 : k0 < k) (h2 : k ≤ e0) : 0 ≤ D s k - D s k0 ∧ (D s k - D s k0 = 0 ↔ k = e0) := by
  rcases Nat.lt_or_ge k e0 with h3 | h3
  · have := h.2.2 k h1 h3
    exact ⟨by omega, ⟨fun e => by omega, fun e => by omega⟩⟩
  · obtain rfl : k = e0 := by omega
    have := h.2.1
    exact ⟨by omega, ⟨fun _ => rfl, fun _ => by omega⟩⟩
end Go.Proofs.Qxb6602276a

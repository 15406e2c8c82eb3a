import Derived.Test.Qxb6602276aB3
namespace Go.Proofs.Qxb6602276a
open Go.RowKit
set_option linter.unusedVariables false

/-- The cells of chunk c, n skips of it. -/
def cellsF (F : Nat → Nat → Int) (c n : Nat) : List Value := (List.range (4 * n)).map (fun j => .int .i64 (F (1024 * c + j / 4) (j % 4)))
theorem cellsF_length (F : Nat → Nat → Int) (c n : Nat) : (cellsF F c n).length = n * 4 := by simp [cellsF]; omega
theorem cellsF_get {F : Nat → Nat → Int} {c n j : Nat} (h : j < 4 * n) : (cellsF F c n)[j]? = some (.int .i64 (F (1024 * c + j / 4) (j % 4))) := by simp [cellsF, List.getElem?_map, List.getElem?_range h]
theorem cellsF_succ (F : Nat → Nat → Int) (c n : Nat) : cellsF F c (n + 1) = cellsF F c n ++ [.int .i64 (F (1024 * c + n) 0), .int .i64 (F (1024 * c + n) 1), .int .i64 (F (1024 * c + n) 2), .int .i64 (F (1024 * c + n) 3)] := by
  apply List.ext_getElem?
  intro j
  rcases Nat.lt_or_ge j (4 * n) with h | h
  · rw [cellsF_get (by omega), List.getElem?_append_left (by rw [cellsF_length]; omega), cellsF_get h]
  · rcases Nat.lt_or_ge j (4 * (n + 1)) with h2 | h2
    · rw [cellsF_get h2, List.getElem?_append_right (by rw [cellsF_length]; omega), cellsF_length]
      obtain rfl | rfl | rfl | rfl : j = 4 * n ∨ j = 4 * n + 1 ∨ j = 4 * n + 2 ∨ j = 4 * n + 3 := by omega
      · rw [show 4 * n - n * 4 = 0 by omega, show 4 * n / 4 = n by omega, show 4 * n % 4 = 0 by omega]; rfl
      · rw [show 4 * n + 1 - n * 4 = 1 by omega, show (4 * n + 1) / 4 = n by omega, show (4 * n + 1) % 4 = 1 by omega]; rfl
      · rw [show 4 * n + 2 - n * 4 = 2 by omega, show (4 * n + 2) / 4 = n by omega, show (4 * n + 2) % 4 = 2 by omega]; rfl
      · rw [show 4 * n + 3 - n * 4 = 3 by omega, show (4 * n + 3) / 4 = n by omega, show (4 * n + 3) % 4 = 3 by omega]; rfl
    · rw [List.getElem?_eq_none (by rw [cellsF_length]; omega), List.getElem?_eq_none (by rw [List.length_append, cellsF_length]; simp; omega)]

/-- q skips lie in the list. -/
def LnX (q : Nat) (F : Nat → Nat → Int) (m : Nat) (ln : Nat → Nat) (X : Nat → List Value) : Prop := ∀ c, c < m → ln c = min 1024 (q - 1024 * c) ∧ X c = cellsF F c (ln c)
def LS (w : World) (H tb : Nat) (s t : ByteArray) (q : Nat) (F : Nat → Nat → Int) : Prop :=
  ∃ (a : Option Addr) (cp : Nat) (rows : List Value) (ln : Nat → Nat) (X : Nat → List Value), CK w H tb s t a cp rows ln X ∧ rows.length = (q + 1023) / 1024 ∧ LnX q F rows.length ln X
/-- A list that lies so can be read. -/
theorem LS.rs {w : World} {H tb : Nat} {s t : ByteArray} {q : Nat} {F : Nat → Nat → Int} (h : LS w H tb s t q F) : ∃ (a : Option Addr) (nc cp cb : Nat) (G C : Nat → Nat), RS w tb s q F a nc cp cb G C := by
  obtain ⟨a, cp, rows, ln, X, hk, hl, hx⟩ := h
  have key : ∀ c : Nat, ∃ g cc : Nat, c < rows.length → rows[c]? = some (.slice (some ⟨g, 0, none⟩) (ln c) cc) := by
    intro c
    rcases Nat.lt_or_ge c rows.length with hc | hc
    · obtain ⟨v, hv⟩ : ∃ v, rows[c]? = some v := ⟨rows[c], List.getElem?_eq_getElem hc⟩
      have ho := hk.own c v hv
      have h0 : 0 < ln c := by rw [(hx c hc).1]; omega
      obtain ⟨g, cc, rfl, _⟩ := ho.form h0
      exact ⟨g, cc, fun _ => hv⟩
    · exact ⟨0, 0, fun h => by omega⟩
  have hcb : ∃ cb : Nat, 0 < rows.length → a = some ⟨cb, 0, none⟩ := by
    rcases Nat.eq_zero_or_pos rows.length with h0 | h0
    · exact ⟨0, fun h => by omega⟩
    · obtain ⟨g, cc, hv, _⟩ := hk.out.form h0
      have : a = some ⟨g, 0, none⟩ := by simpa using (Value.slice.inj hv).1
      exact ⟨g, fun _ => this⟩
  obtain ⟨cb, hcb⟩ := hcb
  refine ⟨a, rows.length, cp, cb, fun c => (key c).choose, fun c => (key c).choose_spec.choose, ⟨by simp [World.cell?, hk.tr], by simp [World.cell?, hk.tr], hl, hcb, fun c hc => ?_, fun i f hi hf => ?_⟩⟩
  · have h1 := (key c).choose_spec.choose_spec hc
    have h2 := hk.out
    rw [hcb (by omega)] at h2
    rw [← (hx c hc).1]
    exact (h2.cellAt c (by omega)).trans h1
  · have hc : i / 1024 < rows.length := by omega
    have h1 := (key (i / 1024)).choose_spec.choose_spec hc
    have h2 := hk.own _ _ h1
    obtain ⟨h3, h4⟩ := hx (i / 1024) hc
    show w.cell? ⟨(key (i / 1024)).choose, i % 1024 * 4 + f, none⟩ = _
    rw [h2.cellAt (i % 1024 * 4 + f) (by rw [h3]; omega), h4, cellsF_get (by rw [h3]; omega)]
    rw [show 1024 * (i / 1024) + (i % 1024 * 4 + f) / 4 = i by omega, show (i % 1024 * 4 + f) % 4 = f by omega]
end Go.Proofs.Qxb6602276a

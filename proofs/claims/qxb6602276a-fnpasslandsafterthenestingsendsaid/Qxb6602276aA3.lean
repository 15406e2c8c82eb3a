import Derived.Test.Qxb6602276aA2
namespace Go.Proofs.Qxb6602276a
open Go.RowKit
set_option linter.unusedVariables false

/-! ### zzLayoutOf: the region that makes the rows -/
/-- The frame inside that region: v: the slots that it fills. -/
def A10 (s : ByteArray) (T : Int) (H0 n : Nat) (v : Nat → Value) : Act := ⟨#[.string s, .int .i64 T, undef, undef, .pointer (some ⟨H0, 0, none⟩), .bool false, .int .i64 (n : Int), v 7, undef, undef, undef, undef, undef, undef, undef, undef, undef, undef, undef, undef, .string s, .int .i64 (n : Int), v 22, v 23, v 24, v 25, v 26, v 27, v 28, v 29, v 30, v 31, v 32, v 33, v 34, v 35, v 36, v 37, undef, undef, undef, undef, undef, undef, undef, undef, undef, undef, undef, undef, undef, undef, undef, undef, undef, undef, undef, undef, undef, undef, undef, undef, undef, undef, undef, undef, undef, undef, undef, undef, undef, undef, undef, undef, undef, undef, undef, undef, undef, undef, undef, undef, undef, undef, undef, undef, undef, undef, undef, undef, undef, undef, undef, undef, undef, undef, undef, undef, undef, undef, undef, undef, undef, undef, undef, undef, undef, undef, undef, undef, undef, undef, undef, undef, undef, undef, undef, undef, undef, undef, undef, undef, undef, undef, undef, undef, undef, undef, undef, undef, undef, undef, undef, undef, undef, undef, undef, undef, undef, undef, undef, undef, undef, undef, undef], []⟩
def LB (l : Array Bool) (i : Nat) : Prop := l.getD i false = true
theorem LB.set {l : Array Bool} {i j : Nat} (h : LB (l.setIfInBounds i true) j) : j = i ∨ LB l j := by
  unfold LB at *
  by_cases e : j = i
  · exact .inl e
  · right
    rw [Array.getD_eq_getD_getElem?] at *
    rw [Array.getElem?_setIfInBounds_ne (fun e' => e e'.symm)] at h
    exact h
theorem LB.keep {l : Array Bool} {i j : Nat} (h : LB l j) : LB (l.setIfInBounds i true) j := by
  unfold LB at *
  rw [Array.getD_eq_getD_getElem?] at *
  by_cases e : j = i
  · subst e
    cases hl : l[j]? with
    | none => rw [hl] at h; simp at h
    | some b =>
      have hj : j < l.size := (Array.getElem?_eq_some_iff.1 hl).1
      simp [hj]
  · rw [Array.getElem?_setIfInBounds_ne (fun e' => e e'.symm)]
    exact h
def ty (c : Nat) : TypeId := if c = 0 then 4 else 3
def zv (c : Nat) : Value := if c = 0 then .bool false else .int .i64 0
/-- the operation that makes the i-th block. -/
def opOf (i : Nat) : Nat := if i = 5 then 16 else 3 * i + 2
def Z27 : Array Value := #[.slice none 0 0, .slice none 0 0, .slice none 0 0, .slice none 0 0, .slice none 0 0]
structure LI (n : Nat) (w0 : World) (l : Array Bool) (v : Nat → Value) (g : Nat → Nat) (w : World) : Prop where
  bel : Below w0.heap.size w0 w
  mv : ∀ c, c < 5 → LB l (3 * c) → v (22 + 3 * c) = .int .i64 (n : Int)
  ad : ∀ c, c < 5 → LB l (3 * c + 1) → v (23 + 3 * c) = .int .i64 ((n + 1 : Nat) : Int)
  mak : ∀ c, c < 5 → LB l (3 * c + 2) → v (24 + 3 * c) = .slice (some ⟨g c, 0, none⟩) (n + 1) (n + 1) ∧ w.ownsRow w0.heap.size (ty c) 1 (.slice (some ⟨g c, 0, none⟩) (n + 1) (n + 1)) (n + 1) (List.replicate (n + 1) (zv c))
  bd : LB l 15 → v 37 = .agg #[v 24, v 27, v 30, v 33, v 36] ∧ ∀ c, c < 5 → LB l (3 * c + 2)
  al : LB l 16 → v 7 = .pointer (some ⟨g 5, 0, none⟩) ∧ w0.heap.size ≤ g 5 ∧ g 5 < w.heap.size ∧ (¬ LB l 17 → w.heap[g 5]? = some (.cells Z27 27 (0, 0)))
  st : LB l 17 → LB l 15 ∧ LB l 16 ∧ w.heap[g 5]? = some (.cells #[v 24, v 27, v 30, v 33, v 36] 27 (0, 0))
  sep : ∀ i j, i < 6 → j < 6 → LB l (opOf i) → LB l (opOf j) → i ≠ j → g i ≠ g j
section
variable {n : Nat} {w0 : World} {l : Array Bool} {v : Nat → Value} {g : Nat → Nat} {w : World}
theorem upd_same {α : Type} (f : Nat → α) (p : Nat) (x : α) : upd f p x p = x := by simp [upd]
theorem upd_ne {α : Type} (f : Nat → α) {p q : Nat} (x : α) (h : q ≠ p) : upd f p x q = f q := by simp [upd, h]
/-- A slot d that only operation i fills, i no block. -/
theorem LI.fill (h : LI n w0 l v g w) {c r : Nat} (hc : c < 5) (hr : r < 2) {x : Value} (hx : x = if r = 0 then .int .i64 (n : Int) else .int .i64 ((n + 1 : Nat) : Int)) : LI n w0 (l.setIfInBounds (3 * c + r) true) (upd v (22 + 3 * c + r) x) g w := by
  refine ⟨h.bel, fun c' hc' hl => ?_, fun c' hc' hl => ?_, fun c' hc' hl => ?_, fun hl => ?_, fun hl => ?_, fun hl => ?_, fun i j hi hj h1 h2 hij => ?_⟩
  · rcases hl.set with e | hl
    · obtain ⟨rfl, rfl⟩ : c' = c ∧ r = 0 := by omega
      rw [show 22 + 3 * c' = 22 + 3 * c' + 0 by omega, upd_same, hx]; rfl
    · by_cases e : 22 + 3 * c' = 22 + 3 * c + r
      · obtain ⟨rfl, rfl⟩ : c' = c ∧ r = 0 := by omega
        rw [show 22 + 3 * c' = 22 + 3 * c' + 0 by omega, upd_same, hx]; rfl
      · rw [upd_ne _ _ e]; exact h.mv c' hc' hl
  · by_cases e : 23 + 3 * c' = 22 + 3 * c + r
    · obtain ⟨rfl, rfl⟩ : c' = c ∧ r = 1 := by omega
      rw [show 23 + 3 * c' = 22 + 3 * c' + 1 by omega, upd_same, hx]; rfl
    · rw [upd_ne _ _ e]
      rcases hl.set with e' | hl
      · omega
      · exact h.ad c' hc' hl
  · rw [upd_ne _ _ (by omega)]
    rcases hl.set with e' | hl
    · omega
    · exact h.mak c' hc' hl
  · rcases hl.set with e' | hl
    · omega
    · rw [upd_ne _ _ (by omega), upd_ne _ _ (by omega), upd_ne _ _ (by omega), upd_ne _ _ (by omega), upd_ne _ _ (by omega), upd_ne _ _ (by omega)]
      exact ⟨(h.bd hl).1, fun c' hc' => ((h.bd hl).2 c' hc').keep⟩
  · rcases hl.set with e' | hl
    · omega
    · rw [upd_ne _ _ (by omega)]
      obtain ⟨a1, a2, a3, a4⟩ := h.al hl
      exact ⟨a1, a2, a3, fun hn => a4 (fun h17 => hn h17.keep)⟩
  · rcases hl.set with e' | hl
    · omega
    · rw [upd_ne _ _ (by omega), upd_ne _ _ (by omega), upd_ne _ _ (by omega), upd_ne _ _ (by omega), upd_ne _ _ (by omega)]
      obtain ⟨a1, a2, a3⟩ := h.st hl
      exact ⟨a1.keep, a2.keep, a3⟩
  · have key : ∀ i, i < 6 → LB (l.setIfInBounds (3 * c + r) true) (opOf i) → LB l (opOf i) := fun i hi hl => by
      rcases hl.set with e' | hl
      · exfalso; unfold opOf at e'; split at e' <;> omega
      · exact hl
    exact h.sep i j hi hj (key i hi h1) (key j hj h2) hij
theorem LI.lt (h : LI n w0 l v g w) {i : Nat} (hi : i < 6) (hl : LB l (opOf i)) : g i < w.heap.size := by
  by_cases e : i = 5
  · subst e; exact (h.al hl).2.2.1
  · have hl' : LB l (3 * i + 2) := by unfold opOf at hl; rw [if_neg e] at hl; exact hl
    exact ((h.mak i (by omega) hl').2.lt _ rfl).2
theorem LI.make (h : LI n w0 l v g w) {c : Nat} (hc : c < 5) (hu : ¬ LB l (3 * c + 2)) {w2 : World}
    (hown : w2.ownsRow w0.heap.size (ty c) 1 (.slice (some ⟨w.heap.size, 0, none⟩) (n + 1) (n + 1)) (n + 1) (List.replicate (n + 1) (zv c))) (hg : w.grownBy w2 none) :
    LI n w0 (l.setIfInBounds (3 * c + 2) true) (upd v (24 + 3 * c) (.slice (some ⟨w.heap.size, 0, none⟩) (n + 1) (n + 1))) (upd g c w.heap.size) w2 := by
  have hb : Below w.heap.size w w2 := (Below.refl _ _).grown hg (Nat.le_refl _) (by simp)
  have hsz : w0.heap.size ≤ w.heap.size := h.bel.size
  have n15 : ¬ LB l 15 := fun h15 => hu ((h.bd h15).2 c hc)
  have n17 : ¬ LB l 17 := fun h17 => n15 (h.st h17).1
  refine ⟨h.bel.trans (hb.mono hsz), fun c' hc' hl => ?_, fun c' hc' hl => ?_, fun c' hc' hl => ?_, fun hl => ?_, fun hl => ?_, fun hl => ?_, fun i j hi hj h1 h2 hij => ?_⟩
  · rw [upd_ne _ _ (by omega)]
    rcases hl.set with e' | hl
    · omega
    · exact h.mv c' hc' hl
  · rw [upd_ne _ _ (by omega)]
    rcases hl.set with e' | hl
    · omega
    · exact h.ad c' hc' hl
  · by_cases e : c' = c
    · subst e
      rw [upd_same, upd_same]
      exact ⟨rfl, hown⟩
    · rw [upd_ne _ _ (by omega), upd_ne _ _ e]
      rcases hl.set with e' | hl
      · omega
      · exact ⟨(h.mak c' hc' hl).1, (h.mak c' hc' hl).2.kept hg (.inr (by simp [Value.ownBlock]))⟩
  · rcases hl.set with e' | hl
    · omega
    · exact absurd hl n15
  · rcases hl.set with e' | hl
    · omega
    · rw [upd_ne _ _ (by omega), upd_ne _ _ (by omega)]
      obtain ⟨a1, a2, a3, a4⟩ := h.al hl
      refine ⟨a1, a2, Nat.lt_of_lt_of_le a3 hb.size, fun _ => ?_⟩
      rw [hb.block (g 5) a3]
      exact a4 n17
  · rcases hl.set with e' | hl
    · omega
    · exact absurd hl n17
  · have key : ∀ i, i < 6 → i ≠ c → LB (l.setIfInBounds (3 * c + 2) true) (opOf i) → LB l (opOf i) := fun i hi hne hl => by
      rcases hl.set with e' | hl
      · exfalso; unfold opOf at e'; split at e' <;> omega
      · exact hl
    by_cases ei : i = c
    · subst ei
      rw [upd_same, upd_ne _ _ (fun e => hij e.symm)]
      have := h.lt hj (key j hj (fun e => hij e.symm) h2)
      omega
    · rw [upd_ne _ _ ei]
      by_cases ej : j = c
      · subst ej
        rw [upd_same]
        have := h.lt hi (key i hi ei h1)
        omega
      · rw [upd_ne _ _ ej]
        exact h.sep i j hi hj (key i hi ei h1) (key j hj ej h2) hij
theorem LI.build (h : LI n w0 l v g w) (hm : ∀ c, c < 5 → LB l (3 * c + 2)) (hu : ¬ LB l 15) : LI n w0 (l.setIfInBounds 15 true) (upd v 37 (.agg #[v 24, v 27, v 30, v 33, v 36])) g w := by
  have n17 : ¬ LB l 17 := fun h17 => hu (h.st h17).1
  refine ⟨h.bel, fun c' hc' hl => ?_, fun c' hc' hl => ?_, fun c' hc' hl => ?_, fun hl => ?_, fun hl => ?_, fun hl => ?_, fun i j hi hj h1 h2 hij => ?_⟩
  · rw [upd_ne _ _ (by omega)]
    rcases hl.set with e' | hl
    · omega
    · exact h.mv c' hc' hl
  · rw [upd_ne _ _ (by omega)]
    rcases hl.set with e' | hl
    · omega
    · exact h.ad c' hc' hl
  · rw [upd_ne _ _ (by omega)]
    exact h.mak c' hc' (hm c' hc')
  · rw [upd_same, upd_ne _ _ (by omega), upd_ne _ _ (by omega), upd_ne _ _ (by omega), upd_ne _ _ (by omega), upd_ne _ _ (by omega)]
    exact ⟨rfl, fun c' hc' => (hm c' hc').keep⟩
  · rcases hl.set with e' | hl
    · omega
    · rw [upd_ne _ _ (by omega)]
      obtain ⟨a1, a2, a3, a4⟩ := h.al hl
      exact ⟨a1, a2, a3, fun _ => a4 n17⟩
  · rcases hl.set with e' | hl
    · omega
    · exact absurd hl n17
  · have key : ∀ i, i < 6 → LB (l.setIfInBounds 15 true) (opOf i) → LB l (opOf i) := fun i hi hl => by
      rcases hl.set with e' | hl
      · exfalso; unfold opOf at e'; split at e' <;> omega
      · exact hl
    exact h.sep i j hi hj (key i hi h1) (key j hj h2) hij
theorem LI.allocs (h : LI n w0 l v g w) (hu : ¬ LB l 16) : LI n w0 (l.setIfInBounds 16 true) (upd v 7 (.pointer (some ⟨w.heap.size, 0, none⟩))) (upd g 5 w.heap.size) (w.alloc (.cells Z27 27)) := by
  have n17 : ¬ LB l 17 := fun h17 => hu (h.st h17).2.1
  have hsz : w0.heap.size ≤ w.heap.size := h.bel.size
  refine ⟨h.bel.alloc hsz _, fun c' hc' hl => ?_, fun c' hc' hl => ?_, fun c' hc' hl => ?_, fun hl => ?_, fun hl => ?_, fun hl => ?_, fun i j hi hj h1 h2 hij => ?_⟩
  · rw [upd_ne _ _ (by omega)]
    rcases hl.set with e' | hl
    · omega
    · exact h.mv c' hc' hl
  · rw [upd_ne _ _ (by omega)]
    rcases hl.set with e' | hl
    · omega
    · exact h.ad c' hc' hl
  · rw [upd_ne _ _ (by omega), upd_ne _ _ (by omega)]
    rcases hl.set with e' | hl
    · omega
    · exact ⟨(h.mak c' hc' hl).1, (h.mak c' hc' hl).2.alloc _⟩
  · rw [upd_ne _ _ (by omega), upd_ne _ _ (by omega), upd_ne _ _ (by omega), upd_ne _ _ (by omega), upd_ne _ _ (by omega), upd_ne _ _ (by omega)]
    rcases hl.set with e' | hl
    · omega
    · exact ⟨(h.bd hl).1, fun c' hc' => ((h.bd hl).2 c' hc').keep⟩
  · rw [upd_same, upd_same]
    exact ⟨rfl, hsz, by simp, fun _ => heap_alloc_new w _⟩
  · rcases hl.set with e' | hl
    · omega
    · exact absurd hl n17
  · have key : ∀ i, i < 6 → i ≠ 5 → LB (l.setIfInBounds 16 true) (opOf i) → LB l (opOf i) := fun i hi hne hl => by
      rcases hl.set with e' | hl
      · exfalso; unfold opOf at e'; split at e' <;> omega
      · exact hl
    by_cases ei : i = 5
    · subst ei
      rw [upd_same, upd_ne _ _ (fun e => hij e.symm)]
      have := h.lt hj (key j hj (fun e => hij e.symm) h2)
      omega
    · rw [upd_ne _ _ ei]
      by_cases ej : j = 5
      · subst ej
        rw [upd_same]
        have := h.lt hi (key i hi ei h1)
        omega
      · rw [upd_ne _ _ ej]
        exact h.sep i j hi hj (key i hi ei h1) (key j hj ej h2) hij
theorem LI.store (h : LI n w0 l v g w) (hls : 17 < l.size) (h15 : LB l 15) (h16 : LB l 16) {w2 : World} (hb2 : Below w0.heap.size w w2) (hk : ∀ k, k ≠ g 5 → w2.heap[k]? = w.heap[k]?) (hsz2 : w2.heap.size = w.heap.size)
    (hg : w2.heap[g 5]? = some (.cells #[v 24, v 27, v 30, v 33, v 36] 27 (0, 0))) : LI n w0 (l.setIfInBounds 17 true) v g w2 := by
  have hm := (h.bd h15).2
  refine ⟨h.bel.trans hb2, fun c' hc' hl => ?_, fun c' hc' hl => ?_, fun c' hc' hl => ?_, fun hl => ?_, fun hl => ?_, fun hl => ?_, fun i j hi hj h1 h2 hij => ?_⟩
  · rcases hl.set with e' | hl
    · omega
    · exact h.mv c' hc' hl
  · rcases hl.set with e' | hl
    · omega
    · exact h.ad c' hc' hl
  · obtain ⟨a1, a2⟩ := h.mak c' hc' (hm c' hc')
    refine ⟨a1, ?_⟩
    obtain ⟨q1, q2⟩ := a2
    refine ⟨q1, ?_⟩
    rcases q2 with q2 | ⟨gg, cap', cur, qv, qb, qh, qr⟩
    · exact .inl q2
    · refine .inr ⟨gg, cap', cur, qv, qb, ?_, qr⟩
      obtain rfl : g c' = gg := by have := qv; simp at this; exact this.1
      rw [hk _ ?_]
      · exact qh
      · exact h.sep c' 5 (by omega) (by omega) (by unfold opOf; rw [if_neg (by omega)]; exact hm c' hc') h16 (by omega)
  · exact ⟨(h.bd h15).1, fun c' hc' => (hm c' hc').keep⟩
  · obtain ⟨a1, a2, a3, a4⟩ := h.al h16
    refine ⟨a1, a2, by omega, fun hn => ?_⟩
    exfalso
    apply hn
    unfold LB
    rw [Array.getD_eq_getD_getElem?]
    simp [hls]
  · exact ⟨h15.keep, h16.keep, hg⟩
  · have key : ∀ i, i < 6 → LB (l.setIfInBounds 17 true) (opOf i) → LB l (opOf i) := fun i hi hl => by
      rcases hl.set with e' | hl
      · exfalso; unfold opOf at e'; split at e' <;> omega
      · exact hl
    exact h.sep i j hi hj (key i hi h1) (key j hj h2) hij
end
end Go.Proofs.Qxb6602276a

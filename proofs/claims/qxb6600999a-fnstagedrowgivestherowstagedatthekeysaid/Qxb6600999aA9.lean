import Derived.Test.Qxb6600999aA8
namespace Go.Proofs.Qxb6600999a
open Go.RowKit Go.WideMaps
set_option linter.unusedVariables false

theorem row_any (n : Nat) (K I : Nat → Int) (S : Nat → ByteArray) (B R P : Nat) (m : Option Nat) (kl : Nat → Lit) (a b : Int) (s : ByteArray) (w : World) (hn : n ≤ 4096)
    (H : StagedAt w n K I S B R P m kl) (hd : Distinct K I S n) (ht : Tells K I S n kl) (hq : KeyOk a b s) :
    Calls Try.prog 36 #[.pointer (some ⟨P, 0, none⟩), .agg #[.int .u8 a, .int .i64 b, .string s]] w fun e w' => (∃ v, e = .returned v ∧ RowIs w n K I S R a b s v) ∧ Below w.heap.size w w' := by
  cases m with
  | none => exact row_scan n K I S B R P kl a b s w hn H
  | some M =>
    by_cases h : ∃ i, i < n ∧ hits K I S a b s i
    · obtain ⟨i, hi, hh⟩ := h
      exact row_places_hit n K I S B R P M kl a b s w hn H hd ht i hi hh
    · exact row_places_miss n K I S B R P M kl a b s w hn H hd ht hq (fun i hi hh => h ⟨i, hi, hh⟩)

theorem RowIs.of_below {w w' : World} {n : Nat} {K I : Nat → Int} {S : Nat → ByteArray} {R : Nat} {a b : Int} {s : ByteArray} {v : Value} (h : RowIs w' n K I S R a b s v) (hb : Below w.heap.size w w') (hr : PtrRow w n R) : RowIs w n K I S R a b s v := by
  rcases h with ⟨i, p, hi, hh, rfl, hc⟩ | h
  · obtain ⟨p', hp'⟩ := hr i hi
    have := cell_below hb hp'
    rw [hc] at this
    exact .inl ⟨i, p, hi, hh, rfl, by rw [hp', this]⟩
  · exact .inr h

set_option maxHeartbeats 800000 in
theorem zzrow_nil (a b : Int) (s : ByteArray) (w : World) :
    Calls Try.prog 26 #[.pointer none, .agg #[.int .u8 a, .int .i64 b, .string s]] w fun e w' => e = .returned (.pointer none) ∧ Below w.heap.size w w' := by
  go_enter Try.func26, Try.ntmps26
  go_wp2_with (go_at_call 36; refine (row_nil _ _ _ _).mono ?_; rintro e w' ⟨rfl, hb⟩)
  go_ret
  exact ⟨rfl, ((Below.refl _ _).alloc (Nat.le_refl _) _).trans (hb.mono (by simp))⟩

set_option maxHeartbeats 800000 in
theorem zzrow_any (n : Nat) (K I : Nat → Int) (S : Nat → ByteArray) (B R P : Nat) (m : Option Nat) (kl : Nat → Lit) (a b : Int) (s : ByteArray) (w : World) (hn : n ≤ 4096)
    (H : StagedAt w n K I S B R P m kl) (hd : Distinct K I S n) (ht : Tells K I S n kl) (hq : KeyOk a b s) :
    Calls Try.prog 26 #[.pointer (some ⟨P, 0, none⟩), .agg #[.int .u8 a, .int .i64 b, .string s]] w fun e w' => (∃ v, e = .returned v ∧ RowIs w n K I S R a b s v) ∧ Below w.heap.size w w' := by
  have hb0 : Below w.heap.size w (w.alloc (.cells #[.int .u8 a, .int .i64 b, .string s] 45)) := (Below.refl _ _).alloc (Nat.le_refl _) _
  have X : Hid (StagedAt (w.alloc (.cells #[.int .u8 a, .int .i64 b, .string s] 45)) n K I S B R P m kl) := H.below hb0
  have HH : Hid (PtrRow w n R) := H.rows
  have HQ : Hid (Distinct K I S n ∧ Tells K I S n kl ∧ KeyOk a b s) := ⟨hd, ht, hq⟩
  clear H hd ht hq
  go_enter Try.func26, Try.ntmps26
  go_wp2_with (go_at_call 36; refine (row_any n K I S B R P m kl a b s _ hn X.out HQ.out.1 HQ.out.2.1 HQ.out.2.2).mono ?_; rintro e w' ⟨⟨v, rfl, hv⟩, hb⟩)
  go_ret
  exact ⟨⟨v, rfl, hv.of_below hb0 HH.out⟩, hb0.trans (hb.mono (by simp))⟩
end Go.Proofs.Qxb6600999a

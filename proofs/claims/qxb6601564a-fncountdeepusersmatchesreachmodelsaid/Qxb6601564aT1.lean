import Derived.Test.Qxb6601564aM2
import Derived.Test.Qxb6601564aB7
namespace Go.Proofs.Qxb6601564a
open Go.RowKit
set_option linter.unusedVariables false

theorem CountIs.same {n : Nat} {kd : Nat → ByteArray} {fs : Nat → Nat → ByteArray} {role : ByteArray → Bool} {e e' : Ending} (h : CountIs n kd fs role e) (h' : CountIs n kd fs role e') : ∃ c : Nat, e = .returned (.int .i64 c) ∧ e' = .returned (.int .i64 c) := by
  obtain ⟨c, h1, h2⟩ := h
  obtain ⟨c', h1', h2'⟩ := h'
  obtain rfl := h2.unique h2'
  exact ⟨c, h1, h1'⟩

set_option maxRecDepth 100000 in
theorem model_zero (a : Option Addr) (cap : Nat) (kd : Nat → ByteArray) (fs : Nat → Nat → ByteArray) (m : Option Nat) (role : ByteArray → Bool) (w : World) :
    Calls Try.prog 10 #[.slice a 0 cap, .map m] w fun e w' => CountIs 0 kd fs role e ∧ Below w.heap.size w w' := by
  have HC : Hid (CountIs 0 kd fs role (.returned (.int .i64 0))) := ⟨0, rfl, IsCnt.zero (fun u hu => by simp [Gr.upto, Gr.empty] at hu)⟩
  go_enter Try.func10, Try.ntmps10
  go_wp2
  refine wp_loop_rounds 1 ?_
  rw [rounds_succ]
  go_wp2
  refine wp_loop_rounds 1 ?_
  rw [rounds_succ]
  go_wp2
  go_ret
  exact ⟨HC.out, Below.refl _ _⟩

theorem model_all (a : Option Addr) (n cap : Nat) (kd : Nat → ByteArray) (fl : Nat → Nat) (fs : Nat → Nat → ByteArray) (b off : Nat) (m : Option Nat) (role : ByteArray → Bool) (w : World) (hn : n ≤ 512)
    (hR : RecsAt w a n kd fl fs b off) (hok : RecsOk n kd fl fs) (hwf : ∀ i, i < n → 1 ≤ fl i ∧ (isP (kd i) = false → 2 ≤ fl i)) (hr : RoleAt w m role) :
    Calls Try.prog 10 #[.slice a n cap, .map m] w fun e w' => CountIs n kd fs role e ∧ Below w.heap.size w w' := by
  by_cases h0 : n = 0
  · subst h0
    exact model_zero a cap kd fs m role w
  · exact model_any a n cap kd fl fs b off m role w hn (by omega) hR hok hwf hr

/-! ### the law (3) -/
theorem top_any (a : Option Addr) (n cap : Nat) (kd : Nat → ByteArray) (fl : Nat → Nat) (fs : Nat → Nat → ByteArray) (b off : Nat) (m : Option Nat) (lm : Nat) (role : ByteArray → Bool) (w : World) (hn : n ≤ maxLen) (hnil : a = none → n = 0)
    (hR : RecsAt w a n kd fl fs b off) (hok : RecsOk n kd fl fs) (hr : RoleAt w m role) (hlm : ∀ ty, (Builtin.len_ #[23] ty #[.map m]).run Try.prog w = .ok (.int .i64 (lm : Int)) w) :
    Calls Try.prog 3 #[.slice a n cap, .map m] w fun e w' => e = .returned (.bool true) ∧ Below w.heap.size w w' := by
  unfold maxLen at hn
  have HH : Hid (RecsAt w a n kd fl fs b off ∧ RecsOk n kd fl fs ∧ RoleAt w m role ∧ (a = none → n = 0)) := ⟨hR, hok, hr, hnil⟩
  clear hR hok hr hnil
  by_cases h1 : 512 < n
  · have h1' : (512 : Int) < n := by omega
    go_enter Try.func3, Try.ntmps3
    go_wp2
    go_ret
    exact ⟨rfl, Below.refl _ _⟩
  · have h1' : ¬ (512 : Int) < n := by omega
    have hn5 : n ≤ 512 := by omega
    by_cases h2 : 4096 < lm
    · have h2' : (4096 : Int) < lm := by omega
      go_enter Try.func3, Try.ntmps3
      go_wp2
      go_ret
      exact ⟨rfl, Below.refl _ _⟩
    · have h2' : ¬ (4096 : Int) < lm := by omega
      have HB : Hid (Calls Try.prog 6 #[.slice a n cap] w fun e w' => RetBytes n fl e ∧ Below w.heap.size w w') := recsBytes_any a n cap kd fl fs b off w hn5 HH.out.1 HH.out.2.1
      go_enter Try.func3, Try.ntmps3
      go_wp2_with (first
        | (go_at_call 6; refine HB.out.mono ?_; rintro e w1 ⟨⟨t, rfl, ht0, ht⟩, hb1⟩; have HT : Hid (t ≤ 1048576 → ∀ i, i < n → 16 * fl i ≤ 1048576) := ht; have HB1 : Hid (Below w.heap.size w w1) := hb1; clear ht hb1 hlm)
        | (go_at_call 7; refine (wellFormed_any a n cap kd fl fs b off _ hn5 (HH.out.1.below HB1.out)).mono ?_; rintro e w2 ⟨⟨d, rfl, hd⟩, rfl⟩; have HD : Hid ((!d) = false → ∀ i, i < n → 1 ≤ fl i ∧ (isP (kd i) = false → 2 ≤ fl i)) := fun hx => hd (by simpa using hx); clear hd)
        | (go_at_call 8; refine (cloneRecs_any a n cap kd fl fs b off _ hn5 HH.out.2.2.2 (HT.out (by omega)) (HH.out.1.below HB1.out)).mono ?_; rintro e w3 ⟨a', c', b', o', rfl, hb3, hr3⟩; have HB3 : Hid (Below w.heap.size w w3) := HB1.out.trans (hb3.mono HB1.out.size); have HR3 : Hid (RecsAt w3 a' n kd fl fs b' o') := hr3; clear hb3 hr3)
        | (go_at_call 9; refine (callDeep_any a' n c' kd fl fs b' o' m role _ hn5 HR3.out HH.out.2.1 (HD.out (by assumption)) (HH.out.2.2.1.below HB3.out)).mono ?_; rintro e w4 ⟨⟨c4, rfl, hc4⟩, hb4⟩)
        | (go_at_call 10; refine (model_all a' n c' kd fl fs b' o' m role _ hn5 (HR3.out.below hb4) HH.out.2.1 (HD.out (by assumption)) (HH.out.2.2.1.below (HB3.out.trans (hb4.mono HB3.out.size)))).mono ?_; rintro e5 w5 ⟨⟨c5, rfl, hc5⟩, hb5⟩; obtain rfl := hc4.unique hc5))
      all_goals go_ret
      all_goals first
        | exact ⟨rfl, (HB3.out.trans (hb4.mono HB3.out.size)).trans (hb5.mono (Nat.le_trans HB3.out.size hb4.size))⟩
        | exact ⟨rfl, HB1.out⟩
end Go.Proofs.Qxb6601564a

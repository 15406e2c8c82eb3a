import Derived.Test.Qxb6603303aA8
namespace Go.Proofs.Qxb6603303a
open Go.RowKit
set_option linter.unusedVariables false

/-! ### at the nil text -/
theorem nil12 (w : World) : Calls Try.prog 12 #[.slice none 0 0, .int .i64 0] w fun e w' => e = .returned (.tuple #[.int .i64 (-1), .int .i64 0]) ∧ Below w.heap.size w w' := by
  have HB : Hid (∀ w, Calls Try.prog 38 #[.slice none 0 0, .int .i64 0] w fun e w' => e = .returned (.int .i64 0) ∧ w = w') := by
    intro w
    go_enter Try.func38, Try.ntmps38
    go_wp2
    refine wp_loop_rounds 1 ?_
    rw [rounds_succ]
    go_wp2
    go_ret
    exact ⟨rfl, rfl⟩
  have HQ : Hid (∀ w, Calls Try.prog 25 #[.slice none 0 0, .int .i64 0] w fun e w' => e = .returned (.tuple #[.int .i64 (-1), .int .i64 0]) ∧ Below w.heap.size w w') := by
    intro w
    go_enter Try.func25, Try.ntmps25
    go_wp2_with (go_at_call 38; refine (HB.out _).mono ?_; rintro e w' ⟨rfl, rfl⟩)
    go_quiet (fail)
    go_wp2
    go_ret2
    exact ⟨rfl, below_drewN _ _ _⟩
  go_enter Try.func12, Try.ntmps12
  go_wp2_with (go_at_call 25; refine (HQ.out _).mono ?_; rintro e w' ⟨rfl, hb⟩)
  go_ret2
  exact ⟨rfl, hb⟩
theorem nil13 (w : World) : Calls Try.prog 13 #[.slice none 0 0, .int .i64 0] w fun e w' => e = .returned (.tuple #[.int .i64 (-1), .int .i64 0]) ∧ Below w.heap.size w w' := by
  have HB : Hid (∀ w, Calls Try.prog 26 #[.slice none 0 0, .int .i64 0] w fun e w' => e = .returned (.int .i64 0) ∧ w = w') := by
    intro w
    go_enter Try.func26, Try.ntmps26
    go_wp2
    refine wp_loop_rounds 1 ?_
    rw [rounds_succ]
    go_wp2
    go_ret
    exact ⟨rfl, rfl⟩
  go_enter Try.func13, Try.ntmps13
  go_wp2_with (go_at_call 26; refine (HB.out _).mono ?_; rintro e w' ⟨rfl, rfl⟩)
  refine wp_loop_rounds 1 ?_
  rw [rounds_succ]
  go_wp2
  go_quiet (fail)
  go_wp2
  go_ret2
  exact ⟨rfl, below_drewN _ _ _⟩

/-! ### the law (3) -/
theorem top_any (a : Option Addr) (n cap : Nat) (f : Nat → Int) (b off : Nat) (x : Int) (w : World) (hm : n ≤ maxLen) (hx : (Lit.int .i64 x).wf = true) (hnil : a = none → n = 0) (H : Row w a n f b off) (hf : ∀ i, i < n → 0 ≤ f i ∧ f i < 256) :
    Calls Try.prog 3 #[.slice a n cap, .int .i64 x] w fun e w' => e = .returned (.bool true) ∧ Below w.heap.size w w' := by
  have HX : Hid ((Lit.int .i64 x).wf = true) := hx
  clear hx
  by_cases hn : n ≤ 1048576
  · have HBY : Hid (∀ w, Calls Try.prog 10 #[.slice a n cap, .int .i64 x] w fun e w' => e = .returned (.bool true) ∧ w = w') := fun w => bytes_small a n cap x w hn
    by_cases hr : x < 0 ∨ (n : Int) < x
    · clear H hf
      go_enter Try.func3, Try.ntmps3
      go_wp2_with (go_at_call 10; refine (HBY.out _).mono ?_; rintro e w' ⟨rfl, rfl⟩)
      all_goals
        go_ret
        exact ⟨rfl, Below.refl _ _⟩
    · obtain ⟨i, rfl⟩ : ∃ i : Nat, x = i := ⟨x.toNat, by omega⟩
      have hin : i ≤ n := by omega
      have HCL : Hid (Calls Try.prog 11 #[.slice a n cap] w fun e w' => Cloned w n f e w') := clone_any a n cap f b off w hn hnil H
      obtain ⟨r, hrun⟩ := IsRun.exists f n i hin
      obtain ⟨k, hk⟩ := IsPre.exists f n (i + r) hrun.1
      obtain ⟨E, F, hres⟩ := Res.exists f n i r k
      have HF : Hid (∀ i, i < n → 0 ≤ f i ∧ f i < 256) := hf
      have HRUN : Hid (IsRun f n i r) := hrun
      have HK : Hid (IsPre f n (i + r) k) := hk
      have HR : Hid (Res f n i r k E F) := hres
      clear H hf hrun hk hres hr
      go_enter Try.func3, Try.ntmps3
      go_wp2_with (first | (go_at_call 10; refine (HBY.out _).mono ?_; rintro e w' ⟨rfl, rfl⟩) | (go_at_call 11; refine HCL.out.mono ?_; rintro e w1 ⟨hb1, ⟨rfl, hn0⟩ | ⟨b', rfl, hc⟩⟩))
      · subst hn0
        obtain rfl : i = 0 := by omega
        have HB1 : Hid (Below w.heap.size w w1) := hb1
        clear hb1
        go_wp2_with (first | (go_at_call 12; refine (nil12 _).mono ?_; rintro e w2 ⟨rfl, hb2⟩) | (go_at_call 13; refine (nil13 _).mono ?_; rintro e w3 ⟨rfl, hb3⟩))
        go_ret
        exact ⟨rfl, (HB1.out.trans (hb2.mono HB1.out.size)).trans (hb3.mono (Nat.le_trans HB1.out.size hb2.size))⟩
      · have HB1 : Hid (Below w.heap.size w w1) := hb1
        have HC : Hid (∀ i, i < n → w1.cell? ⟨b', i, none⟩ = some (.int .u8 (f i))) := hc
        clear hb1 hc
        go_wp2_with (first | (go_at_call 12; refine (zzQuoteAt_any n f b' i r k _ hn hin HC.out HF.out HRUN.out HK.out E F HR.out).mono ?_; rintro e w2 ⟨rfl, hb2⟩) | (go_at_call 13; refine (spec_any n f b' i r k _ hn (fun q hq => cell_below hb2 (HC.out q hq)) HRUN.out HK.out E F HR.out).mono ?_; rintro e w3 ⟨rfl, hb3⟩))
        go_ret
        exact ⟨rfl, (HB1.out.trans (hb2.mono HB1.out.size)).trans (hb3.mono (Nat.le_trans HB1.out.size hb2.size))⟩
  · have HBY : Hid (∀ w, Calls Try.prog 10 #[.slice a n cap, .int .i64 x] w fun e w' => e = .returned (.bool false) ∧ w = w') := fun w => bytes_big a n cap x w (by omega)
    clear H hf
    go_enter Try.func3, Try.ntmps3
    go_wp2_with (go_at_call 10; refine (HBY.out _).mono ?_; rintro e w' ⟨rfl, rfl⟩)
    go_ret
    exact ⟨rfl, Below.refl _ _⟩
end Go.Proofs.Qxb6603303a

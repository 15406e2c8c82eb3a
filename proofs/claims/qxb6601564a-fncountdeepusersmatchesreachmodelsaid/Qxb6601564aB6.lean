import Derived.Test.Qxb6601564aB4
namespace Go.Proofs.Qxb6601564a
open Go.RowKit
set_option linter.unusedVariables false

/-! ### ZZCountDeepUsers (13) -/
set_option maxHeartbeats 1600000 in
set_option maxRecDepth 100000 in
theorem zz13_any (n c1 c2 c3 : Nat) (ln : Nat → Int) (kd : Nat → ByteArray) (fa : Nat → Option Addr) (fl fc : Nat → Nat) (fs : Nat → Nat → ByteArray) (b1 b2 b3 : Nat) (m : Option Nat) (role : ByteArray → Bool) (w : World) (hn : n ≤ 512)
    (h1 : ∀ i, i < n → w.cell? ⟨b1, i, none⟩ = some (.int .i64 (ln i))) (h2 : ∀ i, i < n → w.cell? ⟨b2, i, none⟩ = some (.string (kd i))) (h3 : ∀ i, i < n → w.cell? ⟨b3, i, none⟩ = some (.slice (fa i) (fl i) (fc i)))
    (h4 : ∀ i, i < n → ∃ fb fo, Row w (fa i) (fl i) (fun j => .string (fs i j)) fb fo ∧ (fa i = none → fl i = 0))
    (hok : RecsOk n kd fl fs) (hwf : ∀ i, i < n → 1 ≤ fl i ∧ (isP (kd i) = false → 2 ≤ fl i)) (hr : RoleAt w m role) :
    Calls Try.prog 13 #[.slice (some ⟨b1, 0, none⟩) n c1, .slice (some ⟨b2, 0, none⟩) n c2, .slice (some ⟨b3, 0, none⟩) n c3, .map m] w fun e w' => CountIs n kd fs role e ∧ Below w.heap.size w w' := by
  obtain ⟨i0, hi, hz0, hz1, hz2⟩ := info_parts Try.info43
  have H1 : Hid (∀ i, i < n → w.cell? ⟨b1, i, none⟩ = some (.int .i64 (ln i))) := h1
  have H2 : Hid (∀ i, i < n → w.cell? ⟨b2, i, none⟩ = some (.string (kd i))) := h2
  have H3 : Hid (∀ i, i < n → w.cell? ⟨b3, i, none⟩ = some (.slice (fa i) (fl i) (fc i))) := h3
  have H4 : Hid (∀ i, i < n → ∃ fb fo, Row w (fa i) (fl i) (fun j => .string (fs i j)) fb fo ∧ (fa i = none → fl i = 0)) := h4
  have HH : Hid (RecsOk n kd fl fs ∧ (∀ i, i < n → 1 ≤ fl i ∧ (isP (kd i) = false → 2 ≤ fl i)) ∧ RoleAt w m role) := ⟨hok, hwf, hr⟩
  clear h1 h2 h3 h4 hok hwf hr
  go_enter Try.func13, Try.ntmps13
  go_wp2_with (at_make; refine wpList_make_full _ rfl _ _ 41 rfl w.heap.size 43 i0 _ 3 Try.underlying41 hi hz0 hz1 _ _ _ _ n rfl rfl rfl rfl (by rw [hz2]; omega) (by unfold maxLen; omega) (by omega) ?_)
  intro w1 hown hgrow
  have hB : Below w.heap.size w w1 := (Below.refl _ _).grown hgrow (Nat.le_refl _) (by simp)
  clear hgrow
  go_wp2
  go_loopw [10] (fun i wr => ∃ (k : Nat) (xs : List Value), k ≤ n ∧ i = .int .i64 k ∧ wr.ownsRow w.heap.size 43 3 (.slice (some ⟨w.heap.size, 0, none⟩) n n) n xs ∧ Below w.heap.size w wr ∧ Hid (∀ j, j < k → RecIn wr w.heap.size xs j (kd j) (fl j) (fs j))) (fun i _ => n - (intOf i).toNat)
  case atStart => exact ⟨0, _, by omega, rfl, hown, hB, fun j hj => by omega⟩
  case round =>
    obtain ⟨k, xs, hk, rfl, hownr, hBr, HX⟩ := hrel
    have hxl : xs.length = n * 3 := by have := hownr.1; omega
    clear hown hB
    by_cases hlt : k < n
    · have q1 := H1.out k hlt
      have q2 := H2.out k hlt
      have q3 := H3.out k hlt
      have l1 : w.heap.size ≠ b1 := by have := World.block_lt_of_cell? w _ q1; show w.heap.size ≠ b1; simp at this; omega
      have l2 : w.heap.size ≠ b2 := by have := World.block_lt_of_cell? w _ q2; show w.heap.size ≠ b2; simp at this; omega
      have l3 : w.heap.size ≠ b3 := by have := World.block_lt_of_cell? w _ q3; show w.heap.size ≠ b3; simp at this; omega
      have g1 := cell_below hBr q1
      have g2 := cell_below hBr q2
      have g3 := cell_below hBr q3
      obtain ⟨fb, fo, hrow, hfn⟩ := H4.out k hlt
      have hfb : fb ≠ w.heap.size ∨ fl k = 0 := by
        by_cases h0 : fl k = 0
        · exact .inr h0
        · left
          have := World.block_lt_of_cell? w _ (hrow.cell 0 (by omega))
          simp at this
          omega
      have HO : Hid (wr.ownsRow w.heap.size 43 3 (.slice (some ⟨w.heap.size, 0, none⟩) n n) n xs ∧ xs.length = n * 3) := ⟨hownr, hxl⟩
      obtain ⟨fb', fo', hrow', hfb'⟩ : ∃ fb' fo', Row w (fa k) (fl k) (fun j => .string (fs k j)) fb' fo' ∧ fb' ≠ w.heap.size := by
        rcases hfb with h | h
        · exact ⟨fb, fo, hrow, h⟩
        · exact ⟨w.heap.size + 1, 0, ⟨fun h' => by omega, fun i hi => by omega⟩, by omega⟩
      have HRW : Hid (Row wr (fa k) (fl k) (fun j => .string (fs k j)) fb' fo' ∧ (fa k = none → fl k = 0) ∧ fb' ≠ w.heap.size) := ⟨hrow'.below hBr, hfn, hfb'⟩
      have hfz := hownr.frozenAt
      obtain ⟨x0, y0⟩ : ∃ x, wr.cell? ⟨w.heap.size, k * 3, none⟩ = some x := ⟨xs[k * 3]'(by omega), by rw [hownr.cellAt _ (by omega)]; simp⟩
      obtain ⟨x1, y1⟩ : ∃ x, wr.cell? ⟨w.heap.size, k * 3 + 1, none⟩ = some x := ⟨xs[k * 3 + 1]'(by omega), by rw [hownr.cellAt _ (by omega)]; simp⟩
      obtain ⟨x2, y2⟩ : ∃ x, wr.cell? ⟨w.heap.size, k * 3 + 2, none⟩ = some x := ⟨xs[k * 3 + 2]'(by omega), by rw [hownr.cellAt _ (by omega)]; simp⟩
      have e3 : (k : Int) < n := by omega
      have e4 : (0 : Int) ≤ k := by omega
      clear hrow hrow' hfn hfb hfb' hownr hxl q1 q2 q3
      go_wp2
      go_region_held3 (fun w' => w'.cell? ⟨b1, k, none⟩ = some (.int .i64 (ln k)) ∧ w'.cell? ⟨b2, k, none⟩ = some (.string (kd k)) ∧ w'.cell? ⟨b3, k, none⟩ = some (.slice (fa k) (fl k) (fc k))) (go_keep) (fail)
      clear y0 y1 y2 g1 g2 g3 hfz
      go_wp2
      go_roundw
      case rel =>
        have ho := HO.out.1
        have hxl := HO.out.2
        have hbd : Below wr.heap.size wr wr.drew := (Below.refl _ _).drew
        have ho' : wr.drew.ownsRow w.heap.size 43 3 (.slice (some ⟨w.heap.size, 0, none⟩) n n) n xs := ho.drew
        have o1 := ((ho'.stored (k * 3) (.int .i64 (ln k))).1.stored (k * 3 + 1) (.string (kd k))).1.stored (k * 3 + 2) (.slice (fa k) (fl k) (fc k))
        refine ⟨k + 1, _, by omega, by go_num, o1.1, ?_, fun j hj => ?_⟩
        · exact ((hBr.drew.setCell (by simp) _).setCell (by simp) _).setCell (by simp) _
        · by_cases e : j = k
          · subst e
            have hne : w.heap.size ≠ fb' := fun e => HRW.out.2.2 e.symm
            refine ⟨ln j, fa j, fc j, fb', fo', ?_, ?_, ?_, ?_, HRW.out.2.1, HRW.out.2.2⟩
            · simp [List.getElem?_set]; omega
            · simp [List.getElem?_set]; omega
            · simp [List.getElem?_set]; omega
            · exact (((HRW.out.1.below hbd).setCell_far _ hne _).setCell_far _ hne _).setCell_far _ hne _
          · have hj' : j < k := by omega
            have r0 := RecIn.below (HX.out j hj') hbd
            have r1 := r0.stored (xs' := xs.set (k * 3) (.int .i64 (ln k))) ⟨w.heap.size, k * 3, none⟩ rfl (.int .i64 (ln k)) (by rw [List.getElem?_set_ne (by omega)]) (by rw [List.getElem?_set_ne (by omega)]) (by rw [List.getElem?_set_ne (by omega)])
            have r2 := r1.stored (xs' := (xs.set (k * 3) (.int .i64 (ln k))).set (k * 3 + 1) (.string (kd k))) ⟨w.heap.size, k * 3 + 1, none⟩ rfl (.string (kd k)) (by rw [List.getElem?_set_ne (by omega)]) (by rw [List.getElem?_set_ne (by omega)]) (by rw [List.getElem?_set_ne (by omega)])
            exact r2.stored (xs' := ((xs.set (k * 3) (.int .i64 (ln k))).set (k * 3 + 1) (.string (kd k))).set (k * 3 + 2) (.slice (fa k) (fl k) (fc k))) ⟨w.heap.size, k * 3 + 2, none⟩ rfl (.slice (fa k) (fl k) (fc k)) (by rw [List.getElem?_set_ne (by omega)]) (by rw [List.getElem?_set_ne (by omega)]) (by rw [List.getElem?_set_ne (by omega)])
      case measure => simp [intOf]; omega
    · have hkn : k = n := by omega
      subst hkn
      have R : RecsAt wr (some ⟨w.heap.size, 0, none⟩) k kd fl fs w.heap.size 0 := ⟨fun _ => rfl, fun i hi => by
        obtain ⟨line, fa, fc, fb, fo, g0, g1, g2, g3, g4, g5⟩ := HX.out i hi
        rw [Nat.zero_add]
        exact ⟨line, fa, fc, fb, fo, by rw [hownr.cellAt _ (by omega)]; exact g0, by rw [hownr.cellAt _ (by omega)]; exact g1, by rw [hownr.cellAt _ (by omega)]; exact g2, g3, g4⟩⟩
      have HC : Hid (Calls Try.prog 16 #[.slice (some ⟨w.heap.size, 0, none⟩) k k, .map m] wr fun e w' => CountIs k kd fs role e ∧ Below wr.heap.size wr w') := count_any k k kd fl fs w.heap.size 0 m role wr hn R HH.out.1 HH.out.2.1 (HH.out.2.2.below hBr)
      clear R hownr hxl
      go_wp2_with (go_at_call 16; refine HC.out.mono ?_; rintro e w' ⟨⟨cc, rfl, hcc⟩, hb'⟩)
      go_ret
      exact ⟨⟨cc, rfl, hcc⟩, hBr.trans (hb'.mono hBr.size)⟩
end Go.Proofs.Qxb6601564a

import Derived.Test.Qxb6601564aB6
namespace Go.Proofs.Qxb6601564a
open Go.RowKit
set_option linter.unusedVariables false

theorem RecsAt.parts {w : World} {a : Option Addr} {n : Nat} {kd : Nat → ByteArray} {fl : Nat → Nat} {fs : Nat → Nat → ByteArray} {b off : Nat} (h : RecsAt w a n kd fl fs b off) :
    ∃ (ln : Nat → Int) (fa : Nat → Option Addr) (fc fb fo : Nat → Nat), ∀ i, i < n → w.cell? ⟨b, off + i * 3, none⟩ = some (.int .i64 (ln i)) ∧ w.cell? ⟨b, off + i * 3 + 1, none⟩ = some (.string (kd i)) ∧ w.cell? ⟨b, off + i * 3 + 2, none⟩ = some (.slice (fa i) (fl i) (fc i)) ∧
      Row w (fa i) (fl i) (fun j => .string (fs i j)) (fb i) (fo i) ∧ (fa i = none → fl i = 0) := by
  have hx : ∀ i, ∃ t : Int × Option Addr × Nat × Nat × Nat, i < n → w.cell? ⟨b, off + i * 3, none⟩ = some (.int .i64 t.1) ∧ w.cell? ⟨b, off + i * 3 + 1, none⟩ = some (.string (kd i)) ∧ w.cell? ⟨b, off + i * 3 + 2, none⟩ = some (.slice t.2.1 (fl i) t.2.2.1) ∧
      Row w t.2.1 (fl i) (fun j => .string (fs i j)) t.2.2.2.1 t.2.2.2.2 ∧ (t.2.1 = none → fl i = 0) := by
    intro i
    by_cases hi : i < n
    · obtain ⟨line, fa, fc, fb, fo, h0, h1, h2, h3, h4⟩ := h.recs i hi
      exact ⟨(line, fa, fc, fb, fo), fun _ => ⟨h0, h1, h2, h3, h4⟩⟩
    · exact ⟨(0, none, 0, 0, 0), fun h => absurd h hi⟩
  obtain ⟨T, hT⟩ := Classical.skolem.1 hx
  exact ⟨fun i => (T i).1, fun i => (T i).2.1, fun i => (T i).2.2.1, fun i => (T i).2.2.2.1, fun i => (T i).2.2.2.2, hT⟩

theorem own_far {w : World} {H : Nat} {e : TypeId} {s : Nat} {q n c : Nat} {xs : List Value} (h : w.ownsRow H e s (.slice (some ⟨q, 0, none⟩) n c) n xs) (p : Addr) (hp : q ≠ p.block) (v : Value) : (w.setCell p v).ownsRow H e s (.slice (some ⟨q, 0, none⟩) n c) n xs :=
  ownsRow_congr h (fun gg hgg => by
    have e : gg = q := by simpa [Value.ownBlock] using hgg.symm
    subst e
    exact Below.heap_setCell _ _ _ _ hp)

/-! ### callDeep (9) -/
set_option maxHeartbeats 1600000 in
set_option maxRecDepth 100000 in
theorem callDeep_any (a : Option Addr) (n cap : Nat) (kd : Nat → ByteArray) (fl : Nat → Nat) (fs : Nat → Nat → ByteArray) (b off : Nat) (m : Option Nat) (role : ByteArray → Bool) (w : World) (hn : n ≤ 512)
    (H : RecsAt w a n kd fl fs b off) (hok : RecsOk n kd fl fs) (hwf : ∀ i, i < n → 1 ≤ fl i ∧ (isP (kd i) = false → 2 ≤ fl i)) (hr : RoleAt w m role) :
    Calls Try.prog 9 #[.slice a n cap, .map m] w fun e w' => CountIs n kd fs role e ∧ Below w.heap.size w w' := by
  obtain ⟨i3, hi3, z30, z31, z32⟩ := info_parts Try.info3
  obtain ⟨i9, hi9, z90, z91, z92⟩ := info_parts Try.info9
  obtain ⟨i29, hi29, z290, z291, z292⟩ := info_parts Try.info29
  obtain ⟨ln, fa, fc, fb, fo, hp⟩ := H.parts
  have ha := H.addr
  have HP : Hid (∀ i, i < n → w.cell? ⟨b, off + i * 3, none⟩ = some (.int .i64 (ln i)) ∧ w.cell? ⟨b, off + i * 3 + 1, none⟩ = some (.string (kd i)) ∧ w.cell? ⟨b, off + i * 3 + 2, none⟩ = some (.slice (fa i) (fl i) (fc i)) ∧
      Row w (fa i) (fl i) (fun j => .string (fs i j)) (fb i) (fo i) ∧ (fa i = none → fl i = 0)) := hp
  have HH : Hid (RecsOk n kd fl fs ∧ (∀ i, i < n → 1 ≤ fl i ∧ (isP (kd i) = false → 2 ≤ fl i)) ∧ RoleAt w m role) := ⟨hok, hwf, hr⟩
  clear hok hwf hr H hp
  go_enter Try.func9, Try.ntmps9
  go_wp2_with (at_make; refine wpList_make_full _ rfl _ _ 35 rfl w.heap.size 3 i3 _ 1 Try.underlying35 hi3 z30 z31 _ _ _ _ n rfl rfl rfl rfl (by rw [z32]; omega) (by unfold maxLen; omega) (by omega) ?_)
  intro w1 hown1 hgrow1
  go_wp2_with (at_make; refine wpList_make_full _ rfl _ _ 29 rfl w1.heap.size 9 i9 _ 1 Try.underlying29 hi9 z90 z91 _ _ _ _ n rfl rfl rfl rfl (by rw [z92]; omega) (by unfold maxLen; omega) (by omega) ?_)
  intro w2 hown2 hgrow2
  go_wp2_with (at_make; refine wpList_make_full _ rfl _ _ 36 rfl w2.heap.size 29 i29 _ 1 Try.underlying36 hi29 z290 z291 _ _ _ _ n rfl rfl rfl rfl (by rw [z292]; omega) (by unfold maxLen; omega) (by omega) ?_)
  intro w3 hown3 hgrow3
  have s1 : w.heap.size < w1.heap.size := (hown1.lt _ rfl).2
  have s2 : w1.heap.size < w2.heap.size := (hown2.lt _ rfl).2
  have hB : Below w.heap.size w w3 := (((Below.refl _ _).grown hgrow1 (Nat.le_refl _) (by simp)).grown hgrow2 (by omega) (by simp)).grown hgrow3 (by omega) (by simp)
  have o1 := (hown1.kept hgrow2 (.inr (by simp [Value.ownBlock]))).kept hgrow3 (.inr (by simp [Value.ownBlock]))
  have o2 := hown2.kept hgrow3 (.inr (by simp [Value.ownBlock]))
  have o3 := hown3
  clear hgrow1 hgrow2 hgrow3 hown1 hown2 hown3
  generalize w1.heap.size = B2 at *
  generalize w2.heap.size = B3 at *
  generalize (madeCells _ n).toList = l1 at o1
  generalize (madeCells _ n).toList = l2 at o2
  generalize (madeCells _ n).toList = l3 at o3
  by_cases h0 : n = 0
  · subst h0
    have HC : Hid (Calls Try.prog 13 #[.slice (some ⟨w.heap.size, 0, none⟩) 0 0, .slice (some ⟨B2, 0, none⟩) 0 0, .slice (some ⟨B3, 0, none⟩) 0 0, .map m] w3 fun e w' => CountIs 0 kd fs role e ∧ Below w3.heap.size w3 w') :=
      zz13_any 0 0 0 0 ln kd fa fl fc fs w.heap.size B2 B3 m role w3 hn (fun i hi => by omega) (fun i hi => by omega) (fun i hi => by omega) (fun i hi => by omega) HH.out.1 HH.out.2.1 (HH.out.2.2.below hB)
    clear o1 o2 o3
    go_wp2
    refine wp_loop_rounds 1 ?_
    rw [rounds_succ]
    go_wp2_with (go_at_call 13; refine HC.out.mono ?_; rintro e w' ⟨⟨cc, rfl, hcc⟩, hb'⟩)
    go_ret
    exact ⟨⟨cc, rfl, hcc⟩, hB.trans (hb'.mono hB.size)⟩
  · obtain rfl := ha (by omega)
    clear ha
    obtain ⟨B1, hB1⟩ : ∃ x, x = w.heap.size := ⟨_, rfl⟩
    rw [← hB1] at o1 s1 hB ⊢
    have HB1 : Hid (B1 = w.heap.size) := hB1
    go_wp2
    go_loopw [8] (fun i wr => ∃ (k : Nat) (x1 x2 x3 : List Value), k ≤ n ∧ i = .int .i64 k ∧ wr.ownsRow B1 3 1 (.slice (some ⟨B1, 0, none⟩) n n) n x1 ∧ wr.ownsRow B2 9 1 (.slice (some ⟨B2, 0, none⟩) n n) n x2 ∧ wr.ownsRow B3 29 1 (.slice (some ⟨B3, 0, none⟩) n n) n x3 ∧
        Below B1 w wr ∧ Hid (∀ j, j < k → x1[j]? = some (.int .i64 (ln j)) ∧ x2[j]? = some (.string (kd j)) ∧ x3[j]? = some (.slice (fa j) (fl j) (fc j)))) (fun i _ => n - (intOf i).toNat)
    case atStart => exact ⟨0, _, _, _, by omega, rfl, o1, o2, o3, hB, fun j hj => by omega⟩
    case round =>
      clear o1 o2 o3 hB
      obtain ⟨k, x1, x2, x3, hk, rfl, o1, o2, o3, hBr, HX⟩ := hrel
      have hx1 : x1.length = n := by have := o1.1; omega
      have hx2 : x2.length = n := by have := o2.1; omega
      have hx3 : x3.length = n := by have := o3.1; omega
      have hBw : Below w.heap.size w wr := by rw [← HB1.out]; exact hBr
      by_cases hlt : k < n
      · obtain ⟨q1, q2, q3, hrow, hfn⟩ := HP.out k hlt
        have lb : b < B1 := by have := World.block_lt_of_cell? w _ q1; rw [HB1.out]; exact this
        have hb1 : b ≠ B1 := by omega
        have hb2 : b ≠ B2 := by omega
        have hb3 : b ≠ B3 := by omega
        have hb1' : B1 ≠ b := by omega
        have hb2' : B2 ≠ b := by omega
        have hb3' : B3 ≠ b := by omega
        have h12 : B1 ≠ B2 := by omega
        have h13 : B1 ≠ B3 := by omega
        have h23 : B2 ≠ B3 := by omega
        have h12' : B2 ≠ B1 := by omega
        have h13' : B3 ≠ B1 := by omega
        have h23' : B3 ≠ B2 := by omega
        have g1 := cell_below hBw q1
        have g2 := cell_below hBw q2
        have g3 := cell_below hBw q3
        have f1 := o1.frozenAt k
        have f2 := o2.frozenAt k
        have f3 := o3.frozenAt k
        obtain ⟨v1, y1⟩ : ∃ x, wr.cell? ⟨B1, k, none⟩ = some x := ⟨x1[k]'(by omega), by rw [o1.cellAt _ (by omega)]; simp⟩
        obtain ⟨v2, y2⟩ : ∃ x, wr.cell? ⟨B2, k, none⟩ = some x := ⟨x2[k]'(by omega), by rw [o2.cellAt _ (by omega)]; simp⟩
        obtain ⟨v3, y3⟩ : ∃ x, wr.cell? ⟨B3, k, none⟩ = some x := ⟨x3[k]'(by omega), by rw [o3.cellAt _ (by omega)]; simp⟩
        have p1 := own_far (own_far (o1.stored k (.int .i64 (ln k))).1 ⟨B2, k, none⟩ h12 (.string (kd k))) ⟨B3, k, none⟩ h13 (.slice (fa k) (fl k) (fc k))
        have p2 := own_far ((own_far o2 ⟨B1, k, none⟩ h12' (.int .i64 (ln k))).stored k (.string (kd k))).1 ⟨B3, k, none⟩ h23 (.slice (fa k) (fl k) (fc k))
        have p3 := ((own_far (own_far o3 ⟨B1, k, none⟩ h13' (.int .i64 (ln k))) ⟨B2, k, none⟩ h23' (.string (kd k))).stored k (.slice (fa k) (fl k) (fc k))).1
        have pb := ((hBr.setCell (p := ⟨B1, k, none⟩) (Nat.le_refl _) (.int .i64 (ln k))).setCell (p := ⟨B2, k, none⟩) (by show B1 ≤ B2; omega) (.string (kd k))).setCell (p := ⟨B3, k, none⟩) (by show B1 ≤ B3; omega) (.slice (fa k) (fl k) (fc k))
        have PP : Hid (∃ (x1' x2' x3' : List Value), (((wr.setCell ⟨B1, k, none⟩ (.int .i64 (ln k))).setCell ⟨B2, k, none⟩ (.string (kd k))).setCell ⟨B3, k, none⟩ (.slice (fa k) (fl k) (fc k))).ownsRow B1 3 1 (.slice (some ⟨B1, 0, none⟩) n n) n x1' ∧
            (((wr.setCell ⟨B1, k, none⟩ (.int .i64 (ln k))).setCell ⟨B2, k, none⟩ (.string (kd k))).setCell ⟨B3, k, none⟩ (.slice (fa k) (fl k) (fc k))).ownsRow B2 9 1 (.slice (some ⟨B2, 0, none⟩) n n) n x2' ∧
            (((wr.setCell ⟨B1, k, none⟩ (.int .i64 (ln k))).setCell ⟨B2, k, none⟩ (.string (kd k))).setCell ⟨B3, k, none⟩ (.slice (fa k) (fl k) (fc k))).ownsRow B3 29 1 (.slice (some ⟨B3, 0, none⟩) n n) n x3' ∧
            Below B1 w (((wr.setCell ⟨B1, k, none⟩ (.int .i64 (ln k))).setCell ⟨B2, k, none⟩ (.string (kd k))).setCell ⟨B3, k, none⟩ (.slice (fa k) (fl k) (fc k))) ∧
            ∀ j, j < k + 1 → x1'[j]? = some (.int .i64 (ln j)) ∧ x2'[j]? = some (.string (kd j)) ∧ x3'[j]? = some (.slice (fa j) (fl j) (fc j))) := by
          refine ⟨_, _, _, p1, p2, p3, pb, fun j hj => ?_⟩
          by_cases e : j = k
          · subst e; simp [hx1, hx2, hx3, hlt]
          · rw [List.getElem?_set_ne (by omega), List.getElem?_set_ne (by omega), List.getElem?_set_ne (by omega)]
            exact HX.out j (by omega)
        clear q1 q2 q3 hrow hfn p1 p2 p3 pb o1 o2 o3 hBr hBw hx1 hx2 hx3 hB1
        go_wp2
        go_roundw
        case rel =>
          obtain ⟨x1', x2', x3', r1, r2, r3, r4, r5⟩ := PP.out
          exact ⟨k + 1, x1', x2', x3', by omega, by go_num, r1, r2, r3, r4, r5⟩
        case measure => simp [intOf]; omega
      · have hkn : k = n := by omega
        subst hkn
        have HC : Hid (Calls Try.prog 13 #[.slice (some ⟨B1, 0, none⟩) k k, .slice (some ⟨B2, 0, none⟩) k k, .slice (some ⟨B3, 0, none⟩) k k, .map m] wr fun e w' => CountIs k kd fs role e ∧ Below wr.heap.size wr w') :=
          zz13_any k k k k ln kd fa fl fc fs B1 B2 B3 m role wr hn (fun i hi => by rw [o1.cellAt i (by omega)]; exact (HX.out i hi).1) (fun i hi => by rw [o2.cellAt i (by omega)]; exact (HX.out i hi).2.1) (fun i hi => by rw [o3.cellAt i (by omega)]; exact (HX.out i hi).2.2)
            (fun i hi => by obtain ⟨_, _, _, hrow, hfn⟩ := HP.out i hi; exact ⟨fb i, fo i, hrow.below hBw, hfn⟩) HH.out.1 HH.out.2.1 (HH.out.2.2.below hBw)
        clear o1 o2 o3 hx1 hx2 hx3 hBr hB1
        go_wp2_with (go_at_call 13; refine HC.out.mono ?_; rintro e w' ⟨⟨cc, rfl, hcc⟩, hb'⟩)
        go_ret
        exact ⟨⟨cc, rfl, hcc⟩, hBw.trans (hb'.mono hBw.size)⟩
end Go.Proofs.Qxb6601564a

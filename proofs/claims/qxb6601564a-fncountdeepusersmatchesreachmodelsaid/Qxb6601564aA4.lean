import Derived.Test.Qxb6601564aA3
namespace Go.Proofs.Qxb6601564a
open Go.RowKit
set_option linter.unusedVariables false

theorem Row.setCell_far {w : World} {a : Option Addr} {n : Nat} {f : Nat → Value} {b off : Nat} (h : Row w a n f b off) (p : Addr) (hp : p.block ≠ b) (v : Value) : Row (w.setCell p v) a n f b off :=
  ⟨h.addr, fun i hi => by rw [World.cell?_setCell_far _ _ _ _ hp]; exact h.cell i hi⟩

/-- One record among the cells xs of a row that the call itself fills (block H). -/
def RecIn (w : World) (H : Nat) (xs : List Value) (j : Nat) (kd : ByteArray) (fl : Nat) (fs : Nat → ByteArray) : Prop :=
  ∃ (line : Int) (fa : Option Addr) (fc fb fo : Nat), xs[j * 3]? = some (.int .i64 line) ∧ xs[j * 3 + 1]? = some (.string kd) ∧ xs[j * 3 + 2]? = some (.slice fa fl fc) ∧
    Row w fa fl (fun j => .string (fs j)) fb fo ∧ (fa = none → fl = 0) ∧ fb ≠ H
theorem RecIn.below {w w' : World} {H : Nat} {xs : List Value} {j : Nat} {kd : ByteArray} {fl : Nat} {fs : Nat → ByteArray} (h : RecIn w H xs j kd fl fs) (hb : Below w.heap.size w w') : RecIn w' H xs j kd fl fs := by
  obtain ⟨line, fa, fc, fb, fo, h0, h1, h2, h3, h4, h5⟩ := h
  exact ⟨line, fa, fc, fb, fo, h0, h1, h2, h3.below hb, h4, h5⟩
theorem RecIn.stored {w : World} {H : Nat} {xs xs' : List Value} {j : Nat} {kd : ByteArray} {fl : Nat} {fs : Nat → ByteArray} (h : RecIn w H xs j kd fl fs) (p : Addr) (hp : p.block = H) (v : Value)
    (h0 : xs'[j * 3]? = xs[j * 3]?) (h1 : xs'[j * 3 + 1]? = xs[j * 3 + 1]?) (h2 : xs'[j * 3 + 2]? = xs[j * 3 + 2]?) : RecIn (w.setCell p v) H xs' j kd fl fs := by
  obtain ⟨line, fa, fc, fb, fo, g0, g1, g2, g3, g4, g5⟩ := h
  exact ⟨line, fa, fc, fb, fo, by rw [h0]; exact g0, by rw [h1]; exact g1, by rw [h2]; exact g2, g3.setCell_far p (by rw [hp]; exact fun e => g5 e.symm) v, g4, g5⟩

def ClonedRecs (w : World) (n : Nat) (kd : Nat → ByteArray) (fl : Nat → Nat) (fs : Nat → Nat → ByteArray) (e : Ending) (w' : World) : Prop :=
  ∃ a' c' b' off', e = .returned (.slice a' n c') ∧ Below w.heap.size w w' ∧ RecsAt w' a' n kd fl fs b' off'

set_option maxHeartbeats 1600000 in
set_option maxRecDepth 100000 in
theorem cloneRecs_any (a : Option Addr) (n cap : Nat) (kd : Nat → ByteArray) (fl : Nat → Nat) (fs : Nat → Nat → ByteArray) (b off : Nat) (w : World) (hn : n ≤ 512) (hnil : a = none → n = 0) (hfl : ∀ i, i < n → 16 * fl i ≤ 1048576)
    (H : RecsAt w a n kd fl fs b off) :
    Calls Try.prog 8 #[.slice a n cap] w fun e w' => ClonedRecs w n kd fl fs e w' := by
  have hq := fun w a l c => run_eqnil (P := Try.prog) w 22 31 a l c Try.underlying22
  obtain ⟨i0, hi, hz0, hz1, hz2⟩ := info_parts Try.info31
  obtain ⟨ha, hc⟩ := H
  have HC : Hid (∀ i, i < n → RecAt w b (off + i * 3) (kd i) (fl i) (fs i)) := hc
  have HF : Hid (∀ i, i < n → 16 * fl i ≤ 1048576) := hfl
  clear hc hfl
  cases a with
  | none =>
    obtain rfl := hnil rfl
    go_enter Try.func8, Try.ntmps8
    go_wp2
    go_ret
    exact ⟨none, 0, 0, 0, rfl, Below.refl _ _, ⟨fun h => by omega, fun i hi => by omega⟩⟩
  | some x =>
    by_cases h0 : n = 0
    · subst h0
      go_enter Try.func8, Try.ntmps8
      go_wp2_with (at_make; refine wpList_make_full _ rfl _ _ 22 rfl w.heap.size 31 i0 _ 3 Try.underlying22 hi hz0 hz1 _ _ _ _ 0 rfl rfl rfl rfl (by omega) (by unfold maxLen; omega) (by omega) ?_)
      intro w1 hown hgrow
      have hB : Below w.heap.size w w1 := (Below.refl _ _).grown hgrow (Nat.le_refl _) (by simp)
      clear hgrow
      go_wp2
      refine wp_loop_rounds 1 ?_
      rw [rounds_succ]
      go_wp2
      go_ret
      exact ⟨_, _, 0, 0, rfl, hB, ⟨fun h => by omega, fun i hi => by omega⟩⟩
    · obtain rfl : x = ⟨b, off, none⟩ := by simpa using ha (by omega)
      clear ha hnil
      go_enter Try.func8, Try.ntmps8
      go_wp2_with (at_make; refine wpList_make_full _ rfl _ _ 22 rfl w.heap.size 31 i0 _ 3 Try.underlying22 hi hz0 hz1 _ _ _ _ n rfl rfl rfl rfl (by rw [hz2]; omega) (by unfold maxLen; omega) (by omega) ?_)
      intro w1 hown hgrow
      have hB : Below w.heap.size w w1 := (Below.refl _ _).grown hgrow (Nat.le_refl _) (by simp)
      clear hgrow
      go_wp2
      go_loopw [4] (fun i wr => ∃ (k : Nat) (xs : List Value), k ≤ n ∧ i = .int .i64 k ∧ wr.ownsRow w.heap.size 31 3 (.slice (some ⟨w.heap.size, 0, none⟩) n n) n xs ∧ Below w.heap.size w wr ∧ Hid (∀ j, j < k → RecIn wr w.heap.size xs j (kd j) (fl j) (fs j))) (fun i _ => n - (intOf i).toNat)
      case atStart => exact ⟨0, _, by omega, rfl, hown, hB, fun j hj => by omega⟩
      case round =>
        obtain ⟨k, xs, hk, rfl, hownr, hBr, HX⟩ := hrel
        have hxl : xs.length = n * 3 := by have := hownr.1; omega
        clear hown hB
        by_cases hlt : k < n
        · obtain ⟨line, fa, fc, fb, fo, g0, g1, g2, hrow, hfn⟩ := (HC.out k hlt).below hBr
          have HRW : Hid (Row wr fa (fl k) (fun j => .string (fs k j)) fb fo ∧ (fa = none → fl k = 0)) := ⟨hrow, hfn⟩
          have hflk : fl k ≤ 65536 := by have := HF.out k hlt; omega
          have hwlt : w.heap.size < wr.heap.size := (hownr.lt _ rfl).2
          have HO : Hid (wr.ownsRow w.heap.size 31 3 (.slice (some ⟨w.heap.size, 0, none⟩) n n) n xs ∧ xs.length = n * 3) := ⟨hownr, hxl⟩
          have lb : b ≠ w.heap.size := by
            obtain ⟨l', _, _, _, _, q0, _⟩ := HC.out k hlt
            have hlt0 : b < w.heap.size := World.block_lt_of_cell? w _ q0
            omega
          have keepS : ∀ w', Below wr.drew.heap.size wr.drew w' → (w'.cell? ⟨b, off + k * 3, none⟩ = some (.int .i64 line) ∧ w'.cell? ⟨b, off + k * 3 + 1, none⟩ = some (.string (kd k)) ∧ w'.cell? ⟨b, off + k * 3 + 2, none⟩ = some (.slice fa (fl k) fc)) ∧
              (∃ x0 x1 x2, w'.cell? ⟨w.heap.size, k * 3, none⟩ = some x0 ∧ w'.cell? ⟨w.heap.size, k * 3 + 1, none⟩ = some x1 ∧ w'.cell? ⟨w.heap.size, k * 3 + 2, none⟩ = some x2) ∧ (∀ j, w'.frozen? ⟨w.heap.size, j, none⟩ = false) := fun w' h' => by
            have h'' : Below wr.heap.size wr w' := ⟨h'.os, h'.tape, h'.output, h'.size, h'.block⟩
            refine ⟨⟨cell_below h'' g0, cell_below h'' g1, cell_below h'' g2⟩, ⟨xs[k * 3]'(by omega), xs[k * 3 + 1]'(by omega), xs[k * 3 + 2]'(by omega), ?_, ?_, ?_⟩, fun j => ?_⟩
            · refine cell_below h'' ?_; rw [hownr.cellAt _ (by omega)]; simp
            · refine cell_below h'' ?_; rw [hownr.cellAt _ (by omega)]; simp
            · refine cell_below h'' ?_; rw [hownr.cellAt _ (by omega)]; simp
            · rw [h''.frozen (p := ⟨w.heap.size, j, none⟩) hwlt]; exact hownr.frozenAt j
          have HS : Hid _ := keepS
          have e3 : (k : Int) < n := by omega
          have e4 : (0 : Int) ≤ k := by omega
          have lb' : w.heap.size ≠ b := fun e => lb e.symm
          clear hrow hfn keepS hownr hxl lb
          go_wp2
          go_region_held3 (fun w' => w'.cell? ⟨b, off + k * 3, none⟩ = some (.int .i64 line) ∧ w'.cell? ⟨b, off + k * 3 + 1, none⟩ = some (.string (kd k)) ∧ w'.cell? ⟨b, off + k * 3 + 2, none⟩ = some (.slice fa (fl k) fc)) (go_keep)
            (first | (go_at_call 12; refine (cloneStrings_any fa (fl k) fc (fs k) fb fo _ hflk HRW.out.2 (by exact ⟨HRW.out.1.addr, HRW.out.1.cell⟩)).mono ?_; rintro e w' ⟨a', c', b', o', rfl, hb', hr', hn', hl'⟩; obtain ⟨⟨s0, s1, s2⟩, ⟨x0, x1, x2, y0, y1, y2⟩, hfz⟩ := HS.out w' hb'))
          have hb'' : Below wr.heap.size wr w' := ⟨hb'.os, hb'.tape, hb'.output, hb'.size, hb'.block⟩
          have HB : Hid (Below wr.heap.size wr w') := hb''
          have HRR : Hid (Row w' a' (fl k) (fun j => .string (fs k j)) b' o' ∧ (a' = none → fl k = 0) ∧ wr.heap.size ≤ b') := ⟨hr', hn', hl'⟩
          clear hb' hb'' hr' hn' hl' s0 s1 s2 y0 y1 y2 hfz HS
          go_wp2
          go_roundw
          case rel =>
            have ho := HO.out.1
            have hxl := HO.out.2
            have ho' : w'.ownsRow w.heap.size 31 3 (.slice (some ⟨w.heap.size, 0, none⟩) n n) n xs := by
              obtain ⟨q1, q2⟩ := ho
              refine ⟨q1, ?_⟩
              rcases q2 with q2 | ⟨g, cap', cur, qv, qb, qh, qr⟩
              · exact .inl q2
              · exact .inr ⟨g, cap', cur, qv, qb, by rw [HB.out.block g ((Array.getElem?_eq_some_iff.1 qh).1)]; exact qh, qr⟩
            have o1 := ((ho'.stored (k * 3) (.int .i64 line)).1.stored (k * 3 + 1) (.string (kd k))).1.stored (k * 3 + 2) (.slice a' (fl k) c')
            refine ⟨k + 1, _, by omega, by go_num, o1.1, ?_, fun j hj => ?_⟩
            · exact (((hBr.trans (HB.out.mono hBr.size)).setCell (by simp) _).setCell (by simp) _).setCell (by simp) _
            · by_cases e : j = k
              · subst e
                refine ⟨line, a', c', b', o', ?_, ?_, ?_, ?_, HRR.out.2.1, by have := HRR.out.2.2; omega⟩
                · simp [List.getElem?_set]; omega
                · simp [List.getElem?_set]; omega
                · simp [List.getElem?_set]; omega
                · have hne : w.heap.size ≠ b' := by have := HRR.out.2.2; omega
                  exact ((HRR.out.1.setCell_far _ hne _).setCell_far _ hne _).setCell_far _ hne _
              · have hj' : j < k := by omega
                have r0 := RecIn.below (HX.out j hj') HB.out
                have r1 := r0.stored (xs' := xs.set (k * 3) (.int .i64 line)) ⟨w.heap.size, k * 3, none⟩ rfl (.int .i64 line) (by rw [List.getElem?_set_ne (by omega)]) (by rw [List.getElem?_set_ne (by omega)]) (by rw [List.getElem?_set_ne (by omega)])
                have r2 := r1.stored (xs' := (xs.set (k * 3) (.int .i64 line)).set (k * 3 + 1) (.string (kd k))) ⟨w.heap.size, k * 3 + 1, none⟩ rfl (.string (kd k)) (by rw [List.getElem?_set_ne (by omega)]) (by rw [List.getElem?_set_ne (by omega)]) (by rw [List.getElem?_set_ne (by omega)])
                exact r2.stored (xs' := ((xs.set (k * 3) (.int .i64 line)).set (k * 3 + 1) (.string (kd k))).set (k * 3 + 2) (.slice a' (fl k) c')) ⟨w.heap.size, k * 3 + 2, none⟩ rfl (.slice a' (fl k) c') (by rw [List.getElem?_set_ne (by omega)]) (by rw [List.getElem?_set_ne (by omega)]) (by rw [List.getElem?_set_ne (by omega)])
          case measure => simp [intOf]; omega
        · have hkn : k = n := by omega
          subst hkn
          have R : RecsAt wr (some ⟨w.heap.size, 0, none⟩) k kd fl fs w.heap.size 0 := ⟨fun _ => rfl, fun i hi => by
            obtain ⟨line, fa, fc, fb, fo, g0, g1, g2, g3, g4, g5⟩ := HX.out i hi
            rw [Nat.zero_add]
            exact ⟨line, fa, fc, fb, fo, by rw [hownr.cellAt _ (by omega)]; exact g0, by rw [hownr.cellAt _ (by omega)]; exact g1, by rw [hownr.cellAt _ (by omega)]; exact g2, g3, g4⟩⟩
          have HR : Hid (RecsAt wr (some ⟨w.heap.size, 0, none⟩) k kd fl fs w.heap.size 0) := R
          clear R hownr hxl
          go_wp2
          go_ret
          exact ⟨_, _, _, _, rfl, hBr, HR.out⟩
end Go.Proofs.Qxb6601564a

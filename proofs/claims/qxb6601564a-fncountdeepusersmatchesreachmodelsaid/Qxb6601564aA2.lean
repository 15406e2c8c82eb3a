import Derived.Test.Qxb6601564aA1
namespace Go.Proofs.Qxb6601564a
open Go.RowKit
set_option linter.unusedVariables false

/-- What a clone leaves: a slice of its own, the same elements. -/
def Cloned (w : World) (a : Option Addr) (n : Nat) (f : Nat → Value) (e : Ending) (w' : World) : Prop :=
  ∃ a' c' b' off', e = .returned (.slice a' n c') ∧ Below w.heap.size w w' ∧ Row w' a' n f b' off' ∧ (a' = none → n = 0) ∧ w.heap.size ≤ b'

set_option maxHeartbeats 400000 in
theorem cloneStrings_any (a : Option Addr) (n cap : Nat) (f : Nat → ByteArray) (b off : Nat) (w : World) (hn : n ≤ 65536) (hnil : a = none → n = 0) (H : Row w a n (fun i => .string (f i)) b off) :
    Calls Try.prog 12 #[.slice a n cap] w fun e w' => Cloned w a n (fun i => .string (f i)) e w' := by
  have hq := fun w a l c => run_eqnil (P := Try.prog) w 29 9 a l c Try.underlying29
  obtain ⟨i0, hi, hz0, hz1, hz2⟩ := info_parts Try.info9
  cases a with
  | none =>
    obtain rfl := hnil rfl
    go_enter Try.func12, Try.ntmps12
    go_wp2
    go_ret
    exact ⟨none, 0, w.heap.size, 0, rfl, Below.refl _ _, ⟨fun h => by omega, fun i hi => by omega⟩, fun _ => rfl, Nat.le_refl _⟩
  | some x =>
    obtain ⟨ha, hc⟩ := H
    by_cases h0 : n = 0
    · subst h0
      go_enter Try.func12, Try.ntmps12
      go_wp2_with (at_make; refine wpList_make_full _ rfl _ _ 29 rfl w.heap.size 9 i0 _ 1 Try.underlying29 hi hz0 hz1 _ _ _ _ 0 rfl rfl rfl rfl (by omega) (by unfold maxLen; omega) (by omega) ?_)
      intro w1 hown hgrow
      have hB : Below w.heap.size w w1 := (Below.refl _ _).grown hgrow (Nat.le_refl _) (by simp)
      clear hgrow
      go_wp2
      refine wp_loop_rounds 1 ?_
      rw [rounds_succ]
      go_wp2
      go_ret
      exact ⟨_, _, w.heap.size, 0, rfl, hB, ⟨fun h => by omega, fun i hi => by omega⟩, fun _ => rfl, Nat.le_refl _⟩
    · obtain rfl : x = ⟨b, off, none⟩ := by simpa using ha (by omega)
      clear ha
      go_enter Try.func12, Try.ntmps12
      go_wp2_with (at_make; refine wpList_make_full _ rfl _ _ 29 rfl w.heap.size 9 i0 _ 1 Try.underlying29 hi hz0 hz1 _ _ _ _ n rfl rfl rfl rfl (by rw [hz2]; omega) (by unfold maxLen; omega) (by omega) ?_)
      intro w1 hown hgrow
      have hB : Below w.heap.size w w1 := (Below.refl _ _).grown hgrow (Nat.le_refl _) (by simp)
      clear hgrow
      go_wp2
      go_loopw [4] (fun i wr => ∃ (k : Nat) (xs : List Value), k ≤ n ∧ i = .int .i64 k ∧ wr.ownsRow w.heap.size 9 1 (.slice (some ⟨w.heap.size, 0, none⟩) n n) n xs ∧ Below w.heap.size w wr ∧ (∀ j, j < k → xs[j]? = some (.string (f j)))) (fun i _ => n - (intOf i).toNat)
      case atStart => exact ⟨0, _, by omega, rfl, hown, hB, fun j hj => by omega⟩
      case round =>
        obtain ⟨k, xs, hk, rfl, hownr, hBr, hxs⟩ := hrel
        have hxl : xs.length = n := by have := hownr.1; omega
        by_cases hlt : k < n
        · have hck : wr.cell? ⟨b, off + k, none⟩ = some (.string (f k)) := by
            rw [hBr.cell (p := ⟨b, off + k, none⟩) (World.block_lt_of_cell? w _ (hc k hlt))]; exact hc k hlt
          have hfr := hownr.frozenAt k
          have hcell : wr.cell? ⟨w.heap.size, k, none⟩ = some (xs[k]'(by omega)) := by rw [hownr.cellAt k (by omega)]; simp
          have hst := hownr.stored k (.string (f k))
          have R : (∃ xs' : List Value, (wr.setCell ⟨w.heap.size, k, none⟩ (.string (f k))).ownsRow w.heap.size 9 1 (.slice (some ⟨w.heap.size, 0, none⟩) n n) n xs' ∧ Below w.heap.size w (wr.setCell ⟨w.heap.size, k, none⟩ (.string (f k))) ∧ (∀ j, j < k + 1 → xs'[j]? = some (.string (f j)))) := by
            refine ⟨_, hst.1, hBr.setCell (by simp) _, fun j hj => ?_⟩
            by_cases e : j = k
            · subst e; simp [hxl, hlt]
            · rw [List.getElem?_set_ne (by omega)]; exact hxs j (by omega)
          have HR : Hid _ := R
          clear hst hc hown hB hxs R hBr hownr
          go_wp2
          go_roundw
          case rel =>
            obtain ⟨xs', r1, r2, r3⟩ := HR.out
            exact ⟨k + 1, xs', by omega, by go_num, r1, r2, r3⟩
          case measure => simp [intOf]; omega
        · have hkn : k = n := by omega
          subst hkn
          have R : Row wr (some ⟨w.heap.size, 0, none⟩) k (fun i => .string (f i)) w.heap.size 0 := ⟨fun _ => rfl, fun i hi => by rw [Nat.zero_add, hownr.cellAt i (by omega)]; exact hxs i hi⟩
          have HR : Hid _ := R
          clear hc hown hB hxs R hownr
          go_wp2
          go_ret
          exact ⟨_, _, _, _, rfl, hBr, HR.out, fun h => by simp at h, Nat.le_refl _⟩

set_option maxHeartbeats 400000 in
theorem cloneBools_any (a : Option Addr) (n cap : Nat) (f : Nat → Bool) (b off : Nat) (w : World) (hn : n ≤ 65536) (H : Row w a n (fun i => .bool (f i)) b off) :
    Calls Try.prog 15 #[.slice a n cap] w fun e w' => e = .returned (.slice (some ⟨w.heap.size, 0, none⟩) n n) ∧ Below w.heap.size w w' ∧ Row w' (some ⟨w.heap.size, 0, none⟩) n (fun i => .bool (f i)) w.heap.size 0 ∧ w.heap.size < w'.heap.size := by
  obtain ⟨i0, hi, hz0, hz1, hz2⟩ := info_parts Try.info4
  obtain ⟨ha, hc⟩ := H
  by_cases h0 : n = 0
  · subst h0
    go_enter Try.func15, Try.ntmps15
    go_wp2_with (at_make; refine wpList_make_full _ rfl _ _ 38 rfl w.heap.size 4 i0 _ 1 Try.underlying38 hi hz0 hz1 _ _ _ _ 0 rfl rfl rfl rfl (by omega) (by unfold maxLen; omega) (by omega) ?_)
    intro w1 hown hgrow
    have hB : Below w.heap.size w w1 := (Below.refl _ _).grown hgrow (Nat.le_refl _) (by simp)
    have hlt := (hown.lt _ rfl).2
    clear hgrow
    go_wp2
    refine wp_loop_rounds 1 ?_
    rw [rounds_succ]
    go_wp2
    go_ret
    exact ⟨rfl, hB, ⟨fun h => by omega, fun i hi => by omega⟩, hlt⟩
  · obtain rfl := ha (by omega)
    clear ha
    go_enter Try.func15, Try.ntmps15
    go_wp2_with (at_make; refine wpList_make_full _ rfl _ _ 38 rfl w.heap.size 4 i0 _ 1 Try.underlying38 hi hz0 hz1 _ _ _ _ n rfl rfl rfl rfl (by rw [hz2]; omega) (by unfold maxLen; omega) (by omega) ?_)
    intro w1 hown hgrow
    have hB : Below w.heap.size w w1 := (Below.refl _ _).grown hgrow (Nat.le_refl _) (by simp)
    clear hgrow
    go_wp2
    go_loopw [4] (fun i wr => ∃ (k : Nat) (xs : List Value), k ≤ n ∧ i = .int .i64 k ∧ wr.ownsRow w.heap.size 4 1 (.slice (some ⟨w.heap.size, 0, none⟩) n n) n xs ∧ Below w.heap.size w wr ∧ (∀ j, j < k → xs[j]? = some (.bool (f j)))) (fun i _ => n - (intOf i).toNat)
    case atStart => exact ⟨0, _, by omega, rfl, hown, hB, fun j hj => by omega⟩
    case round =>
      obtain ⟨k, xs, hk, rfl, hownr, hBr, hxs⟩ := hrel
      have hxl : xs.length = n := by have := hownr.1; omega
      by_cases hlt : k < n
      · have hck : wr.cell? ⟨b, off + k, none⟩ = some (.bool (f k)) := by
          rw [hBr.cell (p := ⟨b, off + k, none⟩) (World.block_lt_of_cell? w _ (hc k hlt))]; exact hc k hlt
        have hfr := hownr.frozenAt k
        have hcell : wr.cell? ⟨w.heap.size, k, none⟩ = some (xs[k]'(by omega)) := by rw [hownr.cellAt k (by omega)]; simp
        have hst := hownr.stored k (.bool (f k))
        have R : (∃ xs' : List Value, (wr.setCell ⟨w.heap.size, k, none⟩ (.bool (f k))).ownsRow w.heap.size 4 1 (.slice (some ⟨w.heap.size, 0, none⟩) n n) n xs' ∧ Below w.heap.size w (wr.setCell ⟨w.heap.size, k, none⟩ (.bool (f k))) ∧ (∀ j, j < k + 1 → xs'[j]? = some (.bool (f j)))) := by
          refine ⟨_, hst.1, hBr.setCell (by simp) _, fun j hj => ?_⟩
          by_cases e : j = k
          · subst e; simp [hxl, hlt]
          · rw [List.getElem?_set_ne (by omega)]; exact hxs j (by omega)
        have HR : Hid _ := R
        clear hst hc hown hB hxs R hBr hownr
        go_wp2
        go_roundw
        case rel =>
          obtain ⟨xs', r1, r2, r3⟩ := HR.out
          exact ⟨k + 1, xs', by omega, by go_num, r1, r2, r3⟩
        case measure => simp [intOf]; omega
      · have hkn : k = n := by omega
        subst hkn
        have R : Row wr (some ⟨w.heap.size, 0, none⟩) k (fun i => .bool (f i)) w.heap.size 0 := ⟨fun _ => rfl, fun i hi => by rw [Nat.zero_add, hownr.cellAt i (by omega)]; exact hxs i hi⟩
        have HR : Hid _ := R
        have HLT : Hid (w.heap.size < wr.heap.size) := (hownr.lt _ rfl).2
        clear hc hown hB hxs R hownr
        go_wp2
        go_ret
        exact ⟨rfl, hBr, HR.out, HLT.out⟩


def RetLe (fl : Nat) (e : Ending) : Prop := ∃ t : Int, e = .returned (.int .i64 t) ∧ 0 ≤ t ∧ t ≤ 1048577 ∧ (t ≤ 1048576 → 16 * fl ≤ 1048576)

set_option maxHeartbeats 800000 in
theorem recBytes_any (line : Int) (kd : ByteArray) (fa : Option Addr) (fl fc : Nat) (fs : Nat → ByteArray) (b off : Nat) (w : World) (hk : kd.size ≤ maxLen) (hf : fl ≤ maxLen) (hs : ∀ j, j < fl → (fs j).size ≤ maxLen)
    (H : Row w fa fl (fun j => .string (fs j)) b off) :
    Calls Try.prog 11 #[.agg #[.int .i64 line, .string kd, .slice fa fl fc]] w fun e w' => RetLe fl e ∧ Below w.heap.size w w' := by
  have H' := H.below ((Below.refl w.heap.size w).alloc (Nat.le_refl _) (.cells #[.int .i64 line, .string kd, .slice fa fl fc] 31))
  obtain ⟨ha, hc⟩ := H'
  have hBA : Below w.heap.size w (w.alloc (.cells #[.int .i64 line, .string kd, .slice fa fl fc] 31)) := (Below.refl _ _).alloc (Nat.le_refl _) _
  unfold maxLen at hk hf
  by_cases h0 : fl = 0
  · subst h0
    go_enter Try.func11, Try.ntmps11
    go_wp2
    all_goals first
      | (go_ret; exact ⟨⟨_, rfl, by omega, by omega, by omega⟩, hBA⟩)
      | skip
    refine wp_loop_rounds 1 ?_
    rw [rounds_succ]
    go_wp2
    go_ret
    exact ⟨⟨_, rfl, by omega, by omega, by omega⟩, hBA⟩
  · obtain rfl := ha (by omega)
    clear ha
    go_enter Try.func11, Try.ntmps11
    go_wp2
    all_goals first
      | (go_ret; exact ⟨⟨_, rfl, by omega, by omega, by omega⟩, hBA⟩)
      | skip
    go_loop [3, 4] (fun t i => ∃ (k : Nat) (x : Int), k ≤ fl ∧ 48 + kd.size + 16 * fl ≤ x ∧ x ≤ 1048576 ∧ i = .int .i64 k ∧ t = .int .i64 x) (fun _ i => fl - (intOf i).toNat)
    case atStart => exact ⟨0, 48 + kd.size + 16 * fl, by omega, by omega, by omega, rfl, by go_num⟩
    case round =>
      obtain ⟨k, x, hkl, hx0, hx1, rfl, rfl⟩ := hrel
      by_cases hlt : k < fl
      · have hck := hc k hlt
        have hsk := hs k hlt
        unfold maxLen at hsk
        generalize fs k = s at hck hsk
        clear hc hs
        go_wp2
        · go_ret
          exact ⟨⟨_, rfl, by omega, by omega, by omega⟩, hBA⟩
        · go_ret
          exact ⟨⟨_, rfl, by omega, by omega, by omega⟩, hBA⟩
        · go_round
          case rel => exact ⟨k + 1, x + s.size, by omega, by omega, by omega, by go_num, by go_num⟩
          case measure => simp [intOf]; omega
      · clear hc hs
        go_wp2
        go_ret
        exact ⟨⟨_, rfl, by omega, by omega, by omega⟩, hBA⟩
end Go.Proofs.Qxb6601564a

import Derived.Test.Qxb6600999aA1
import Derived.Deep.QuietTactic
import Derived.BigQuiet
namespace Go.Proofs.Qxb6600999a
open Go.RowKit
set_option linter.unusedVariables false

/-- A slice value (address a) of n elements of one cell each: its cells, from ⟨b, off⟩ on, hold f 0, f 1, .. -/
structure Row (w : World) (a : Option Addr) (n : Nat) (f : Nat → Value) (b off : Nat) : Prop where
  addr : 0 < n → a = some ⟨b, off, none⟩
  cell : ∀ i, i < n → w.cell? ⟨b, off + i, none⟩ = some (f i)

theorem Row.below {w w' : World} {a : Option Addr} {n : Nat} {f : Nat → Value} {b off : Nat} (h : Row w a n f b off) (hb : Below w.heap.size w w') : Row w' a n f b off :=
  ⟨h.addr, fun i hi => by
    have hc := h.cell i hi
    rw [hb.cell (p := ⟨b, off + i, none⟩) (World.block_lt_of_cell? w _ hc)]
    exact hc⟩

theorem run_eqnil {P : Program} (w : World) (t e : TypeId) (a : Option Addr) (l c : Nat) (h : P.underlying t = some (.slice e)) : (binOp .eql t (.slice a l c) (.slice none 0 0)).run P w = .ok (.bool a.isNone) w := by
  have h' : ∀ d : Nat, (Op.equalIn (d + 1) t (.slice a l c) (.slice none 0 0)).run P w = .ok a.isNone w := fun d => by
    cases a <;> simp [Op.equalIn, run_underlying h]
  simp only [binOp]
  simp [Op.equal, Op.maxDepth, h' 9999]

theorem Try.info5 : (Try.prog.info? 5).map (fun i => (i.zero, i.size, i.bytes)) = some (some (.int .u8 0), 1, 1) := by kernel_rfl
theorem Try.info2 : (Try.prog.info? 2).map (fun i => (i.zero, i.size, i.bytes)) = some (some (.int .i64 0), 1, 8) := by kernel_rfl
theorem Try.info9 : (Try.prog.info? 9).map (fun i => (i.zero, i.size, i.bytes)) = some (some (.string ByteArray.empty), 1, 16) := by kernel_rfl

/-- What a clone leaves: a slice of its own, the same elements. -/
def Cloned (w : World) (n : Nat) (f : Nat → Value) (e : Ending) (w' : World) : Prop :=
  ∃ a' c' b' off', e = .returned (.slice a' n c') ∧ Below w.heap.size w w' ∧ Row w' a' n f b' off'

set_option maxHeartbeats 400000 in
theorem cloneU8_any (a : Option Addr) (n cap : Nat) (f : Nat → Int) (b off : Nat) (w : World) (hn : n ≤ 4096) (hnil : a = none → n = 0) (H : Row w a n (fun i => .int .u8 (f i)) b off) :
    Calls Try.prog 22 #[.slice a n cap] w fun e w' => Cloned w n (fun i => .int .u8 (f i)) e w' := by
  have hq := fun w a l c => run_eqnil (P := Try.prog) w 26 5 a l c Try.underlying26
  obtain ⟨i0, hi, hz0, hz1, hz2⟩ := info_parts Try.info5
  cases a with
  | none =>
    obtain rfl := hnil rfl
    go_enter Try.func22, Try.ntmps22
    go_wp2
    go_ret
    exact ⟨none, 0, 0, 0, rfl, Below.refl _ _, ⟨fun h => by omega, fun i hi => by omega⟩⟩
  | some x =>
    obtain ⟨ha, hc⟩ := H
    by_cases h0 : n = 0
    · subst h0
      go_enter Try.func22, Try.ntmps22
      go_wp2_with (at_make; refine wpList_make_full _ rfl _ _ 26 rfl w.heap.size 5 i0 _ 1 Try.underlying26 hi hz0 hz1 _ _ _ _ 0 rfl rfl rfl rfl (by omega) (by unfold maxLen; omega) (by omega) ?_)
      intro w1 hown hgrow
      have hB : Below w.heap.size w w1 := (Below.refl _ _).grown hgrow (Nat.le_refl _) (by simp)
      clear hgrow
      go_wp2
      refine wp_loop_rounds 1 ?_
      rw [rounds_succ]
      go_wp2
      go_ret
      exact ⟨_, _, 0, 0, rfl, hB, ⟨fun h => by omega, fun i hi => by omega⟩⟩
    · obtain rfl : x = ⟨b, off, none⟩ := by simpa using ha (by omega)
      clear ha
      go_enter Try.func22, Try.ntmps22
      go_wp2_with (at_make; refine wpList_make_full _ rfl _ _ 26 rfl w.heap.size 5 i0 _ 1 Try.underlying26 hi hz0 hz1 _ _ _ _ n rfl rfl rfl rfl (by rw [hz2]; omega) (by unfold maxLen; omega) (by omega) ?_)
      intro w1 hown hgrow
      have hB : Below w.heap.size w w1 := (Below.refl _ _).grown hgrow (Nat.le_refl _) (by simp)
      clear hgrow
      go_wp2
      go_loopw [4] (fun i wr => ∃ (k : Nat) (xs : List Value), k ≤ n ∧ i = .int .i64 k ∧ wr.ownsRow w.heap.size 5 1 (.slice (some ⟨w.heap.size, 0, none⟩) n n) n xs ∧ Below w.heap.size w wr ∧ (∀ j, j < k → xs[j]? = some (.int .u8 (f j)))) (fun i _ => n - (intOf i).toNat)
      case atStart => exact ⟨0, _, by omega, rfl, hown, hB, fun j hj => by omega⟩
      case round =>
        obtain ⟨k, xs, hk, rfl, hownr, hBr, hxs⟩ := hrel
        have hxl : xs.length = n := by have := hownr.1; omega
        by_cases hlt : k < n
        · have hck : wr.cell? ⟨b, off + k, none⟩ = some (.int .u8 (f k)) := by
            rw [hBr.cell (p := ⟨b, off + k, none⟩) (World.block_lt_of_cell? w _ (hc k hlt))]; exact hc k hlt
          have hfr := hownr.frozenAt k
          have hcell : wr.cell? ⟨w.heap.size, k, none⟩ = some (xs[k]'(by omega)) := by rw [hownr.cellAt k (by omega)]; simp
          have hst := hownr.stored k (.int .u8 (f k))
          have R : (∃ xs' : List Value, (wr.setCell ⟨w.heap.size, k, none⟩ (.int .u8 (f k))).ownsRow w.heap.size 5 1 (.slice (some ⟨w.heap.size, 0, none⟩) n n) n xs' ∧ Below w.heap.size w (wr.setCell ⟨w.heap.size, k, none⟩ (.int .u8 (f k))) ∧ (∀ j, j < k + 1 → xs'[j]? = some (.int .u8 (f j)))) := by
            refine ⟨_, hst.1, hBr.setCell (by simp) _, fun j hj => ?_⟩
            by_cases e : j = k
            · subst e; simp [hxl, hlt]
            · rw [List.getElem?_set_ne (by omega)]; exact hxs j (by omega)
          have HR : Hid _ := R
          clear hst hc hown hB hxs R hBr hownr
          go_wp2
          go_roundw
          case rel =>
            obtain ⟨xs', r1, r2, r3⟩ := HR.out
            exact ⟨k + 1, xs', by omega, by go_num, r1, r2, r3⟩
          case measure => simp [intOf]; omega
        · have hkn : k = n := by omega
          subst hkn
          have R : Row wr (some ⟨w.heap.size, 0, none⟩) k (fun i => .int .u8 (f i)) w.heap.size 0 := ⟨fun _ => rfl, fun i hi => by rw [Nat.zero_add, hownr.cellAt i (by omega)]; exact hxs i hi⟩
          have HR : Hid _ := R
          clear hc hown hB hxs R hownr
          go_wp2
          go_ret
          exact ⟨_, _, _, _, rfl, hBr, HR.out⟩

set_option maxHeartbeats 400000 in
theorem cloneI64_any (a : Option Addr) (n cap : Nat) (f : Nat → Int) (b off : Nat) (w : World) (hn : n ≤ 4096) (hnil : a = none → n = 0) (H : Row w a n (fun i => .int .i64 (f i)) b off) :
    Calls Try.prog 23 #[.slice a n cap] w fun e w' => Cloned w n (fun i => .int .i64 (f i)) e w' := by
  have hq := fun w a l c => run_eqnil (P := Try.prog) w 34 2 a l c Try.underlying34
  obtain ⟨i0, hi, hz0, hz1, hz2⟩ := info_parts Try.info2
  cases a with
  | none =>
    obtain rfl := hnil rfl
    go_enter Try.func23, Try.ntmps23
    go_wp2
    go_ret
    exact ⟨none, 0, 0, 0, rfl, Below.refl _ _, ⟨fun h => by omega, fun i hi => by omega⟩⟩
  | some x =>
    obtain ⟨ha, hc⟩ := H
    by_cases h0 : n = 0
    · subst h0
      go_enter Try.func23, Try.ntmps23
      go_wp2_with (at_make; refine wpList_make_full _ rfl _ _ 34 rfl w.heap.size 2 i0 _ 1 Try.underlying34 hi hz0 hz1 _ _ _ _ 0 rfl rfl rfl rfl (by omega) (by unfold maxLen; omega) (by omega) ?_)
      intro w1 hown hgrow
      have hB : Below w.heap.size w w1 := (Below.refl _ _).grown hgrow (Nat.le_refl _) (by simp)
      clear hgrow
      go_wp2
      refine wp_loop_rounds 1 ?_
      rw [rounds_succ]
      go_wp2
      go_ret
      exact ⟨_, _, 0, 0, rfl, hB, ⟨fun h => by omega, fun i hi => by omega⟩⟩
    · obtain rfl : x = ⟨b, off, none⟩ := by simpa using ha (by omega)
      clear ha
      go_enter Try.func23, Try.ntmps23
      go_wp2_with (at_make; refine wpList_make_full _ rfl _ _ 34 rfl w.heap.size 2 i0 _ 1 Try.underlying34 hi hz0 hz1 _ _ _ _ n rfl rfl rfl rfl (by rw [hz2]; omega) (by unfold maxLen; omega) (by omega) ?_)
      intro w1 hown hgrow
      have hB : Below w.heap.size w w1 := (Below.refl _ _).grown hgrow (Nat.le_refl _) (by simp)
      clear hgrow
      go_wp2
      go_loopw [4] (fun i wr => ∃ (k : Nat) (xs : List Value), k ≤ n ∧ i = .int .i64 k ∧ wr.ownsRow w.heap.size 2 1 (.slice (some ⟨w.heap.size, 0, none⟩) n n) n xs ∧ Below w.heap.size w wr ∧ (∀ j, j < k → xs[j]? = some (.int .i64 (f j)))) (fun i _ => n - (intOf i).toNat)
      case atStart => exact ⟨0, _, by omega, rfl, hown, hB, fun j hj => by omega⟩
      case round =>
        obtain ⟨k, xs, hk, rfl, hownr, hBr, hxs⟩ := hrel
        have hxl : xs.length = n := by have := hownr.1; omega
        by_cases hlt : k < n
        · have hck : wr.cell? ⟨b, off + k, none⟩ = some (.int .i64 (f k)) := by
            rw [hBr.cell (p := ⟨b, off + k, none⟩) (World.block_lt_of_cell? w _ (hc k hlt))]; exact hc k hlt
          have hfr := hownr.frozenAt k
          have hcell : wr.cell? ⟨w.heap.size, k, none⟩ = some (xs[k]'(by omega)) := by rw [hownr.cellAt k (by omega)]; simp
          have hst := hownr.stored k (.int .i64 (f k))
          have R : (∃ xs' : List Value, (wr.setCell ⟨w.heap.size, k, none⟩ (.int .i64 (f k))).ownsRow w.heap.size 2 1 (.slice (some ⟨w.heap.size, 0, none⟩) n n) n xs' ∧ Below w.heap.size w (wr.setCell ⟨w.heap.size, k, none⟩ (.int .i64 (f k))) ∧ (∀ j, j < k + 1 → xs'[j]? = some (.int .i64 (f j)))) := by
            refine ⟨_, hst.1, hBr.setCell (by simp) _, fun j hj => ?_⟩
            by_cases e : j = k
            · subst e; simp [hxl, hlt]
            · rw [List.getElem?_set_ne (by omega)]; exact hxs j (by omega)
          have HR : Hid _ := R
          clear hst hc hown hB hxs R hBr hownr
          go_wp2
          go_roundw
          case rel =>
            obtain ⟨xs', r1, r2, r3⟩ := HR.out
            exact ⟨k + 1, xs', by omega, by go_num, r1, r2, r3⟩
          case measure => simp [intOf]; omega
        · have hkn : k = n := by omega
          subst hkn
          have R : Row wr (some ⟨w.heap.size, 0, none⟩) k (fun i => .int .i64 (f i)) w.heap.size 0 := ⟨fun _ => rfl, fun i hi => by rw [Nat.zero_add, hownr.cellAt i (by omega)]; exact hxs i hi⟩
          have HR : Hid _ := R
          clear hc hown hB hxs R hownr
          go_wp2
          go_ret
          exact ⟨_, _, _, _, rfl, hBr, HR.out⟩

set_option maxHeartbeats 400000 in
theorem cloneStrs_any (a : Option Addr) (n cap : Nat) (f : Nat → ByteArray) (b off : Nat) (w : World) (hn : n ≤ 4096) (hnil : a = none → n = 0) (H : Row w a n (fun i => .string (f i)) b off) :
    Calls Try.prog 24 #[.slice a n cap] w fun e w' => Cloned w n (fun i => .string (f i)) e w' := by
  have hq := fun w a l c => run_eqnil (P := Try.prog) w 35 9 a l c Try.underlying35
  obtain ⟨i0, hi, hz0, hz1, hz2⟩ := info_parts Try.info9
  cases a with
  | none =>
    obtain rfl := hnil rfl
    go_enter Try.func24, Try.ntmps24
    go_wp2
    go_ret
    exact ⟨none, 0, 0, 0, rfl, Below.refl _ _, ⟨fun h => by omega, fun i hi => by omega⟩⟩
  | some x =>
    obtain ⟨ha, hc⟩ := H
    by_cases h0 : n = 0
    · subst h0
      go_enter Try.func24, Try.ntmps24
      go_wp2_with (at_make; refine wpList_make_full _ rfl _ _ 35 rfl w.heap.size 9 i0 _ 1 Try.underlying35 hi hz0 hz1 _ _ _ _ 0 rfl rfl rfl rfl (by omega) (by unfold maxLen; omega) (by omega) ?_)
      intro w1 hown hgrow
      have hB : Below w.heap.size w w1 := (Below.refl _ _).grown hgrow (Nat.le_refl _) (by simp)
      clear hgrow
      go_wp2
      refine wp_loop_rounds 1 ?_
      rw [rounds_succ]
      go_wp2
      go_ret
      exact ⟨_, _, 0, 0, rfl, hB, ⟨fun h => by omega, fun i hi => by omega⟩⟩
    · obtain rfl : x = ⟨b, off, none⟩ := by simpa using ha (by omega)
      clear ha
      go_enter Try.func24, Try.ntmps24
      go_wp2_with (at_make; refine wpList_make_full _ rfl _ _ 35 rfl w.heap.size 9 i0 _ 1 Try.underlying35 hi hz0 hz1 _ _ _ _ n rfl rfl rfl rfl (by rw [hz2]; omega) (by unfold maxLen; omega) (by omega) ?_)
      intro w1 hown hgrow
      have hB : Below w.heap.size w w1 := (Below.refl _ _).grown hgrow (Nat.le_refl _) (by simp)
      clear hgrow
      go_wp2
      go_loopw [4] (fun i wr => ∃ (k : Nat) (xs : List Value), k ≤ n ∧ i = .int .i64 k ∧ wr.ownsRow w.heap.size 9 1 (.slice (some ⟨w.heap.size, 0, none⟩) n n) n xs ∧ Below w.heap.size w wr ∧ (∀ j, j < k → xs[j]? = some (.string (f j)))) (fun i _ => n - (intOf i).toNat)
      case atStart => exact ⟨0, _, by omega, rfl, hown, hB, fun j hj => by omega⟩
      case round =>
        obtain ⟨k, xs, hk, rfl, hownr, hBr, hxs⟩ := hrel
        have hxl : xs.length = n := by have := hownr.1; omega
        by_cases hlt : k < n
        · have hck : wr.cell? ⟨b, off + k, none⟩ = some (.string (f k)) := by
            rw [hBr.cell (p := ⟨b, off + k, none⟩) (World.block_lt_of_cell? w _ (hc k hlt))]; exact hc k hlt
          have hfr := hownr.frozenAt k
          have hcell : wr.cell? ⟨w.heap.size, k, none⟩ = some (xs[k]'(by omega)) := by rw [hownr.cellAt k (by omega)]; simp
          have hst := hownr.stored k (.string (f k))
          have R : (∃ xs' : List Value, (wr.setCell ⟨w.heap.size, k, none⟩ (.string (f k))).ownsRow w.heap.size 9 1 (.slice (some ⟨w.heap.size, 0, none⟩) n n) n xs' ∧ Below w.heap.size w (wr.setCell ⟨w.heap.size, k, none⟩ (.string (f k))) ∧ (∀ j, j < k + 1 → xs'[j]? = some (.string (f j)))) := by
            refine ⟨_, hst.1, hBr.setCell (by simp) _, fun j hj => ?_⟩
            by_cases e : j = k
            · subst e; simp [hxl, hlt]
            · rw [List.getElem?_set_ne (by omega)]; exact hxs j (by omega)
          have HR : Hid _ := R
          clear hst hc hown hB hxs R hBr hownr
          go_wp2
          go_roundw
          case rel =>
            obtain ⟨xs', r1, r2, r3⟩ := HR.out
            exact ⟨k + 1, xs', by omega, by go_num, r1, r2, r3⟩
          case measure => simp [intOf]; omega
        · have hkn : k = n := by omega
          subst hkn
          have R : Row wr (some ⟨w.heap.size, 0, none⟩) k (fun i => .string (f i)) w.heap.size 0 := ⟨fun _ => rfl, fun i hi => by rw [Nat.zero_add, hownr.cellAt i (by omega)]; exact hxs i hi⟩
          have HR : Hid _ := R
          clear hc hown hB hxs R hownr
          go_wp2
          go_ret
          exact ⟨_, _, _, _, rfl, hBr, HR.out⟩

end Go.Proofs.Qxb6600999a

import Derived.Test.Qxb6603303aProg
import Derived.Test.Qxb6603303aP1
import Derived.WalkKit
import Derived.Deep.QuietTactic
import Derived.BigQuiet
import Derived.Deep.RegionHeld3
import Derived.KernelRfl
namespace Go.Proofs.Qxb6603303a
open Go.RowKit
set_option linter.unusedVariables false

theorem ret_int {k : IntKind} {a b : Int} (h : a = b) : Ending.returned (.int k a) = .returned (.int k b) := by rw [h]
theorem cell_below {w w' : World} (hb : Below w.heap.size w w') {a : Addr} {v : Value} (h : w.cell? a = some v) : w'.cell? a = some v := by
  rw [hb.cell (p := a) (World.block_lt_of_cell? w _ h)]; exact h

/-- The text: a slice value (address a) of n bytes: its cells, from ⟨b, off⟩ on, hold f 0, f 1, .. -/
structure Row (w : World) (a : Option Addr) (n : Nat) (f : Nat → Int) (b off : Nat) : Prop where
  addr : 0 < n → a = some ⟨b, off, none⟩
  cell : ∀ i, i < n → w.cell? ⟨b, off + i, none⟩ = some (.int .u8 (f i))

theorem run_eqnil {P : Program} (w : World) (t e : TypeId) (a : Option Addr) (l c : Nat) (h : P.underlying t = some (.slice e)) : (binOp .eql t (.slice a l c) (.slice none 0 0)).run P w = .ok (.bool a.isNone) w := by
  have h' : ∀ d : Nat, (Op.equalIn (d + 1) t (.slice a l c) (.slice none 0 0)).run P w = .ok a.isNone w := fun d => by
    cases a <;> simp [Op.equalIn, run_underlying h]
  simp only [binOp]
  simp [Op.equal, Op.maxDepth, h' 9999]

theorem Try.info5 : (Try.prog.info? 5).map (fun i => (i.zero, i.size, i.bytes)) = some (some (.int .u8 0), 1, 1) := by kernel_rfl

/-! ### zzBytes (10) -/
theorem bytes_small (a : Option Addr) (n cap : Nat) (x : Int) (w : World) (hn : n ≤ 1048576) :
    Calls Try.prog 10 #[.slice a n cap, .int .i64 x] w fun e w' => e = .returned (.bool true) ∧ w = w' := by
  go_enter Try.func10, Try.ntmps10
  go_wp2
  go_ret
  exact ⟨rfl, rfl⟩
theorem bytes_big (a : Option Addr) (n cap : Nat) (x : Int) (w : World) (hn : 1048576 < n) :
    Calls Try.prog 10 #[.slice a n cap, .int .i64 x] w fun e w' => e = .returned (.bool false) ∧ w = w' := by
  go_enter Try.func10, Try.ntmps10
  go_wp2
  go_ret
  exact ⟨rfl, rfl⟩

/-! ### zzClone (11) -/
/-- What the clone leaves: nil, or a slice of its own, the same elements. -/
def Cloned (w : World) (n : Nat) (f : Nat → Int) (e : Ending) (w' : World) : Prop :=
  Below w.heap.size w w' ∧ ((e = .returned (.slice none 0 0) ∧ n = 0) ∨ ∃ b', e = .returned (.slice (some ⟨b', 0, none⟩) n n) ∧ ∀ i, i < n → w'.cell? ⟨b', i, none⟩ = some (.int .u8 (f i)))

set_option maxHeartbeats 400000 in
theorem clone_any (a : Option Addr) (n cap : Nat) (f : Nat → Int) (b off : Nat) (w : World) (hn : n ≤ 1048576) (hnil : a = none → n = 0) (H : Row w a n f b off) :
    Calls Try.prog 11 #[.slice a n cap] w fun e w' => Cloned w n f e w' := by
  have hq := fun w a l c => run_eqnil (P := Try.prog) w 22 5 a l c Try.underlying22
  obtain ⟨i0, hi, hz0, hz1, hz2⟩ := info_parts Try.info5
  cases a with
  | none =>
    obtain rfl := hnil rfl
    go_enter Try.func11, Try.ntmps11
    go_wp2
    go_ret
    exact ⟨Below.refl _ _, .inl ⟨rfl, rfl⟩⟩
  | some x =>
    obtain ⟨ha, hc⟩ := H
    by_cases h0 : n = 0
    · subst h0
      go_enter Try.func11, Try.ntmps11
      go_wp2_with (at_make; refine wpList_make_full _ rfl _ _ 22 rfl w.heap.size 5 i0 _ 1 Try.underlying22 hi hz0 hz1 _ _ _ _ 0 rfl rfl rfl rfl (by omega) (by unfold maxLen; omega) (by omega) ?_)
      intro w1 hown hgrow
      have hB : Below w.heap.size w w1 := (Below.refl _ _).grown hgrow (Nat.le_refl _) (by simp)
      clear hgrow
      go_wp2
      refine wp_loop_rounds 1 ?_
      rw [rounds_succ]
      go_wp2
      go_ret
      exact ⟨hB, .inr ⟨_, rfl, fun i hi => by omega⟩⟩
    · obtain rfl : x = ⟨b, off, none⟩ := by simpa using ha (by omega)
      clear ha
      go_enter Try.func11, Try.ntmps11
      go_wp2_with (at_make; refine wpList_make_full _ rfl _ _ 22 rfl w.heap.size 5 i0 _ 1 Try.underlying22 hi hz0 hz1 _ _ _ _ n rfl rfl rfl rfl (by rw [hz2]; omega) (by unfold maxLen; omega) (by omega) ?_)
      intro w1 hown hgrow
      have hB : Below w.heap.size w w1 := (Below.refl _ _).grown hgrow (Nat.le_refl _) (by simp)
      clear hgrow
      go_wp2
      go_loopw [4] (fun i wr => ∃ (k : Nat) (xs : List Value), k ≤ n ∧ i = .int .i64 k ∧ wr.ownsRow w.heap.size 5 1 (.slice (some ⟨w.heap.size, 0, none⟩) n n) n xs ∧ Below w.heap.size w wr ∧ (∀ j, j < k → xs[j]? = some (.int .u8 (f j)))) (fun i _ => n - (intOf i).toNat)
      case atStart => exact ⟨0, _, by omega, rfl, hown, hB, fun j hj => by omega⟩
      case round =>
        obtain ⟨k, xs, hk, rfl, hownr, hBr, hxs⟩ := hrel
        have hxl : xs.length = n := by have := hownr.1; omega
        by_cases hlt : k < n
        · have hck : wr.cell? ⟨b, off + k, none⟩ = some (.int .u8 (f k)) := by
            rw [hBr.cell (p := ⟨b, off + k, none⟩) (World.block_lt_of_cell? w _ (hc k hlt))]; exact hc k hlt
          have hfr := hownr.frozenAt k
          have hcell : wr.cell? ⟨w.heap.size, k, none⟩ = some (xs[k]'(by omega)) := by rw [hownr.cellAt k (by omega)]; simp
          have hst := hownr.stored k (.int .u8 (f k))
          have R : (∃ xs' : List Value, (wr.setCell ⟨w.heap.size, k, none⟩ (.int .u8 (f k))).ownsRow w.heap.size 5 1 (.slice (some ⟨w.heap.size, 0, none⟩) n n) n xs' ∧ Below w.heap.size w (wr.setCell ⟨w.heap.size, k, none⟩ (.int .u8 (f k))) ∧ (∀ j, j < k + 1 → xs'[j]? = some (.int .u8 (f j)))) := by
            refine ⟨_, hst.1, hBr.setCell (by simp) _, fun j hj => ?_⟩
            by_cases e : j = k
            · subst e; simp [hxl, hlt]
            · rw [List.getElem?_set_ne (by omega)]; exact hxs j (by omega)
          have HR : Hid _ := R
          clear hst hc hown hB hxs R hBr hownr
          go_wp2
          go_roundw
          case rel =>
            obtain ⟨xs', r1, r2, r3⟩ := HR.out
            exact ⟨k + 1, xs', by omega, by go_num, r1, r2, r3⟩
          case measure => simp [intOf]; omega
        · have hkn : k = n := by omega
          subst hkn
          have R : ∀ i, i < k → wr.cell? ⟨w.heap.size, i, none⟩ = some (.int .u8 (f i)) := fun i hi => by rw [hownr.cellAt i (by omega)]; exact hxs i hi
          have HR : Hid (∀ i, i < k → wr.cell? ⟨w.heap.size, i, none⟩ = some (.int .u8 (f i))) := R
          clear hc hown hB hxs R hownr
          go_wp2
          go_ret
          exact ⟨hBr, .inr ⟨_, rfl, HR.out⟩⟩

/-! ### the runs of backslashes (38, 26) -/
def IsRun (f : Nat → Int) (n i r : Nat) : Prop := i + r ≤ n ∧ (∀ q, q < r → f (i + q) = 92) ∧ ¬ (i + r < n ∧ f (i + r) = 92)
theorem IsRun.exists (f : Nat → Int) (n i : Nat) (hi : i ≤ n) : ∃ r, IsRun f n i r := by
  obtain ⟨d, rfl⟩ : ∃ d, n = i + d := ⟨n - i, by omega⟩
  induction d generalizing i with
  | zero => exact ⟨0, by omega, fun q hq => by omega, fun h => by omega⟩
  | succ d ih =>
    by_cases h : f i = 92
    · obtain ⟨r, h1, h2, h3⟩ := ih (i + 1) (by omega)
      refine ⟨r + 1, by omega, fun q hq => ?_, ?_⟩
      · cases q with
        | zero => exact h
        | succ q => have := h2 q (by omega); rwa [show i + (q + 1) = i + 1 + q by omega]
      · rw [show i + (r + 1) = i + 1 + r by omega, show i + (d + 1) = i + 1 + d by omega]; exact h3
    · exact ⟨0, by omega, fun q hq => by omega, fun h' => h h'.2⟩

set_option maxHeartbeats 400000 in
theorem backs_any (n cap : Nat) (f : Nat → Int) (b i r : Nat) (w : World) (hn : n ≤ 1048576) (hc : ∀ i, i < n → w.cell? ⟨b, i, none⟩ = some (.int .u8 (f i))) (hr : IsRun f n i r) :
    Calls Try.prog 38 #[.slice (some ⟨b, 0, none⟩) n cap, .int .i64 (i : Int)] w fun e w' => e = .returned (.int .i64 (r : Int)) ∧ w = w' := by
  have HR : Hid (IsRun f n i r) := hr
  have hin : i ≤ n := by have := hr.1; omega
  clear hr
  go_enter Try.func38, Try.ntmps38
  go_wp2
  go_loop [5] (fun v => ∃ k : Nat, k ≤ r ∧ v = .int .i64 k) (fun v => r - (intOf v).toNat)
  case atStart => exact ⟨0, by omega, rfl⟩
  case round =>
    obtain ⟨k, hk, rfl⟩ := hrel
    have hirn : i + r ≤ n := HR.out.1
    by_cases hlt : k < r
    · have hck := hc (i + k) (by omega)
      have hf : f (i + k) = 92 := HR.out.2.1 k hlt
      rw [hf] at hck
      clear hc hf
      go_wp2
      go_round
      case rel => exact ⟨k + 1, by omega, by go_num⟩
      case measure => simp [intOf]; omega
    · obtain rfl : k = r := by omega
      by_cases hl : i + k < n
      · have hck := hc (i + k) hl
        have hf : ¬ f (i + k) = 92 := fun h => HR.out.2.2 ⟨hl, h⟩
        have hf' : (f (i + k) == 92) = false := by simpa using hf
        clear hc hf
        go_wp2
        go_ret
        exact ⟨rfl, rfl⟩
      · clear hc
        go_wp2
        go_ret
        exact ⟨rfl, rfl⟩

set_option maxHeartbeats 400000 in
theorem runFrom_any (n cap : Nat) (f : Nat → Int) (b i r : Nat) (w : World) (hn : n ≤ 1048576) (hc : ∀ i, i < n → w.cell? ⟨b, i, none⟩ = some (.int .u8 (f i))) (hr : IsRun f n i r) :
    Calls Try.prog 26 #[.slice (some ⟨b, 0, none⟩) n cap, .int .i64 (i : Int)] w fun e w' => e = .returned (.int .i64 (r : Int)) ∧ w = w' := by
  have HR : Hid (IsRun f n i r) := hr
  have hin : i ≤ n := by have := hr.1; omega
  clear hr
  go_enter Try.func26, Try.ntmps26
  go_wp2
  go_loop [5] (fun v => ∃ k : Nat, k ≤ r ∧ v = .int .i64 k) (fun v => r - (intOf v).toNat)
  case atStart => exact ⟨0, by omega, rfl⟩
  case round =>
    obtain ⟨k, hk, rfl⟩ := hrel
    have hirn : i + r ≤ n := HR.out.1
    by_cases hlt : k < r
    · have hck := hc (i + k) (by omega)
      have hf : f (i + k) = 92 := HR.out.2.1 k hlt
      rw [hf] at hck
      clear hc hf
      go_wp2
      go_round
      case rel => exact ⟨k + 1, by omega, by go_num⟩
      case measure => simp [intOf]; omega
    · obtain rfl : k = r := by omega
      by_cases hl : i + k < n
      · have hck := hc (i + k) hl
        have hf : ¬ f (i + k) = 92 := fun h => HR.out.2.2 ⟨hl, h⟩
        have hf' : (f (i + k) == 92) = false := by simpa using hf
        clear hc hf
        go_wp2
        go_ret
        exact ⟨rfl, rfl⟩
      · clear hc
        go_wp2
        go_ret
        exact ⟨rfl, rfl⟩

end Go.Proofs.Qxb6603303a

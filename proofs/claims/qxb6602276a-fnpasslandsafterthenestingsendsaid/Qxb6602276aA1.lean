import Derived.Test.Qxb6602276aProg
import Derived.Test.Qxb6602276aP1
import Derived.WalkKit
import Derived.Deep.QuietTactic
import Derived.BigQuiet
import Derived.Deep.RegionHeld3
import Derived.KernelRfl
namespace Go.Proofs.Qxb6602276a
open Go.RowKit
set_option linter.unusedVariables false

theorem ret_int {k : IntKind} {a b : Int} (h : a = b) : Ending.returned (.int k a) = .returned (.int k b) := by rw [h]
theorem cell_below {w w' : World} (hb : Below w.heap.size w w') {a : Addr} {v : Value} (h : w.cell? a = some v) : w'.cell? a = some v := by
  rw [hb.cell (p := a) (World.block_lt_of_cell? w _ h)]; exact h
theorem below_drewN (B : Nat) (w : World) (m : Nat) : Below B w (w.drewN m) := ⟨rfl, rfl, rfl, Nat.le_refl _, fun _ _ => rfl⟩

/-- A slice of ints (address a): its n cells, from ⟨b, off⟩ on, hold f 0, f 1, .. -/
structure Row (w : World) (a : Option Addr) (n : Nat) (f : Nat → Int) (b off : Nat) : Prop where
  addr : 0 < n → a = some ⟨b, off, none⟩
  cell : ∀ i, i < n → w.cell? ⟨b, off + i, none⟩ = some (.int .i64 (f i))
theorem Row.below {w w' : World} {a : Option Addr} {n : Nat} {f : Nat → Int} {b off : Nat} (h : Row w a n f b off) (hb : Below w.heap.size w w') : Row w' a n f b off :=
  ⟨h.addr, fun i hi => cell_below hb (h.cell i hi)⟩

theorem run_eqnil {P : Program} (w : World) (t e : TypeId) (a : Option Addr) (l c : Nat) (h : P.underlying t = some (.slice e)) : (binOp .eql t (.slice a l c) (.slice none 0 0)).run P w = .ok (.bool a.isNone) w := by
  have h' : ∀ d : Nat, (Op.equalIn (d + 1) t (.slice a l c) (.slice none 0 0)).run P w = .ok a.isNone w := fun d => by
    cases a <;> simp [Op.equalIn, run_underlying h]
  simp only [binOp]
  simp [Op.equal, Op.maxDepth, h' 9999]

theorem Try.info3 : (Try.prog.info? 3).map (fun i => (i.zero, i.size, i.bytes)) = some (some (.int .i64 0), 1, 8) := by kernel_rfl
theorem Try.info4 : (Try.prog.info? 4).map (fun i => (i.zero, i.size, i.bytes)) = some (some (.bool false), 1, 1) := by kernel_rfl

/-! ### zzBytes (5) -/
def RetB (e : Ending) : Prop := ∃ d : Bool, e = .returned (.bool d)
set_option maxHeartbeats 800000 in
theorem bytes_any (s t : ByteArray) (a1 a2 a3 a4 : Option Addr) (n1 n2 n3 n4 c1 c2 c3 c4 : Nat) (x y z : Int) (w : World) (hs : s.size ≤ maxLen) (ht : t.size ≤ maxLen) (h1 : n1 ≤ maxLen) (h2 : n2 ≤ maxLen) (h3 : n3 ≤ maxLen) (h4 : n4 ≤ maxLen) :
    Calls Try.prog 5 #[.string s, .string t, .slice a1 n1 c1, .slice a2 n2 c2, .slice a3 n3 c3, .slice a4 n4 c4, .int .i64 x, .int .i64 y, .int .i64 z] w fun e w' => RetB e ∧ w = w' := by
  unfold maxLen at hs ht h1 h2 h3 h4
  go_enter Try.func5, Try.ntmps5
  go_wp2
  all_goals
    go_ret
    exact ⟨⟨_, rfl⟩, rfl⟩

/-! ### zzCloneInts (6) -/
/-- What the clone leaves: nil, or a slice of its own, the same elements. -/
def Cloned (w : World) (n : Nat) (f : Nat → Int) (e : Ending) (w' : World) : Prop :=
  Below w.heap.size w w' ∧ ((e = .returned (.slice none 0 0) ∧ n = 0) ∨ ∃ b', e = .returned (.slice (some ⟨b', 0, none⟩) n n) ∧ ∀ i, i < n → w'.cell? ⟨b', i, none⟩ = some (.int .i64 (f i)))

set_option maxHeartbeats 400000 in
theorem clone_any (a : Option Addr) (n cap : Nat) (f : Nat → Int) (b off : Nat) (w : World) (hn : n ≤ 1048576) (hnil : a = none → n = 0) (H : Row w a n f b off) :
    Calls Try.prog 6 #[.slice a n cap] w fun e w' => Cloned w n f e w' := by
  have hq := fun w a l c => run_eqnil (P := Try.prog) w 22 3 a l c Try.underlying22
  obtain ⟨i0, hi, hz0, hz1, hz2⟩ := info_parts Try.info3
  cases a with
  | none =>
    obtain rfl := hnil rfl
    go_enter Try.func6, Try.ntmps6
    go_wp2
    go_ret
    exact ⟨Below.refl _ _, .inl ⟨rfl, rfl⟩⟩
  | some x =>
    obtain ⟨ha, hc⟩ := H
    by_cases h0 : n = 0
    · subst h0
      go_enter Try.func6, Try.ntmps6
      go_wp2_with (at_make; refine wpList_make_full _ rfl _ _ 22 rfl w.heap.size 3 i0 _ 1 Try.underlying22 hi hz0 hz1 _ _ _ _ 0 rfl rfl rfl rfl (by omega) (by unfold maxLen; omega) (by omega) ?_)
      intro w1 hown hgrow
      have hB : Below w.heap.size w w1 := (Below.refl _ _).grown hgrow (Nat.le_refl _) (by simp)
      clear hgrow
      go_wp2
      refine wp_loop_rounds 1 ?_
      rw [rounds_succ]
      go_wp2
      go_ret
      exact ⟨hB, .inr ⟨_, rfl, fun i hi => by omega⟩⟩
    · obtain rfl : x = ⟨b, off, none⟩ := by simpa using ha (by omega)
      clear ha
      go_enter Try.func6, Try.ntmps6
      go_wp2_with (at_make; refine wpList_make_full _ rfl _ _ 22 rfl w.heap.size 3 i0 _ 1 Try.underlying22 hi hz0 hz1 _ _ _ _ n rfl rfl rfl rfl (by rw [hz2]; omega) (by unfold maxLen; omega) (by omega) ?_)
      intro w1 hown hgrow
      have hB : Below w.heap.size w w1 := (Below.refl _ _).grown hgrow (Nat.le_refl _) (by simp)
      clear hgrow
      go_wp2
      go_loopw [4] (fun i wr => ∃ (k : Nat) (xs : List Value), k ≤ n ∧ i = .int .i64 k ∧ wr.ownsRow w.heap.size 3 1 (.slice (some ⟨w.heap.size, 0, none⟩) n n) n xs ∧ Below w.heap.size w wr ∧ (∀ j, j < k → xs[j]? = some (.int .i64 (f j)))) (fun i _ => n - (intOf i).toNat)
      case atStart => exact ⟨0, _, by omega, rfl, hown, hB, fun j hj => by omega⟩
      case round =>
        obtain ⟨k, xs, hk, rfl, hownr, hBr, hxs⟩ := hrel
        have hxl : xs.length = n := by have := hownr.1; omega
        by_cases hlt : k < n
        · have hck : wr.cell? ⟨b, off + k, none⟩ = some (.int .i64 (f k)) := by
            rw [hBr.cell (p := ⟨b, off + k, none⟩) (World.block_lt_of_cell? w _ (hc k hlt))]; exact hc k hlt
          have hfr := hownr.frozenAt k
          have hcell : wr.cell? ⟨w.heap.size, k, none⟩ = some (xs[k]'(by omega)) := by rw [hownr.cellAt k (by omega)]; simp
          have hst := hownr.stored k (.int .i64 (f k))
          have R : (∃ xs' : List Value, (wr.setCell ⟨w.heap.size, k, none⟩ (.int .i64 (f k))).ownsRow w.heap.size 3 1 (.slice (some ⟨w.heap.size, 0, none⟩) n n) n xs' ∧ Below w.heap.size w (wr.setCell ⟨w.heap.size, k, none⟩ (.int .i64 (f k))) ∧ (∀ j, j < k + 1 → xs'[j]? = some (.int .i64 (f j)))) := by
            refine ⟨_, hst.1, hBr.setCell (by simp) _, fun j hj => ?_⟩
            by_cases e : j = k
            · subst e; simp [hxl, hlt]
            · rw [List.getElem?_set_ne (by omega)]; exact hxs j (by omega)
          have HR : Hid _ := R
          clear hst hc hown hB hxs R hBr hownr
          go_wp2
          go_roundw
          case rel =>
            obtain ⟨xs', r1, r2, r3⟩ := HR.out
            exact ⟨k + 1, xs', by omega, by go_num, r1, r2, r3⟩
          case measure => simp [intOf]; omega
        · have hkn : k = n := by omega
          subst hkn
          have R : ∀ i, i < k → wr.cell? ⟨w.heap.size, i, none⟩ = some (.int .i64 (f i)) := fun i hi => by rw [hownr.cellAt i (by omega)]; exact hxs i hi
          have HR : Hid (∀ i, i < k → wr.cell? ⟨w.heap.size, i, none⟩ = some (.int .i64 (f i))) := R
          clear hc hown hB hxs R hownr
          go_wp2
          go_ret
          exact ⟨hBr, .inr ⟨_, rfl, HR.out⟩⟩


/-! ### token (15) -/
set_option maxRecDepth 10000 in
set_option maxHeartbeats 800000 in
theorem token_any (s : ByteArray) (p c : Nat) (w : World) (hs : s.size ≤ 1048576) (ht : Tk s p c) :
    Calls Try.prog 15 #[.string s, .int .i64 (p : Int)] w fun e w' => e = .returned (.tuple #[.int .i64 (kdOf s p), .int .i64 (nOf s p), .int .i64 ((p + cnt s p : Nat) : Int)]) ∧ w = w' := by
  have HT : Hid (Tk s p c) := ht
  have hle := ht.le
  have hten := ht.ten
  have hpos := ht.pos
  clear ht
  go_enter Try.func15, Try.ntmps15
  go_wp2
  go_loop [1, 7, 8] (fun v x sh => ∃ q : Nat, q < c ∧ v = .int .i64 ((p + q : Nat) : Int) ∧ x = .int .u64 (acc s p q) ∧ sh = .int .i64 ((7 * q : Nat) : Int)) (fun v _ _ => p + c - (intOf v).toNat)
  case atStart => exact ⟨0, hpos, by simp, by simp [acc], by simp⟩
  case round =>
    obtain ⟨q, hq, rfl, rfl, rfl⟩ := hrel
    have hi : p + q < s.size := by omega
    have hx := acc_range s p q
    have hb : Hid (byt s (p + q) = (s[p + q].toNat : Int)) := byt_eq hi
    have HA : Hid (acc s p (q + 1) = bits .or .u64 (acc s p q) (IntKind.u64.wrap (IntKind.u64.wrap (bits .and .u8 (s[p + q].toNat : Int) 127) * 2 ^ (7 * q)))) := by
      show stepX _ _ _ = _
      rw [hb.out]
      rfl
    by_cases hl : q + 1 < c
    · have hbig : (128 : Int) ≤ (s[p + q].toNat : Int) := by rw [← hb.out]; exact HT.out.big q hl
      generalize acc s p q = X at hx HA ⊢
      go_wp2
      go_round
      case rel => exact ⟨q + 1, hl, by go_num, by rw [HA.out], by go_num⟩
      case measure => simp [intOf]; omega
    · obtain rfl : c = q + 1 := by omega
      have hsm : (s[p + q].toNat : Int) < 128 := by rw [← hb.out]; exact HT.out.last
      have HK : Hid (kdOf s p = wrap64 (bits .and .u64 (acc s p (q + 1)) 3) ∧ nOf s p = wrap64 (acc s p (q + 1) / 4) ∧ cnt s p = q + 1) := by
        unfold kdOf nOf
        rw [HT.out.cnt]
        exact ⟨rfl, rfl, rfl⟩
      generalize acc s p q = X at hx HA ⊢
      go_wp2
      go_ret3
      refine ⟨?_, rfl⟩
      rw [HK.out.1, HK.out.2.1, HK.out.2.2, HA.out]
      have e : ((p + (q + 1) : Nat) : Int) = (p : Int) + q + 1 := by omega
      rw [e]
      rfl
end Go.Proofs.Qxb6602276a

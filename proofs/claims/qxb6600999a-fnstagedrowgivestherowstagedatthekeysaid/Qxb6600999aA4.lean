import Derived.Test.Qxb6600999aA3
import Derived.Deep.RegionHeld3
namespace Go.Proofs.Qxb6600999a
open Go.RowKit
set_option linter.unusedVariables false

set_option maxHeartbeats 400000 in
theorem value_any (k i : Int) (s : ByteArray) (w : World) :
    Calls Try.prog 25 #[.int .u8 k, .int .i64 i, .string s] w fun e w' => e = .returned (.agg #[.int .u8 k, .int .i64 i, .string s]) ∧ w' = w.alloc (.cells #[.int .u8 k, .int .i64 i, .string s] 45) := by
  go_enter Try.func25, Try.ntmps25
  go_wp2
  exact bodyPost_ret (v := .agg #[.int .u8 k, .int .i64 i, .string s]) (by simp [results, Try.results25, go_sem]) rfl ⟨rfl, rfl⟩

theorem Try.info45 : (Try.prog.info? 45).map (fun i => (i.zero, i.size, i.bytes)) = some (some (.agg #[.int .u8 0, .int .i64 0, .string ByteArray.empty]), 3, 32) := by kernel_rfl

/-- The cells of n keys, three a key, in block B. -/
def KeyRow (w : World) (n : Nat) (K I : Nat → Int) (S : Nat → ByteArray) (B : Nat) : Prop :=
  ∀ i, i < n → w.cell? ⟨B, i * 3, none⟩ = some (.int .u8 (K i)) ∧ w.cell? ⟨B, i * 3 + 1, none⟩ = some (.int .i64 (I i)) ∧ w.cell? ⟨B, i * 3 + 2, none⟩ = some (.string (S i))

theorem frozen_alloc_lt (w : World) (o : Obj) (a : Addr) (h : w.frozen? a = false) (hne : w.heap.size ≠ a.block) : (w.alloc o).frozen? a = false := by
  have : (w.alloc o).heap[a.block]? = w.heap[a.block]? := by
    show (w.heap.push o)[a.block]? = _
    rw [Array.getElem?_push, if_neg (by omega)]
  rw [World.frozen?_of_block this]; exact h

set_option maxHeartbeats 1600000 in
set_option maxRecDepth 100000 in
theorem keys_any (a0 : Option Addr) (n0 c0 : Nat) (a1 : Option Addr) (n1 c1 : Nat) (a2 : Option Addr) (n2 c2 : Nat) (K I : Nat → Int) (S : Nat → ByteArray) (b0 o0 b1 o1 b2 o2 n : Nat) (w : World)
    (hn : n ≤ 4096) (h0 : n ≤ n0) (h1 : n ≤ n1) (h2 : n ≤ n2)
    (H0 : Row w a0 n0 (fun i => .int .u8 (K i)) b0 o0) (H1 : Row w a1 n1 (fun i => .int .i64 (I i)) b1 o1) (H2 : Row w a2 n2 (fun i => .string (S i)) b2 o2) :
    Calls Try.prog 27 #[.slice a0 n0 c0, .slice a1 n1 c1, .slice a2 n2 c2, .int .i64 n] w fun e w' => e = .returned (.slice (some ⟨w.heap.size, 0, none⟩) n n) ∧ Below w.heap.size w w' ∧ KeyRow w' n K I S w.heap.size := by
  obtain ⟨i0, hi, hz0, hz1, hz2⟩ := info_parts Try.info45
  by_cases hz : n = 0
  · subst hz
    go_enter Try.func27, Try.ntmps27
    go_wp2_with (at_make; refine wpList_make_full _ rfl _ _ 49 rfl w.heap.size 45 i0 _ 3 Try.underlying49 hi hz0 hz1 _ _ _ _ 0 rfl rfl rfl rfl (by omega) (by unfold maxLen; omega) (by omega) ?_)
    intro w1 hown hgrow
    have hB : Below w.heap.size w w1 := (Below.refl _ _).grown hgrow (Nat.le_refl _) (by simp)
    clear hgrow hown
    go_wp2
    refine wp_loop_rounds 1 ?_
    rw [rounds_succ]
    go_wp2
    go_ret
    exact ⟨rfl, hB, fun i hi => by omega⟩
  · obtain ⟨ha0, hc0⟩ := H0
    obtain ⟨ha1, hc1⟩ := H1
    obtain ⟨ha2, hc2⟩ := H2
    obtain rfl := ha0 (by omega)
    obtain rfl := ha1 (by omega)
    obtain rfl := ha2 (by omega)
    clear ha0 ha1 ha2
    go_enter Try.func27, Try.ntmps27
    go_wp2_with (at_make; refine wpList_make_full _ rfl _ _ 49 rfl w.heap.size 45 i0 _ 3 Try.underlying49 hi hz0 hz1 _ _ _ _ n rfl rfl rfl rfl (by rw [hz2]; omega) (by unfold maxLen; omega) (by omega) ?_)
    intro w1 hown hgrow
    have hB : Below w.heap.size w w1 := (Below.refl _ _).grown hgrow (Nat.le_refl _) (by simp)
    clear hgrow
    go_wp2
    go_loopw [10] (fun i wr => ∃ (k : Nat) (xs : List Value), k ≤ n ∧ i = .int .i64 k ∧ wr.ownsRow w.heap.size 45 3 (.slice (some ⟨w.heap.size, 0, none⟩) n n) n xs ∧ Below w.heap.size w wr ∧ (∀ j, j < k → xs[j * 3]? = some (.int .u8 (K j)) ∧ xs[j * 3 + 1]? = some (.int .i64 (I j)) ∧ xs[j * 3 + 2]? = some (.string (S j)))) (fun i _ => n - (intOf i).toNat)
    case atStart => exact ⟨0, _, by omega, rfl, hown, hB, fun j hj => by omega⟩
    case round =>
      obtain ⟨k, xs, hk, rfl, hownr, hBr, hxs⟩ := hrel
      have hxl : xs.length = n * 3 := by have := hownr.1; omega
      by_cases hlt : k < n
      · have l0 := World.block_lt_of_cell? w _ (hc0 k (by omega))
        have l1 := World.block_lt_of_cell? w _ (hc1 k (by omega))
        have l2 := World.block_lt_of_cell? w _ (hc2 k (by omega))
        have g0 : wr.cell? ⟨b0, o0 + k, none⟩ = some (.int .u8 (K k)) := by rw [hBr.cell (p := ⟨b0, o0 + k, none⟩) l0]; exact hc0 k (by omega)
        have g1 : wr.cell? ⟨b1, o1 + k, none⟩ = some (.int .i64 (I k)) := by rw [hBr.cell (p := ⟨b1, o1 + k, none⟩) l1]; exact hc1 k (by omega)
        have g2 : wr.cell? ⟨b2, o2 + k, none⟩ = some (.string (S k)) := by rw [hBr.cell (p := ⟨b2, o2 + k, none⟩) l2]; exact hc2 k (by omega)
        have z0 := World.new_ne wr _ g0
        have z1 := World.new_ne wr _ g1
        have z2 := World.new_ne wr _ g2
        obtain ⟨x0, p0⟩ : ∃ x, wr.cell? ⟨w.heap.size, k * 3, none⟩ = some x := ⟨xs[k * 3]'(by omega), by rw [hownr.cellAt _ (by omega)]; simp⟩
        obtain ⟨x1, p1⟩ : ∃ x, wr.cell? ⟨w.heap.size, k * 3 + 1, none⟩ = some x := ⟨xs[k * 3 + 1]'(by omega), by rw [hownr.cellAt _ (by omega)]; simp⟩
        obtain ⟨x2, p2⟩ : ∃ x, wr.cell? ⟨w.heap.size, k * 3 + 2, none⟩ = some x := ⟨xs[k * 3 + 2]'(by omega), by rw [hownr.cellAt _ (by omega)]; simp⟩
        have y0 := World.new_ne wr _ p0
        have yw : w.heap.size ≤ wr.heap.size := hBr.size
        have fz : ∀ (o : Obj) (j : Nat), (wr.alloc o).frozen? ⟨w.heap.size, j, none⟩ = false := fun o j => frozen_alloc_lt _ _ _ (hownr.frozenAt j) y0
        have fz' : ∀ (o : Obj) (j : Nat), (wr.alloc o).drew.frozen? ⟨w.heap.size, j, none⟩ = false := fun o j => frozen_alloc_lt _ _ _ (hownr.frozenAt j) y0
        have pz0 : ∀ o : Obj, (wr.alloc o).cell? ⟨w.heap.size, k * 3, none⟩ = some x0 := fun o => by rw [World.cell?_alloc_lt _ _ _ (World.block_lt_of_cell? wr _ p0)]; exact p0
        have pz1 : ∀ o : Obj, (wr.alloc o).cell? ⟨w.heap.size, k * 3 + 1, none⟩ = some x1 := fun o => by rw [World.cell?_alloc_lt _ _ _ (World.block_lt_of_cell? wr _ p1)]; exact p1
        have pz2 : ∀ o : Obj, (wr.alloc o).cell? ⟨w.heap.size, k * 3 + 2, none⟩ = some x2 := fun o => by rw [World.cell?_alloc_lt _ _ _ (World.block_lt_of_cell? wr _ p2)]; exact p2
        have d0 : w.heap.size ≠ b0 := by have : b0 < w.heap.size := l0; omega
        have d1 : w.heap.size ≠ b1 := by have : b1 < w.heap.size := l1; omega
        have d2 : w.heap.size ≠ b2 := by have : b2 < w.heap.size := l2; omega
        have f0 := hownr.frozenAt (k * 3)
        have f1 := hownr.frozenAt (k * 3 + 1)
        have f2 := hownr.frozenAt (k * 3 + 2)
        have e0 : (k : Int) < n0 := by omega
        have e1 : (k : Int) < n1 := by omega
        have e2 : (k : Int) < n2 := by omega
        have e3 : (k : Int) < n := by omega
        have e4 : (0 : Int) ≤ k := by omega
        have HX : Hid _ := And.intro hxl hxs
        have HO : Hid (wr.ownsRow w.heap.size 45 3 (.slice (some ⟨w.heap.size, 0, none⟩) n n) n xs) := hownr
        clear hc0 hc1 hc2 hown hB hxl hxs hownr
        go_wp2
        go_region_held3 (fun w' => w'.cell? ⟨b0, o0 + k, none⟩ = some (.int .u8 (K k)) ∧ w'.cell? ⟨b1, o1 + k, none⟩ = some (.int .i64 (I k)) ∧ w'.cell? ⟨b2, o2 + k, none⟩ = some (.string (S k))) (go_keep)
          (first | (go_at_call 25; refine (value_any _ _ _ _).mono ?_; rintro e w' ⟨rfl, rfl⟩))
        go_wp2
        go_roundw
        case rel =>
          obtain ⟨hxl, hxs⟩ := HX.out
          have ho : wr.ownsRow w.heap.size 45 3 (.slice (some ⟨w.heap.size, 0, none⟩) n n) n xs := HO.out
          have o1 := (((ho.alloc (.cells #[.int .u8 (K k), .int .i64 (I k), .string (S k)] 45)).stored (k * 3) (.int .u8 (K k))).1.stored (k * 3 + 1) (.int .i64 (I k))).1.stored (k * 3 + 2) (.string (S k))
          refine ⟨k + 1, _, by omega, by go_num, o1.1.drew, ?_, fun j hj => ?_⟩
          · exact ((((hBr.alloc (by omega) _).setCell (by simp) _).setCell (by simp) _).setCell (by simp) _).drew
          · by_cases e : j = k
            · subst e
              exact ⟨by simp [List.getElem?_set]; omega, by simp [List.getElem?_set]; omega, by simp [List.getElem?_set]; omega⟩
            · have := hxs j (by omega)
              rw [List.getElem?_set_ne (by omega), List.getElem?_set_ne (by omega), List.getElem?_set_ne (by omega), List.getElem?_set_ne (by omega), List.getElem?_set_ne (by omega), List.getElem?_set_ne (by omega), List.getElem?_set_ne (by omega), List.getElem?_set_ne (by omega), List.getElem?_set_ne (by omega)]
              exact this
        case measure => simp [intOf]; omega
      · have hkn : k = n := by omega
        subst hkn
        have R : KeyRow wr k K I S w.heap.size := fun i hi => ⟨by rw [hownr.cellAt _ (by omega)]; exact (hxs i hi).1, by rw [hownr.cellAt _ (by omega)]; exact (hxs i hi).2.1, by rw [hownr.cellAt _ (by omega)]; exact (hxs i hi).2.2⟩
        have HR : Hid _ := R
        clear hc0 hc1 hc2 hown hB hxs R hownr
        go_wp2
        go_ret
        exact ⟨rfl, hBr, HR.out⟩
end Go.Proofs.Qxb6600999a

import Derived.Test.Qxb6600999aA5
namespace Go.Proofs.Qxb6600999a
open Go.RowKit Go.WideMaps
set_option linter.unusedVariables false

theorem Try.info47 : (Try.prog.info? 47).map (fun i => (i.zero, i.size, i.bytes)) = some (some (.pointer none), 1, 8) := by kernel_rfl
theorem run_makeMap_hint (n : Nat) (w : World) : (Instr.makeMap 77 (some (.int .i64 n))).run Try.prog w = .ok (.map (some w.heap.size)) (w.alloc (.map #[] 0)) := by
  simp [Instr.makeMap, run_underlying Try.underlying77, asInt, asIntOf]
theorem plain3 (k : Nat) (hk : k ≤ 4096) : plainElem (H := Unit) Try.prog 3 (.int .i64 k) = some (.lit (.int .i64 k), []) := by
  refine plainElem_int Try.underlying3 ?_
  simp [Lit.wf, IntKind.min, IntKind.max, IntKind.bits, IntKind.signed]
  omega

/-- n pointers, none of them nil, in block R. -/
def PtrRow (w : World) (n : Nat) (R : Nat) : Prop := ∀ i, i < n → ∃ p, w.cell? ⟨R, i, none⟩ = some (.pointer (some p))
/-- What 'staged' is made of: keys in block B, rows in block R, places m. -/
structure StagedAt (w : World) (n : Nat) (K I : Nat → Int) (S : Nat → ByteArray) (B R P : Nat) (m : Option Nat) (kl : Nat → Lit) : Prop where
  keys : KeyRow w n K I S B
  rows : PtrRow w n R
  c0 : w.cell? ⟨P, 0, none⟩ = some (.slice (some ⟨B, 0, none⟩) n n)
  c1 : w.cell? ⟨P, 1, none⟩ = some (.slice (some ⟨R, 0, none⟩) n n)
  c2 : w.cell? ⟨P, 2, none⟩ = some (.map m)
  places : ∀ M, m = some M → w.ownsMap Try.prog 45 (plainElem Try.prog 3) M n (Dm kl n)

theorem KeyRow.below {w w' : World} {n : Nat} {K I : Nat → Int} {S : Nat → ByteArray} {B : Nat} (h : KeyRow w n K I S B) (hb : Below w.heap.size w w') : KeyRow w' n K I S B := fun i hi => by
  obtain ⟨h0, h1, h2⟩ := h i hi
  exact ⟨by rw [hb.cell (p := ⟨B, i * 3, none⟩) (World.block_lt_of_cell? w _ h0)]; exact h0, by rw [hb.cell (p := ⟨B, i * 3 + 1, none⟩) (World.block_lt_of_cell? w _ h1)]; exact h1, by rw [hb.cell (p := ⟨B, i * 3 + 2, none⟩) (World.block_lt_of_cell? w _ h2)]; exact h2⟩
theorem PtrRow.below {w w' : World} {n R : Nat} (h : PtrRow w n R) (hb : Below w.heap.size w w') : PtrRow w' n R := fun i hi => by
  obtain ⟨p, h0⟩ := h i hi
  exact ⟨p, by rw [hb.cell (p := ⟨R, i, none⟩) (World.block_lt_of_cell? w _ h0)]; exact h0⟩
theorem cell_below {w w' : World} (hb : Below w.heap.size w w') {a : Addr} {v : Value} (h : w.cell? a = some v) : w'.cell? a = some v := by
  rw [hb.cell (p := a) (World.block_lt_of_cell? w _ h)]; exact h
theorem ownsMap_below {H : Type} {P : Program} {k : TypeId} {R : Value → Option (DataW H × List MemPlace)} {b n : Nat} {D : DataW H} {w w' : World} (h : w.ownsMap P k R b n D) (hb : Below w.heap.size w w') : w'.ownsMap P k R b n D := by
  have hlt := h.lt
  obtain ⟨es, clock, h1, F, hs, hD⟩ := h
  exact ⟨es, clock, (hb.block b hlt).trans h1, F, hs, hD⟩
theorem StagedAt.below {w w' : World} {n : Nat} {K I : Nat → Int} {S : Nat → ByteArray} {B R P : Nat} {m : Option Nat} {kl : Nat → Lit} (h : StagedAt w n K I S B R P m kl) (hb : Below w.heap.size w w') : StagedAt w' n K I S B R P m kl :=
  ⟨h.keys.below hb, h.rows.below hb, cell_below hb h.c0, cell_below hb h.c1, cell_below hb h.c2, fun M hM => ownsMap_below (h.places M hM) hb⟩

theorem makeStaged_any (a b : Option Addr) (n n1 m m1 : Nat) (c : Option Nat) (w : World) :
    Calls Try.prog 37 #[.slice a n n1, .slice b m m1, .map c] w fun e w' => e = .returned (.pointer (some ⟨w.heap.size, 0, none⟩)) ∧ w' = w.alloc (.cells #[.slice a n n1, .slice b m m1, .map c, .bool false, .int .u8 0, .int .i64 0, .string { data := #[] }, .pointer none, .slice none 0 0, .slice none 0 0, .bool false] 87) := by
  go_enter Try.func37, Try.ntmps37
  go_wp2
  go_ret
  exact ⟨rfl, rfl⟩

/-- The end of zzStaged: the struct is laid. -/
theorem staged_laid {w wr : World} {n : Nat} {K I : Nat → Int} {S : Nat → ByteArray} {B R : Nat} {m : Option Nat} {kl : Nat → Lit} (hK : KeyRow w n K I S B) (hB : Below w.heap.size w wr) (hR : PtrRow wr n R)
    (hm : ∀ M, m = some M → wr.ownsMap Try.prog 45 (plainElem Try.prog 3) M n (Dm kl n)) (r : List Value) :
    Below w.heap.size w (wr.alloc (.cells (.slice (some ⟨B, 0, none⟩) n n :: .slice (some ⟨R, 0, none⟩) n n :: .map m :: r).toArray 87)) ∧ StagedAt (wr.alloc (.cells (.slice (some ⟨B, 0, none⟩) n n :: .slice (some ⟨R, 0, none⟩) n n :: .map m :: r).toArray 87)) n K I S B R wr.heap.size m kl := by
  have hb1 : Below wr.heap.size wr (wr.alloc (.cells (.slice (some ⟨B, 0, none⟩) n n :: .slice (some ⟨R, 0, none⟩) n n :: .map m :: r).toArray 87)) := (Below.refl _ _).alloc (Nat.le_refl _) _
  refine ⟨hB.alloc hB.size _, ⟨(hK.below hB).below hb1, hR.below hb1, ?_, ?_, ?_, fun M hM => ownsMap_below (hm M hM) hb1⟩⟩
  all_goals
    unfold World.cell?
    rw [show (wr.alloc (.cells (.slice (some ⟨B, 0, none⟩) n n :: .slice (some ⟨R, 0, none⟩) n n :: .map m :: r).toArray 87)).heap[wr.heap.size]? = some (.cells (.slice (some ⟨B, 0, none⟩) n n :: .slice (some ⟨R, 0, none⟩) n n :: .map m :: r).toArray 87) from heap_alloc_new wr _]
    rfl

set_option maxHeartbeats 1600000 in
set_option maxRecDepth 100000 in
theorem staged_no (kl : Nat → Lit) (n : Nat) (K I : Nat → Int) (S : Nat → ByteArray) (B : Nat) (w : World) (hn : n ≤ 4096) (hK : KeyRow w n K I S B) :
    Calls Try.prog 28 #[.slice (some ⟨B, 0, none⟩) n n, .bool false] w fun e w' => ∃ R P m, e = .returned (.tuple #[.pointer (some ⟨P, 0, none⟩), .slice (some ⟨R, 0, none⟩) n n]) ∧ Below w.heap.size w w' ∧ StagedAt w' n K I S B R P m kl := by
  have HK : Hid _ := hK
  clear hK
  obtain ⟨i0, hi, hz0, hz1, hz2⟩ := info_parts Try.info47
  have hmk := run_makeMap_hint
  go_enter Try.func28, Try.ntmps28
  go_wp2_with (at_make; refine wpList_make_full _ rfl _ _ 52 rfl w.heap.size 47 i0 _ 1 Try.underlying52 hi hz0 hz1 _ _ _ _ n rfl rfl rfl rfl (by rw [hz2]; omega) (by unfold maxLen; omega) (by omega) ?_)
  intro w1 hown hgrow
  have hB : Below w.heap.size w w1 := (Below.refl _ _).grown hgrow (Nat.le_refl _) (by simp)
  clear hgrow
  go_wp2
  go_loopw [7] (fun i wr => ∃ (k : Nat) (xs : List Value), k ≤ n ∧ i = .int .i64 k ∧ wr.ownsRow w.heap.size 47 1 (.slice (some ⟨w.heap.size, 0, none⟩) n n) n xs ∧ Below w.heap.size w wr ∧ (∀ j, j < k → ∃ p, xs[j]? = some (.pointer (some p)))) (fun i _ => n - (intOf i).toNat)
  case atStart => exact ⟨0, _, by omega, rfl, hown, hB, fun j hj => by omega⟩
  case round =>
    obtain ⟨k, xs, hk, rfl, hownr, hBr, hxs⟩ := hrel
    have hxl : xs.length = n := by have := hownr.1; omega
    clear hown hB
    by_cases hlt : k < n
    · obtain ⟨x0, p0⟩ : ∃ x, wr.cell? ⟨w.heap.size, k, none⟩ = some x := ⟨xs[k]'(by omega), by rw [hownr.cellAt _ (by omega)]; simp⟩
      have y0 := World.new_ne wr _ p0
      have yw : w.heap.size ≤ wr.heap.size := hBr.size
      have pz0 : ∀ o : Obj, (wr.alloc o).cell? ⟨w.heap.size, k, none⟩ = some x0 := fun o => by rw [World.cell?_alloc_lt _ _ _ (World.block_lt_of_cell? wr _ p0)]; exact p0
      have fz : ∀ (o : Obj) (j : Nat), (wr.alloc o).frozen? ⟨w.heap.size, j, none⟩ = false := fun o j => frozen_alloc_lt _ _ _ (hownr.frozenAt j) y0
      have HX : Hid _ := And.intro hxl hxs
      have HO : Hid (wr.ownsRow w.heap.size 47 1 (.slice (some ⟨w.heap.size, 0, none⟩) n n) n xs) := hownr
      clear hxl hxs hownr
      go_wp2
      go_roundw
      case rel =>
        obtain ⟨hxl, hxs⟩ := HX.out
        have ho : wr.ownsRow w.heap.size 47 1 (.slice (some ⟨w.heap.size, 0, none⟩) n n) n xs := HO.out
        refine ⟨k + 1, _, by omega, by go_num, ((ho.alloc _).stored k (.pointer (some ⟨wr.heap.size, 0, none⟩))).1, (hBr.alloc (by omega) _).setCell (by simp) _, fun j hj => ?_⟩
        by_cases e : j = k
        · subst e
          exact ⟨_, by rw [List.getElem?_set_self (by omega)]⟩
        · rw [List.getElem?_set_ne (by omega)]
          exact hxs j (by omega)
      case measure => simp [intOf]; omega
    · have hkn : k = n := by omega
      subst hkn
      have hR : PtrRow wr k w.heap.size := fun i hi => by
        obtain ⟨p, hp⟩ := hxs i hi
        exact ⟨p, by rw [hownr.cellAt _ (by omega)]; exact hp⟩
      have HR : Hid _ := hR
      clear hxs hxl hR hownr
      go_wp2_with (go_at_call 37; refine (makeStaged_any _ _ _ _ _ _ _ _).mono ?_; rintro e w' ⟨rfl, rfl⟩)
      go_ret2
      obtain ⟨h1, h2⟩ := staged_laid (kl := kl) (m := none) HK.out hBr HR.out (fun M h => by cases h) [.bool false, .int .u8 0, .int .i64 0, .string { data := #[] }, .pointer none, .slice none 0 0, .slice none 0 0, .bool false]
      exact ⟨_, _, _, rfl, h1, h2⟩

set_option maxHeartbeats 1600000 in
set_option maxRecDepth 100000 in
theorem staged_yes (kl : Nat → Lit) (n : Nat) (K I : Nat → Int) (S : Nat → ByteArray) (B : Nat) (w : World) (hn : n ≤ 4096) (hK : KeyRow w n K I S B) (ht : Tells K I S n kl) :
    Calls Try.prog 28 #[.slice (some ⟨B, 0, none⟩) n n, .bool true] w fun e w' => ∃ R P m, e = .returned (.tuple #[.pointer (some ⟨P, 0, none⟩), .slice (some ⟨R, 0, none⟩) n n]) ∧ Below w.heap.size w w' ∧ StagedAt w' n K I S B R P m kl := by
  have HK : Hid _ := hK
  have HT : Hid _ := ht
  clear hK ht
  obtain ⟨i0, hi, hz0, hz1, hz2⟩ := info_parts Try.info47
  have hmk := run_makeMap_hint
  go_enter Try.func28, Try.ntmps28
  go_wp2_with (at_make; refine wpList_make_full _ rfl _ _ 52 rfl w.heap.size 47 i0 _ 1 Try.underlying52 hi hz0 hz1 _ _ _ _ n rfl rfl rfl rfl (by rw [hz2]; omega) (by unfold maxLen; omega) (by omega) ?_)
  intro w1 hown hgrow
  have hB : Below w.heap.size w w1 := (Below.refl _ _).grown hgrow (Nat.le_refl _) (by simp)
  clear hgrow
  go_wp2
  go_loopw [7] (fun i wr => ∃ (k : Nat) (xs : List Value), k ≤ n ∧ i = .int .i64 k ∧ wr.ownsRow w.heap.size 47 1 (.slice (some ⟨w.heap.size, 0, none⟩) n n) n xs ∧ Below w.heap.size w wr ∧ (∀ j, j < k → ∃ p, xs[j]? = some (.pointer (some p)))) (fun i _ => n - (intOf i).toNat)
  case atStart => exact ⟨0, _, by omega, rfl, hown, hB, fun j hj => by omega⟩
  case round =>
    obtain ⟨k, xs, hk, rfl, hownr, hBr, hxs⟩ := hrel
    have hxl : xs.length = n := by have := hownr.1; omega
    clear hown hB
    by_cases hlt : k < n
    · obtain ⟨x0, p0⟩ : ∃ x, wr.cell? ⟨w.heap.size, k, none⟩ = some x := ⟨xs[k]'(by omega), by rw [hownr.cellAt _ (by omega)]; simp⟩
      have y0 := World.new_ne wr _ p0
      have yw : w.heap.size ≤ wr.heap.size := hBr.size
      have pz0 : ∀ o : Obj, (wr.alloc o).cell? ⟨w.heap.size, k, none⟩ = some x0 := fun o => by rw [World.cell?_alloc_lt _ _ _ (World.block_lt_of_cell? wr _ p0)]; exact p0
      have fz : ∀ (o : Obj) (j : Nat), (wr.alloc o).frozen? ⟨w.heap.size, j, none⟩ = false := fun o j => frozen_alloc_lt _ _ _ (hownr.frozenAt j) y0
      have HX : Hid _ := And.intro hxl hxs
      have HO : Hid (wr.ownsRow w.heap.size 47 1 (.slice (some ⟨w.heap.size, 0, none⟩) n n) n xs) := hownr
      clear hxl hxs hownr
      go_wp2
      go_roundw
      case rel =>
        obtain ⟨hxl, hxs⟩ := HX.out
        have ho : wr.ownsRow w.heap.size 47 1 (.slice (some ⟨w.heap.size, 0, none⟩) n n) n xs := HO.out
        refine ⟨k + 1, _, by omega, by go_num, ((ho.alloc _).stored k (.pointer (some ⟨wr.heap.size, 0, none⟩))).1, (hBr.alloc (by omega) _).setCell (by simp) _, fun j hj => ?_⟩
        by_cases e : j = k
        · subst e
          exact ⟨_, by rw [List.getElem?_set_self (by omega)]⟩
        · rw [List.getElem?_set_ne (by omega)]
          exact hxs j (by omega)
      case measure => simp [intOf]; omega
    · have hkn : k = n := by omega
      subst hkn
      have hR : PtrRow wr k w.heap.size := fun i hi => by
        obtain ⟨p, hp⟩ := hxs i hi
        exact ⟨p, by rw [hownr.cellAt _ (by omega)]; exact hp⟩
      have HR : Hid _ := hR
      clear hxs hxl hR hownr
      obtain ⟨wo, hwo⟩ : ∃ x, x = wr := ⟨_, rfl⟩
      subst hwo
      go_wp2
      go_loopw [9] (fun i ws => ∃ (j : Nat), j ≤ k ∧ i = .int .i64 j ∧ ws.ownsMap Try.prog 45 (plainElem Try.prog 3) wo.heap.size j (Dm kl j) ∧ Below wo.heap.size wo ws) (fun i _ => k - (intOf i).toNat)
      case atStart => exact ⟨0, by omega, rfl, World.ownsMap_made wo _ _ _, (Below.refl _ _).alloc (Nat.le_refl _) _⟩
      case round =>
        obtain ⟨j, hj, rfl, hM, hBs⟩ := hrel
        by_cases hjl : j < k
        · obtain ⟨g0, g1, g2⟩ := (KeyRow.below (KeyRow.below HK.out hBr) hBs) j hjl
          have hkey : keyOf Try.prog 45 (keyVal (K j) (I j) (S j)) = some (kl j) := HT.out j hjl
          unfold keyVal at hkey
          go_wp2_with (at_mapUpdate; refine wpList_mapUpdate_own _ rfl _ _ _ 77 rfl 45 3 Try.keyed Try.underlying77 _ wo.heap.size j (Dm kl j) rfl hM (by unfold maxLen; omega) _ _ (kl j) rfl rfl hkey (.lit (.int .i64 j)) [] (plain3 j (by omega)) ?_; intro w2 hM2 hg2)
          go_roundw
          case rel => exact ⟨j + 1, by omega, by go_num, hM2, hBs.grown hg2 hBs.size (by intro q hq; cases hq; exact Nat.le_refl _)⟩
          case measure => simp [intOf]; omega
        · have hjn : j = k := by omega
          subst hjn
          go_wp2_with (go_at_call 37; refine (makeStaged_any _ _ _ _ _ _ _ _).mono ?_; rintro e w' ⟨rfl, rfl⟩)
          go_ret2
          obtain ⟨h1, h2⟩ := staged_laid (kl := kl) (m := some wo.heap.size) HK.out (hBr.trans (hBs.mono hBr.size)) (PtrRow.below HR.out hBs) (fun M h => by cases h; exact hM) [.bool false, .int .u8 0, .int .i64 0, .string { data := #[] }, .pointer none, .slice none 0 0, .slice none 0 0, .bool false]
          exact ⟨_, _, _, rfl, h1, h2⟩
end Go.Proofs.Qxb6600999a

import Derived.Test.Qxb6602276aA7
import Derived.Deep.DeepCutAuto
namespace Go.Proofs.Qxb6602276a
open Go.RowKit
set_option linter.unusedVariables false
set_option linter.unusedSimpArgs false

set_option maxRecDepth 100000 in
set_option maxHeartbeats 16000000 in
theorem domain_any (s t : ByteArray) (a1 a2 a3 a4 : Option Addr) (n n2 n3 n4 k1 k2 k3 k4 : Nat) (f1 f2 f3 f4 : Nat → Int) (b1 b2 b3 b4 : Nat) (tok txt skip : Int) (w : World)
    (HLAY : Hid (∀ w : World, Calls Try.prog 10 #[.string s, .int .i64 (t.size : Int)] w fun e w' => LayRet w s (t.size : Int) e w'))
    (hs : s.size ≤ 1048576) (ht : t.size ≤ 1048576) (hn1 : n ≤ 131072) (hn2 : n2 ≤ 131072) (hn3 : n3 ≤ 131072) (hn4 : n4 ≤ 131072)
    (A1 : Hid (0 < n → a1 = some ⟨b1, 0, none⟩)) (A2 : Hid (0 < n2 → a2 = some ⟨b2, 0, none⟩)) (A3 : Hid (0 < n3 → a3 = some ⟨b3, 0, none⟩)) (A4 : Hid (0 < n4 → a4 = some ⟨b4, 0, none⟩))
    (R1 : Hid (∀ i, i < n → w.cell? ⟨b1, i, none⟩ = some (.int .i64 (f1 i)))) (R2 : Hid (∀ i, i < n2 → w.cell? ⟨b2, i, none⟩ = some (.int .i64 (f2 i)))) (R3 : Hid (∀ i, i < n3 → w.cell? ⟨b3, i, none⟩ = some (.int .i64 (f3 i)))) (R4 : Hid (∀ i, i < n4 → w.cell? ⟨b4, i, none⟩ = some (.int .i64 (f4 i)))) :
    Calls Try.prog 7 #[.string s, .string t, .slice a1 n k1, .slice a2 n2 k2, .slice a3 n3 k3, .slice a4 n4 k4, .int .i64 tok, .int .i64 txt, .int .i64 skip] w fun e w' => DomRet w s (t.size : Int) n n2 n3 n4 f1 f2 f3 f4 tok txt skip e w' := by
  obtain ⟨i3, hi3, z30, z31, z32⟩ := info_parts Try.info3
  go_enter Try.func7, Try.ntmps7
  go_upto_region 2 with ((go_at_call 10; refine (HLAY.out _).mono ?_; rintro e wB ⟨hBel, d, g0, g1, g2, g3, g4, rfl, hd⟩; unfold fiveS))
  have hLZ : LZ s w (wB.alloc (.cells (fiveS (s.size + 1) g0 g1 g2 g3 g4) 27)) wB.heap.size g0 g1 g2 g3 g4 := LZ.start hBel
  have hBC : Below wB.heap.size wB (wB.alloc (.cells (fiveS (s.size + 1) g0 g1 g2 g3 g4) 27)) := (Below.refl _ _).alloc (Nat.le_refl _) _
  have hAB : Below w.heap.size w wB := ((Below.refl w.heap.size w).alloc (Nat.le_refl _) (.cells Z27 27)).trans (hBel.mono (by simp))
  unfold fiveS at hLZ hBC
  generalize wB.alloc (.cells #[.slice (some ⟨g0, 0, none⟩) (s.size + 1) (s.size + 1), .slice (some ⟨g1, 0, none⟩) (s.size + 1) (s.size + 1), .slice (some ⟨g2, 0, none⟩) (s.size + 1) (s.size + 1), .slice (some ⟨g3, 0, none⟩) (s.size + 1) (s.size + 1), .slice (some ⟨g4, 0, none⟩) (s.size + 1) (s.size + 1)] 27) = wC at hLZ hBC ⊢
  clear hBel
  have HD : Hid (d = true → ∃ (m : Nat) (st : Nat → Bool) (kd tx af ta : Nat → Int), Lay s (t.size : Int) m st kd tx af ta ∧ ∀ p, p < s.size + 1 → wB.cell? ⟨g0, p, none⟩ = some (.bool (st p)) ∧ wB.cell? ⟨g1, p, none⟩ = some (.int .i64 (kd p)) ∧ wB.cell? ⟨g2, p, none⟩ = some (.int .i64 (tx p)) ∧ wB.cell? ⟨g3, p, none⟩ = some (.int .i64 (af p)) ∧ wB.cell? ⟨g4, p, none⟩ = some (.int .i64 (ta p))) := hd
  have HBC : Hid (Below wB.heap.size wB wC ∧ Below w.heap.size w wB) := ⟨hBC, hAB⟩
  clear hd hBC hAB
  obtain ⟨gL, hgL⟩ : ∃ x, x = wB.heap.size := ⟨_, rfl⟩
  have HBC0 : Hid (gL = wB.heap.size) := hgL
  rw [← hgL] at HBC hLZ ⊢
  clear hgL
  have HLW : Hid (LZ s w wC gL g0 g1 g2 g3 g4) := hLZ
  clear hLZ
  by_cases hok : d = true ∧ n2 = n ∧ n3 = n ∧ n4 = n
  · obtain ⟨rfl, rfl, rfl, rfl⟩ := hok
    obtain ⟨M, st, kd, tx, af, ta, hLy, hcl⟩ := HD.out rfl
    have HLy : Hid (Lay s (t.size : Int) M st kd tx af ta) := hLy
    have HLW0 : Hid (LW s w wC gL g0 g1 g2 g3 g4 st kd tx af ta n4 f1 f2 f3 f4 b1 b2 b3 b4) := by
      have hwc : Below w.heap.size w wC := HLW.out.bel
      have hcl' : ∀ {a : Addr} {v : Value}, wB.cell? a = some v → wC.cell? a = some v := fun {a v} h => by
        have h1 := World.block_lt_of_cell? wB _ h
        rw [HBC.out.1.cell (p := a) (by rw [HBC0.out]; exact h1)]; exact h
      refine ⟨HLW.out, fun p hp => ?_, fun i hi => cell_below hwc (R1.out i hi), fun i hi => cell_below hwc (R2.out i hi), fun i hi => cell_below hwc (R3.out i hi), fun i hi => cell_below hwc (R4.out i hi)⟩
      obtain ⟨x0, x1, x2, x3, x4⟩ := hcl p hp
      exact ⟨hcl' x0, hcl' x1, hcl' x2, hcl' x3, hcl' x4⟩
    clear hLy hcl HD HBC HLW R1 R2 R3 R4
    have HLWC := HLW0
    clear HLW0
    go_wp2
    go_loopw [25] (fun vi wr => ∃ k : Nat, k ≤ n4 ∧ vi = .int .i64 (k : Int) ∧ Hid (LW s w wr gL g0 g1 g2 g3 g4 st kd tx af ta n4 f1 f2 f3 f4 b1 b2 b3 b4) ∧ Hid ((∀ i, i < k → GoodN s M af ta f1 f2 f3 i) ∧ ∀ i, i + 1 < k → f1 i < f1 (i + 1))) (fun vi _ => n4 - (intOf vi).toNat)
    case atStart => exact ⟨0, by omega, rfl, HLWC, ⟨fun i hi => by omega, fun i hi => by omega⟩⟩
    case round =>
      obtain ⟨k, hk, rfl, HLW, HG⟩ := hrel
      by_cases hlt : k < n4
      · obtain rfl := A1.out (by omega)
        obtain rfl := A2.out (by omega)
        obtain rfl := A3.out (by omega)
        have hltI : (k : Int) < n4 := by omega
        have x1 := HLW.out.i1 k hlt
        have c0 := HLW.out.c0
        have c1 := HLW.out.c1
        have c2 := HLW.out.c2
        have c3 := HLW.out.c3
        have c4 := HLW.out.c4
        have r0 := HLW.out.r 0 (by omega)
        have r1 := HLW.out.r 1 (by omega)
        have r2 := HLW.out.r 2 (by omega)
        have r3 := HLW.out.r 3 (by omega)
        have r4 := HLW.out.r 4 (by omega)
        have rf := HLW.out.rf
        by_cases hp : f1 k < 0 ∨ (s.size : Int) ≤ f1 k
        · go_wp2
          all_goals
            refine bodyPost_ret (v := .tuple #[.agg (fiveS (s.size + 1) g0 g1 g2 g3 g4), .slice none 0 0, .bool false]) ?_ rfl ?_
            · simp [results, Try.results7, go_sem, fiveS, r0, r1, r2, r3, r4]
            · exact ⟨(((((HLW.out.bel.setCell (Nat.le_refl _) _).setCell (Nat.le_refl _) _).setCell (Nat.le_refl _) _).setCell (Nat.le_refl _) _).setCell (Nat.le_refl _) _), false, g0, g1, g2, g3, g4, _, rfl, fun h => by cases h⟩
        · obtain ⟨p, hpe⟩ : ∃ p : Nat, f1 k = p := ⟨(f1 k).toNat, by omega⟩
          have HPE : Hid (f1 k = (p : Int)) := hpe
          rw [hpe] at x1
          have hps : p < s.size := by omega
          have hpsI : (p : Int) < s.size := by omega
          clear hpe hp
          obtain ⟨y0, y1, y2, y3, y4⟩ := HLW.out.lay p (by omega)
          cases hst : st p with
          | false =>
            rw [hst] at y0
            clear hst
            go_wp2
            refine bodyPost_ret (v := .tuple #[.agg (fiveS (s.size + 1) g0 g1 g2 g3 g4), .slice none 0 0, .bool false]) ?_ rfl ?_
            · simp [results, Try.results7, go_sem, fiveS, r0, r1, r2, r3, r4]
            · exact ⟨(((((HLW.out.bel.setCell (Nat.le_refl _) _).setCell (Nat.le_refl _) _).setCell (Nat.le_refl _) _).setCell (Nat.le_refl _) _).setCell (Nat.le_refl _) _), false, g0, g1, g2, g3, g4, _, rfl, fun h => by cases h⟩
          | true =>
            rw [hst] at y0
            have HST : Hid (st p = true) := hst
            clear hst
            by_cases hkd : kd p = 2
            · rw [hkd] at y1
              have HKD : Hid (kd p = 2) := hkd
              clear hkd
              have x2 := HLW.out.i2 k hlt
              have x3 := HLW.out.i3 k hlt
              rcases Nat.eq_zero_or_pos k with hk0 | hk0
              · subst hk0
                by_cases e2 : f2 (0) = af p
                · by_cases e3 : f3 (0) = ta p
                  · have E2 : Hid (f2 (0) = af p ∧ f3 (0) = ta p) := ⟨e2, e3⟩
                    rw [e2] at x2
                    rw [e3] at x3
                    clear e2 e3
                    have HG2 : Hid ((∀ i, i < 0 + 1 → GoodN s M af ta f1 f2 f3 i) ∧ ∀ i, i + 1 < 0 + 1 → f1 i < f1 (i + 1)) := by
                      obtain ⟨kq, hkq, hpk⟩ := HLy.out.st1 p HST.out
                      refine ⟨fun i hi => ?_, fun i hi => ?_⟩
                      · by_cases e : i = 0
                        · subst e
                          refine ⟨kq, hkq, by rw [HPE.out, hpk], ?_, by rw [E2.out.1, hpk], by rw [E2.out.2, hpk]⟩
                          rw [← (HLy.out.kd1 kq hkq).1, ← hpk]
                          exact HKD.out
                        · exact HG.out.1 i (by omega)
                      · by_cases e : i + 1 = 0
                        · omega
                        · exact HG.out.2 i (by omega)
                    go_wp2
                    go_quiet (fail)
                    go_wp2
                    go_roundw
                    case rel => exact ⟨1, by omega, by go_num, HLW.out.step (below_drewN _ _ _), HG2.out⟩
                    case measure => simp [intOf]; omega
                  · have e3' : (f3 (0) != ta p) = true := by simpa using e3
                    rw [e2] at x2
                    clear e2 e3
                    go_wp2
                    go_quiet (fail)
                    go_wp2
                    refine bodyPost_ret (v := .tuple #[.agg (fiveS (s.size + 1) g0 g1 g2 g3 g4), .slice none 0 0, .bool false]) ?_ rfl ?_
                    · simp [results, Try.results7, go_sem, fiveS, r0, r1, r2, r3, r4]
                    · exact ⟨((((((HLW.out.step (below_drewN _ _ _)).bel.setCell (Nat.le_refl _) _).setCell (Nat.le_refl _) _).setCell (Nat.le_refl _) _).setCell (Nat.le_refl _) _).setCell (Nat.le_refl _) _), false, g0, g1, g2, g3, g4, _, rfl, fun h => by cases h⟩
                · have e2' : (f2 (0) != af p) = true := by simpa using e2
                  clear e2
                  go_wp2
                  go_quiet (fail)
                  go_wp2
                  refine bodyPost_ret (v := .tuple #[.agg (fiveS (s.size + 1) g0 g1 g2 g3 g4), .slice none 0 0, .bool false]) ?_ rfl ?_
                  · simp [results, Try.results7, go_sem, fiveS, r0, r1, r2, r3, r4]
                  · exact ⟨((((((HLW.out.step (below_drewN _ _ _)).bel.setCell (Nat.le_refl _) _).setCell (Nat.le_refl _) _).setCell (Nat.le_refl _) _).setCell (Nat.le_refl _) _).setCell (Nat.le_refl _) _), false, g0, g1, g2, g3, g4, _, rfl, fun h => by cases h⟩
              · obtain ⟨j, rfl⟩ : ∃ j, k = j + 1 := ⟨k - 1, by omega⟩
                have x1' := HLW.out.i1 j (by omega)
                rw [show ((j + 1 : Nat) : Int) = (j : Int) + 1 from rfl] at *
                by_cases hlj : f1 j < (p : Int)
                · have HLJ : Hid (f1 j < (p : Int)) := hlj
                  by_cases e2 : f2 (j + 1) = af p
                  · by_cases e3 : f3 (j + 1) = ta p
                    · have E2 : Hid (f2 (j + 1) = af p ∧ f3 (j + 1) = ta p) := ⟨e2, e3⟩
                      rw [e2] at x2
                      rw [e3] at x3
                      clear e2 e3
                      have HG2 : Hid ((∀ i, i < j + 1 + 1 → GoodN s M af ta f1 f2 f3 i) ∧ ∀ i, i + 1 < j + 1 + 1 → f1 i < f1 (i + 1)) := by
                        obtain ⟨kq, hkq, hpk⟩ := HLy.out.st1 p HST.out
                        refine ⟨fun i hi => ?_, fun i hi => ?_⟩
                        · by_cases e : i = j + 1
                          · subst e
                            refine ⟨kq, hkq, by rw [HPE.out, hpk], ?_, by rw [E2.out.1, hpk], by rw [E2.out.2, hpk]⟩
                            rw [← (HLy.out.kd1 kq hkq).1, ← hpk]
                            exact HKD.out
                          · exact HG.out.1 i (by omega)
                        · by_cases e : i + 1 = j + 1
                          · rw [e, HPE.out, show i = j by omega]; exact HLJ.out
                          · exact HG.out.2 i (by omega)
                      go_wp2
                      go_quiet (fail)
                      go_wp2
                      go_roundw
                      case rel => exact ⟨j + 1 + 1, by omega, by go_num, HLW.out.step (below_drewN _ _ _), HG2.out⟩
                      case measure => simp [intOf]; omega
                    · have e3' : (f3 (j + 1) != ta p) = true := by simpa using e3
                      rw [e2] at x2
                      clear e2 e3
                      go_wp2
                      go_quiet (fail)
                      go_wp2
                      refine bodyPost_ret (v := .tuple #[.agg (fiveS (s.size + 1) g0 g1 g2 g3 g4), .slice none 0 0, .bool false]) ?_ rfl ?_
                      · simp [results, Try.results7, go_sem, fiveS, r0, r1, r2, r3, r4]
                      · exact ⟨((((((HLW.out.step (below_drewN _ _ _)).bel.setCell (Nat.le_refl _) _).setCell (Nat.le_refl _) _).setCell (Nat.le_refl _) _).setCell (Nat.le_refl _) _).setCell (Nat.le_refl _) _), false, g0, g1, g2, g3, g4, _, rfl, fun h => by cases h⟩
                  · have e2' : (f2 (j + 1) != af p) = true := by simpa using e2
                    clear e2
                    go_wp2
                    go_quiet (fail)
                    go_wp2
                    refine bodyPost_ret (v := .tuple #[.agg (fiveS (s.size + 1) g0 g1 g2 g3 g4), .slice none 0 0, .bool false]) ?_ rfl ?_
                    · simp [results, Try.results7, go_sem, fiveS, r0, r1, r2, r3, r4]
                    · exact ⟨((((((HLW.out.step (below_drewN _ _ _)).bel.setCell (Nat.le_refl _) _).setCell (Nat.le_refl _) _).setCell (Nat.le_refl _) _).setCell (Nat.le_refl _) _).setCell (Nat.le_refl _) _), false, g0, g1, g2, g3, g4, _, rfl, fun h => by cases h⟩
                · go_wp2
                  refine bodyPost_ret (v := .tuple #[.agg (fiveS (s.size + 1) g0 g1 g2 g3 g4), .slice none 0 0, .bool false]) ?_ rfl ?_
                  · simp [results, Try.results7, go_sem, fiveS, r0, r1, r2, r3, r4]
                  · exact ⟨(((((HLW.out.bel.setCell (Nat.le_refl _) _).setCell (Nat.le_refl _) _).setCell (Nat.le_refl _) _).setCell (Nat.le_refl _) _).setCell (Nat.le_refl _) _), false, g0, g1, g2, g3, g4, _, rfl, fun h => by cases h⟩
            · have hkd' : (kd p != 2) = true := by simpa using hkd
              clear hkd
              go_wp2
              refine bodyPost_ret (v := .tuple #[.agg (fiveS (s.size + 1) g0 g1 g2 g3 g4), .slice none 0 0, .bool false]) ?_ rfl ?_
              · simp [results, Try.results7, go_sem, fiveS, r0, r1, r2, r3, r4]
              · exact ⟨(((((HLW.out.bel.setCell (Nat.le_refl _) _).setCell (Nat.le_refl _) _).setCell (Nat.le_refl _) _).setCell (Nat.le_refl _) _).setCell (Nat.le_refl _) _), false, g0, g1, g2, g3, g4, _, rfl, fun h => by cases h⟩
      · have hkn : k = n4 := by omega
        subst hkn
        obtain ⟨wD, hwD⟩ : ∃ x, x = wr := ⟨_, rfl⟩
        subst hwD
        clear HLWC
        have HLD := HLW
        clear HLW
        go_wp2_with (at_make; refine wpList_make_full _ rfl _ _ 22 rfl wD.heap.size 3 i3 _ 1 Try.underlying22 hi3 z30 z31 _ _ _ _ (s.size + 1) rfl rfl rfl rfl (by rw [z32]; omega) (by unfold maxLen; omega) (by omega) ?_)
        intro w2 hown hgrow
        have hb2 : Below wD.heap.size wD w2 := (Below.refl _ _).grown hgrow (Nat.le_refl _) (by simp)
        rw [toList_madeCells_one] at hown
        have HB0 : Hid (BS s k f1 wD w2 0 0 (fun _ => 0) (List.replicate (s.size + 1) (.int .i64 0))) := ⟨hown, hb2, by omega, fun i hi => by omega, fun q hq => by omega⟩
        clear hown hgrow hb2
        go_wp2
        go_loopw [28, 29] (fun vj vp wr => ∃ (p j : Nat) (bf : Nat → Nat) (xs : List Value), p ≤ s.size + 1 ∧ vj = .int .i64 (j : Int) ∧ vp = .int .i64 (p : Int) ∧ Hid (BS s k f1 wD wr p j bf xs)) (fun _ vp _ => s.size + 1 - (intOf vp).toNat)
        case atStart => exact ⟨0, 0, _, _, by omega, rfl, rfl, HB0⟩
        case round =>
          obtain ⟨p, j, bf, xs, hp, rfl, rfl, HB⟩ := hrel
          by_cases hpl : p ≤ s.size
          · have hjn := HB.out.jn
            have hplI : (p : Int) ≤ s.size := by omega
            obtain ⟨wo, hwo⟩ : ∃ x, x = wr := ⟨_, rfl⟩
            subst hwo
            go_wp2
            go_loopw [28] (fun vj wx => wo = wx ∧ ∃ j' : Nat, j' ≤ k ∧ vj = .int .i64 (j' : Int) ∧ Hid (∀ i, i < j' → f1 i < p)) (fun vj _ => k - (intOf vj).toNat)
            case atStart => exact ⟨rfl, j, hjn, rfl, HB.out.jl⟩
            case round =>
              obtain ⟨hwx, j', hj', rfl, HJ⟩ := hrel
              subst hwx
              have hxl : xs.length = s.size + 1 := by have := HB.out.own.1; omega
              have hfr := HB.out.own.frozenAt p
              have hcell : wo.cell? ⟨wD.heap.size, p, none⟩ = some (xs[p]'(by omega)) := by rw [HB.out.own.cellAt p (by omega)]; simp
              by_cases hjk : j' < k
              · have hjkI : (j' : Int) < k := by omega
                obtain rfl := A1.out (by omega)
                have x1 := (HLD.out.step HB.out.bel).i1 j' hjk
                by_cases hf : f1 j' < (p : Int)
                · have HJ2 : Hid (∀ i, i < j' + 1 → f1 i < p) := fun i hi => by
                    by_cases e : i = j'
                    · subst e; exact hf
                    · exact HJ.out i (by omega)
                  go_wp2
                  go_roundw
                  case rel => exact ⟨trivial, j' + 1, by omega, by go_num, HJ2⟩
                  case measure => simp [intOf]; omega
                · have HB2 : Hid (BS s k f1 wD (wo.setCell ⟨wD.heap.size, p, none⟩ (.int .i64 (j' : Int))) (p + 1) j' (upd bf p j') (xs.set p (.int .i64 (j' : Int)))) := HB.out.put hpl ⟨hj', HJ.out, fun _ => by omega⟩
                  go_wp2
                  go_roundw
                  case rel => exact ⟨p + 1, j', _, _, by omega, by go_num, by go_num, HB2.out⟩
                  case measure => simp [intOf]; omega
              · have HB2 : Hid (BS s k f1 wD (wo.setCell ⟨wD.heap.size, p, none⟩ (.int .i64 (j' : Int))) (p + 1) j' (upd bf p j') (xs.set p (.int .i64 (j' : Int)))) := HB.out.put hpl ⟨hj', HJ.out, fun h => absurd h hjk⟩
                have hjkI : ¬ (j' : Int) < k := by omega
                go_wp2
                go_roundw
                case rel => exact ⟨p + 1, j', _, _, by omega, by go_num, by go_num, HB2.out⟩
                case measure => simp [intOf]; omega
          · obtain rfl : p = s.size + 1 := by omega
            have HLE : Hid (LW s w wr gL g0 g1 g2 g3 g4 st kd tx af ta k f1 f2 f3 f4 b1 b2 b3 b4) := HLD.out.step HB.out.bel
            have HBF : Hid (∀ q, q < s.size + 1 → wr.cell? ⟨wD.heap.size, q, none⟩ = some (.int .i64 (bf q))) := fun q hq => HB.out.cell hq
            have HIB : Hid (∀ q : Nat, q < s.size + 1 → IsBf f1 k q (bf q)) := fun q hq => (HB.out.dn q hq).2
            obtain ⟨wE, hwE⟩ : ∃ x, x = wr := ⟨_, rfl⟩
            subst hwE
            clear HB HB0 HLD
            generalize wD.heap.size = gb at HBF ⊢
            rw [show ((s.size + 1 : Nat) : Int) = (s.size : Int) + 1 from rfl]
            go_wp2
            go_loopw [30] (fun vi wr => ∃ i : Nat, i ≤ k ∧ vi = .int .i64 (i : Int) ∧ Hid (LW s w wr gL g0 g1 g2 g3 g4 st kd tx af ta k f1 f2 f3 f4 b1 b2 b3 b4) ∧ Hid (∀ q, q < s.size + 1 → wr.cell? ⟨gb, q, none⟩ = some (.int .i64 (bf q))) ∧ Hid (∀ i', i' < i → f4 i' = (bf (f2 i').toNat : Int) - i' - 1)) (fun vi _ => k - (intOf vi).toNat)
            case atStart => exact ⟨0, by omega, rfl, HLE, HBF, fun i hi => by omega⟩
            case round =>
              clear HLE HBF
              obtain ⟨i, hi, rfl, HLW, HBF, HI⟩ := hrel
              have c0 := HLW.out.c0
              have c1 := HLW.out.c1
              have c2 := HLW.out.c2
              have c3 := HLW.out.c3
              have c4 := HLW.out.c4
              have r0 := HLW.out.r 0 (by omega)
              have r1 := HLW.out.r 1 (by omega)
              have r2 := HLW.out.r 2 (by omega)
              have r3 := HLW.out.r 3 (by omega)
              have r4 := HLW.out.r 4 (by omega)
              have rf := HLW.out.rf
              by_cases hik : i < k
              · have hikI : (i : Int) < k := by omega
                obtain rfl := A2.out (by omega)
                obtain rfl := A4.out (by omega)
                obtain ⟨q, hq, hqe⟩ : ∃ q : Nat, q < s.size + 1 ∧ f2 i = q := by
                  obtain ⟨kq, hkq, e1, e2, e3, e4⟩ := HG.out.1 i hik
                  obtain ⟨ee, he, _, h1, _⟩ := HLy.out.cl kq hkq e2
                  refine ⟨P s ee, ?_, by rw [e3, h1]⟩
                  have hf := HLy.out.fin
                  rcases Nat.lt_or_ge ee M with h | h
                  · have := P_mono s h; omega
                  · obtain rfl : ee = M := by omega
                    omega
                have x2 := HLW.out.i2 i hik
                rw [hqe] at x2
                have x4 := HLW.out.i4 i hik
                have xb := HBF.out q hq
                have hqI : (q : Int) < s.size + 1 := by omega
                have hbq := (HIB.out q hq).le
                obtain ⟨bq, hbqe⟩ : ∃ b, b = bf q := ⟨_, rfl⟩
                rw [← hbqe] at xb hbq
                have hw1 : wrap64 ((bq : Int) - i) = (bq : Int) - i := by unfold wrap64; omega
                have hw2 : wrap64 ((bq : Int) - i - 1) = (bq : Int) - i - 1 := by unfold wrap64; omega
                have HQ : Hid (f2 i = (q : Int) ∧ bq = bf q) := ⟨hqe, hbqe⟩
                clear hqe hbqe
                by_cases hf4 : f4 i = (bq : Int) - i - 1
                · have HI2 : Hid (∀ i', i' < i + 1 → f4 i' = (bf (f2 i').toNat : Int) - i' - 1) := fun i' hi' => by
                    by_cases e : i' = i
                    · subst e; rw [hf4, HQ.out.1, Int.toNat_natCast, HQ.out.2]
                    · exact HI.out i' (by omega)
                  have hf4' : (f4 i != (bq : Int) - i - 1) = false := by simpa using hf4
                  clear hf4
                  go_wp2
                  go_quiet (fail)
                  go_wp2
                  go_roundw
                  case rel => exact ⟨i + 1, by omega, by go_num, HLW.out.step (below_drewN _ _ _), fun q hq => cell_below (below_drewN _ _ _) (HBF.out q hq), HI2⟩
                  case measure => simp [intOf]; omega
                · have hf4' : (f4 i != (bq : Int) - i - 1) = true := by simpa using hf4
                  clear hf4
                  go_wp2
                  go_quiet (fail)
                  go_wp2
                  refine bodyPost_ret (v := .tuple #[.agg (fiveS (s.size + 1) g0 g1 g2 g3 g4), .slice none 0 0, .bool false]) ?_ rfl ?_
                  · simp [results, Try.results7, go_sem, fiveS, r0, r1, r2, r3, r4]
                  · exact ⟨((((((HLW.out.step (below_drewN _ _ _)).bel.setCell (Nat.le_refl _) _).setCell (Nat.le_refl _) _).setCell (Nat.le_refl _) _).setCell (Nat.le_refl _) _).setCell (Nat.le_refl _) _), false, g0, g1, g2, g3, g4, _, rfl, fun h => by cases h⟩
              · obtain rfl : i = k := by omega
                by_cases ht0 : tok < 0 ∨ (s.size : Int) ≤ tok
                · go_wp2
                  all_goals
                    refine bodyPost_ret (v := .tuple #[.agg (fiveS (s.size + 1) g0 g1 g2 g3 g4), .slice none 0 0, .bool false]) ?_ rfl ?_
                    · simp [results, Try.results7, go_sem, fiveS, r0, r1, r2, r3, r4]
                    · exact ⟨(((((HLW.out.bel.setCell (Nat.le_refl _) _).setCell (Nat.le_refl _) _).setCell (Nat.le_refl _) _).setCell (Nat.le_refl _) _).setCell (Nat.le_refl _) _), false, g0, g1, g2, g3, g4, _, rfl, fun h => by cases h⟩
                · obtain ⟨tk, rfl⟩ : ∃ tk : Nat, tok = tk := ⟨tok.toNat, by omega⟩
                  have htk : tk < s.size := by omega
                  have htkI : (tk : Int) < s.size := by omega
                  clear ht0
                  obtain ⟨y0, y1, y2, y3, y4⟩ := HLW.out.lay tk (by omega)
                  have xb := HBF.out tk (by omega)
                  cases hst : st tk with
                  | false =>
                    rw [hst] at y0
                    clear hst
                    go_wp2
                    refine bodyPost_ret (v := .tuple #[.agg (fiveS (s.size + 1) g0 g1 g2 g3 g4), .slice none 0 0, .bool false]) ?_ rfl ?_
                    · simp [results, Try.results7, go_sem, fiveS, r0, r1, r2, r3, r4]
                    · exact ⟨(((((HLW.out.bel.setCell (Nat.le_refl _) _).setCell (Nat.le_refl _) _).setCell (Nat.le_refl _) _).setCell (Nat.le_refl _) _).setCell (Nat.le_refl _) _), false, g0, g1, g2, g3, g4, _, rfl, fun h => by cases h⟩
                  | true =>
                    rw [hst] at y0
                    have HST : Hid (st tk = true) := hst
                    clear hst
                    by_cases hkd : kd tk = 2
                    · rw [hkd] at y1
                      have HKD : Hid (kd tk = 2) := hkd
                      clear hkd
                      by_cases e2 : txt = tx tk
                      · by_cases e3 : skip = (bf tk : Int)
                        · have HDOM : Hid (Dom s (t.size : Int) M st kd tx af ta i f1 f2 f3 f4 bf (tk : Int) txt skip) := by
                            refine ⟨HLy.out, HG.out.1, HG.out.2, HIB.out, HI.out, ?_⟩
                            obtain ⟨kq, hkq, hpk⟩ := HLy.out.st1 tk HST.out
                            have hh := HLy.out.kd1 kq hkq
                            refine ⟨kq, hkq, by rw [hpk], ?_, ?_, by rw [← hpk]; exact e3⟩
                            · rw [← hh.1, ← hpk]; exact HKD.out
                            · rw [← hh.2, ← hpk]; exact e2
                          subst e2
                          subst e3
                          have HF : Hid (∀ p, p < s.size + 1 → wr.cell? ⟨g3, p, none⟩ = some (.int .i64 (af p)) ∧ wr.cell? ⟨g4, p, none⟩ = some (.int .i64 (ta p)) ∧ wr.cell? ⟨gb, p, none⟩ = some (.int .i64 (bf p))) := fun p hp => ⟨(HLW.out.lay p hp).2.2.2.1, (HLW.out.lay p hp).2.2.2.2, HBF.out p hp⟩
                          have HNE : Hid (w.heap.size ≠ g3 ∧ w.heap.size ≠ g4 ∧ w.heap.size ≠ gb) := by
                            obtain ⟨z3, z4, zb⟩ := HF.out 0 (by omega)
                            refine ⟨fun e => ?_, fun e => ?_, fun e => ?_⟩
                            · rw [← e, r0] at z3; simp at z3
                            · rw [← e, r0] at z4; simp at z4
                            · rw [← e, r0] at zb; simp at zb
                          go_wp2
                          refine bodyPost_ret (v := .tuple #[.agg (fiveS (s.size + 1) g0 g1 g2 g3 g4), .slice (some ⟨gb, 0, none⟩) (s.size + 1) (s.size + 1), .bool true]) ?_ rfl ?_
                          · simp [results, Try.results7, go_sem, fiveS, r0, r1, r2, r3, r4]
                          · refine ⟨(((((HLW.out.bel.setCell (Nat.le_refl _) _).setCell (Nat.le_refl _) _).setCell (Nat.le_refl _) _).setCell (Nat.le_refl _) _).setCell (Nat.le_refl _) _), true, g0, g1, g2, g3, g4, _, rfl, fun _ => ⟨rfl, rfl, rfl, gb, rfl, M, st, kd, tx, af, ta, bf, HDOM.out, fun p hp => ?_⟩⟩
                            have far : ∀ (W : World) (gg j k : Nat) (v : Value), w.heap.size ≠ gg → (W.setCell ⟨w.heap.size, j, none⟩ v).cell? ⟨gg, k, none⟩ = W.cell? ⟨gg, k, none⟩ := fun W gg j k v hg => World.cell?_setCell_far _ _ _ _ (by show w.heap.size ≠ gg; exact hg)
                            obtain ⟨n3, n4', nb⟩ := HNE.out
                            rw [far _ _ _ _ _ n3, far _ _ _ _ _ n3, far _ _ _ _ _ n3, far _ _ _ _ _ n3, far _ _ _ _ _ n3, far _ _ _ _ _ n4', far _ _ _ _ _ n4', far _ _ _ _ _ n4', far _ _ _ _ _ n4', far _ _ _ _ _ n4', far _ _ _ _ _ nb, far _ _ _ _ _ nb, far _ _ _ _ _ nb, far _ _ _ _ _ nb, far _ _ _ _ _ nb]
                            exact HF.out p hp
                        · subst e2
                          have e3' : (skip != (bf tk : Int)) = true := by simpa using e3
                          clear e3
                          go_wp2
                          refine bodyPost_ret (v := .tuple #[.agg (fiveS (s.size + 1) g0 g1 g2 g3 g4), .slice none 0 0, .bool false]) ?_ rfl ?_
                          · simp [results, Try.results7, go_sem, fiveS, r0, r1, r2, r3, r4]
                          · exact ⟨(((((HLW.out.bel.setCell (Nat.le_refl _) _).setCell (Nat.le_refl _) _).setCell (Nat.le_refl _) _).setCell (Nat.le_refl _) _).setCell (Nat.le_refl _) _), false, g0, g1, g2, g3, g4, _, rfl, fun h => by cases h⟩
                      · have e2' : (txt != tx tk) = true := by simpa using e2
                        clear e2
                        go_wp2
                        refine bodyPost_ret (v := .tuple #[.agg (fiveS (s.size + 1) g0 g1 g2 g3 g4), .slice none 0 0, .bool false]) ?_ rfl ?_
                        · simp [results, Try.results7, go_sem, fiveS, r0, r1, r2, r3, r4]
                        · exact ⟨(((((HLW.out.bel.setCell (Nat.le_refl _) _).setCell (Nat.le_refl _) _).setCell (Nat.le_refl _) _).setCell (Nat.le_refl _) _).setCell (Nat.le_refl _) _), false, g0, g1, g2, g3, g4, _, rfl, fun h => by cases h⟩
                    · have hkd' : (kd tk != 2) = true := by simpa using hkd
                      clear hkd
                      go_wp2
                      refine bodyPost_ret (v := .tuple #[.agg (fiveS (s.size + 1) g0 g1 g2 g3 g4), .slice none 0 0, .bool false]) ?_ rfl ?_
                      · simp [results, Try.results7, go_sem, fiveS, r0, r1, r2, r3, r4]
                      · exact ⟨(((((HLW.out.bel.setCell (Nat.le_refl _) _).setCell (Nat.le_refl _) _).setCell (Nat.le_refl _) _).setCell (Nat.le_refl _) _).setCell (Nat.le_refl _) _), false, g0, g1, g2, g3, g4, _, rfl, fun h => by cases h⟩
  · have hok' : ¬ d = true ∨ ¬ n2 = n ∨ ¬ n3 = n ∨ ¬ n4 = n := by
      by_cases h1 : d = true
      · right; simp only [h1, true_and] at hok; omega
      · exact .inl h1
    clear hok
    have c0 := HLW.out.c0
    have c1 := HLW.out.c1
    have c2 := HLW.out.c2
    have c3 := HLW.out.c3
    have c4 := HLW.out.c4
    have r0 := HLW.out.r 0 (by omega)
    have r1 := HLW.out.r 1 (by omega)
    have r2 := HLW.out.r 2 (by omega)
    have r3 := HLW.out.r 3 (by omega)
    have r4 := HLW.out.r 4 (by omega)
    have rf := HLW.out.rf
    cases d with
    | false =>
      clear hok'
      go_wp2
      refine bodyPost_ret (v := .tuple #[.agg (fiveS (s.size + 1) g0 g1 g2 g3 g4), .slice none 0 0, .bool false]) ?_ rfl ?_
      · simp [results, Try.results7, go_sem, fiveS, r0, r1, r2, r3, r4]
      · exact ⟨(((((HLW.out.bel.setCell (Nat.le_refl _) _).setCell (Nat.le_refl _) _).setCell (Nat.le_refl _) _).setCell (Nat.le_refl _) _).setCell (Nat.le_refl _) _), false, g0, g1, g2, g3, g4, _, rfl, fun h => by cases h⟩
    | true =>
      have hok2 : ¬ n2 = n ∨ ¬ n3 = n ∨ ¬ n4 = n := by simpa using hok'
      clear hok'
      go_wp2
      all_goals
        refine bodyPost_ret (v := .tuple #[.agg (fiveS (s.size + 1) g0 g1 g2 g3 g4), .slice none 0 0, .bool false]) ?_ rfl ?_
        · simp [results, Try.results7, go_sem, fiveS, r0, r1, r2, r3, r4]
        · exact ⟨(((((HLW.out.bel.setCell (Nat.le_refl _) _).setCell (Nat.le_refl _) _).setCell (Nat.le_refl _) _).setCell (Nat.le_refl _) _).setCell (Nat.le_refl _) _), false, g0, g1, g2, g3, g4, _, rfl, fun h => by cases h⟩
end Go.Proofs.Qxb6602276a

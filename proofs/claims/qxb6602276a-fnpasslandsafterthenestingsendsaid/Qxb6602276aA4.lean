import Derived.Test.Qxb6602276aA6
namespace Go.Proofs.Qxb6602276a
open Go.RowKit
set_option linter.unusedVariables false

set_option maxRecDepth 100000 in
set_option maxHeartbeats 16000000 in
theorem layout_dev (s : ByteArray) (T : Int) (w : World) (hs : s.size ≤ 1048576) (hT : 0 ≤ T) (hT2 : T ≤ 1048576) :
    Calls Try.prog 10 #[.string s, .int .i64 T] w fun e w' => LayRet w s T e w' := by
  obtain ⟨i3, hi3, z30, z31, z32⟩ := info_parts Try.info3
  obtain ⟨i4, hi4, z40, z41, z42⟩ := info_parts Try.info4
  go_enter Try.func10, Try.ntmps10
  go_wp2
  refine wp_region_any (by kernel_rfl) ?_
  refine wpAny_inv (fun l a w' => ∃ v g, a = A10 s T w.heap.size s.size v ∧ LI s.size { (w.alloc (.cells Z27 27)) with drawn := w.drawn + 1 } l v g w') (by kernel_rfl) ?step ?done _ _ _ _ (by simp) (Nat.le_trans (left_le _) (by simp)) ⟨fun _ => undef, fun _ => 0, rfl, ?init⟩
  case init =>
    have hno : ∀ j, ¬ LB (Array.replicate 18 false) j := fun j h => by
      unfold LB at h
      rw [Array.getD_eq_getD_getElem?, Array.getElem?_replicate] at h
      split at h <;> simp at h
    exact ⟨Below.refl _ _, fun c _ hl => absurd hl (hno _), fun c _ hl => absurd hl (hno _), fun c _ hl => absurd hl (hno _), fun hl => absurd hl (hno _), fun hl => absurd hl (hno _), fun hl => absurd hl (hno _), fun i j _ _ hl => absurd hl (hno _)⟩
  case done =>
    rintro l a w' ⟨v, g, rfl, hI⟩ hall
    have hA : ∀ i, i < 18 → LB l i := fun i hi => hall i hi
    obtain ⟨m0, o0⟩ := hI.mak 0 (by omega) (hA 2 (by omega))
    obtain ⟨m1, o1⟩ := hI.mak 1 (by omega) (hA 5 (by omega))
    obtain ⟨m2, o2⟩ := hI.mak 2 (by omega) (hA 8 (by omega))
    obtain ⟨m3, o3⟩ := hI.mak 3 (by omega) (hA 11 (by omega))
    obtain ⟨m4, o4⟩ := hI.mak 4 (by omega) (hA 14 (by omega))
    have h7 := (hI.al (hA 16 (by omega))).1
    have hst := (hI.st (hA 17 (by omega))).2.2
    have hsep : ∀ i j, i < 6 → j < 6 → i ≠ j → g i ≠ g j := fun i j hi hj hij => hI.sep i j hi hj (hA _ (by unfold opOf; split <;> omega)) (hA _ (by unfold opOf; split <;> omega)) hij
    have h5 := (hI.al (hA 16 (by omega))).2.1
    have hbel := hI.bel
    unfold A10
    rw [h7, m0, m1, m2, m3, m4]
    rw [m0, m1, m2, m3, m4] at hst
    have h5lt := (hI.al (hA 16 (by omega))).2.2.1
    clear m0 m1 m2 m3 m4 h7 hall hA hI
    go_wp2_with (at_make; refine wpList_make_full _ rfl _ _ 22 rfl w'.heap.size 3 i3 _ 1 Try.underlying22 hi3 z30 z31 _ _ _ _ (s.size + 1) rfl rfl rfl rfl (by rw [z32]; omega) (by unfold maxLen; omega) (by omega) ?_)
    intro w2 hown hgrow
    have hH1 : ({ (w.alloc (.cells Z27 27)) with drawn := w.drawn + 1 } : World).heap.size = w.heap.size + 1 := by simp
    have l0 : g 0 < w'.heap.size := (o0.lt _ rfl).2
    have l1 : g 1 < w'.heap.size := (o1.lt _ rfl).2
    have l2 : g 2 < w'.heap.size := (o2.lt _ rfl).2
    have l3 : g 3 < w'.heap.size := (o3.lt _ rfl).2
    have l4 : g 4 < w'.heap.size := (o4.lt _ rfl).2
    have hb2 : Below w'.heap.size w' w2 := (Below.refl _ _).grown hgrow (Nat.le_refl _) (by simp)
    have hszw : w.heap.size + 1 ≤ w'.heap.size := by rw [← hH1]; exact hbel.size
    have hnd : [g 0, g 1, g 2, g 3, g 4, w'.heap.size].Nodup := by
      have q01 := hsep 0 1 (by omega) (by omega) (by omega)
      have q02 := hsep 0 2 (by omega) (by omega) (by omega)
      have q03 := hsep 0 3 (by omega) (by omega) (by omega)
      have q04 := hsep 0 4 (by omega) (by omega) (by omega)
      have q12 := hsep 1 2 (by omega) (by omega) (by omega)
      have q13 := hsep 1 3 (by omega) (by omega) (by omega)
      have q14 := hsep 1 4 (by omega) (by omega) (by omega)
      have q23 := hsep 2 3 (by omega) (by omega) (by omega)
      have q24 := hsep 2 4 (by omega) (by omega) (by omega)
      have q34 := hsep 3 4 (by omega) (by omega) (by omega)
      simp
      omega
    have hOS : OS s T w w2 (g 0) (g 1) (g 2) (g 3) (g 4) (g 5) w'.heap.size 0 (fun _ => false) (fun _ => 0) (fun _ => 0) (fun _ => 0) (fun _ => 0) (fun _ => 0) (fun _ => 0) := by
      refine ⟨six_mk ?_ ?_ ?_ ?_ ?_ ?_ hnd, ?_, ?_, ?_, Rd.start s _, fun j hj => by simp [D] at hj; omega, by simp [TX], by simp [TX]; exact hT⟩
      · have := o0.kept hgrow (.inr (by simp [Value.ownBlock])); rw [hH1, mapR_const] at this; exact this
      · have := o1.kept hgrow (.inr (by simp [Value.ownBlock])); rw [hH1, mapR_const] at this; exact this
      · have := o2.kept hgrow (.inr (by simp [Value.ownBlock])); rw [hH1, mapR_const] at this; exact this
      · have := o3.kept hgrow (.inr (by simp [Value.ownBlock])); rw [hH1, mapR_const] at this; exact this
      · have := o4.kept hgrow (.inr (by simp [Value.ownBlock])); rw [hH1, mapR_const] at this; exact this
      · have h' := ownsRow_base hown hszw
        rw [toList_madeCells_one, mapR_const] at h'
        exact h'
      · rw [hb2.block _ h5lt]; exact hst
      · rw [hb2.block _ (by omega), hbel.block _ (by rw [hH1]; omega)]
        exact heap_alloc_new w _
      · have hb0 : Below w.heap.size w { (w.alloc (.cells Z27 27)) with drawn := w.drawn + 1 } := by
          have := (Below.refl w.heap.size w).alloc (Nat.le_refl _) (.cells Z27 27)
          exact ⟨this.os, this.tape, this.output, this.size, this.block⟩
        exact (hb0.trans (hbel.mono (by rw [hH1]; omega))).trans (hb2.mono (by omega))
    have hne : (g 5 ≠ g 0 ∧ g 5 ≠ g 1 ∧ g 5 ≠ g 2 ∧ g 5 ≠ g 3 ∧ g 5 ≠ g 4 ∧ g 5 ≠ w'.heap.size) ∧ w.heap.size + 1 ≤ g 5 := ⟨⟨hsep 5 0 (by omega) (by omega) (by omega), hsep 5 1 (by omega) (by omega) (by omega), hsep 5 2 (by omega) (by omega) (by omega), hsep 5 3 (by omega) (by omega) (by omega), hsep 5 4 (by omega) (by omega) (by omega), by omega⟩, by rw [← hH1]; exact h5⟩
    clear o0 o1 o2 o3 o4 l0 l1 l2 l3 l4 hst hsep h5 hbel h5lt hown hgrow hH1 hb2 hszw
    generalize g 0 = g0 at *
    generalize g 1 = g1 at *
    generalize g 2 = g2 at *
    generalize g 3 = g3 at *
    generalize g 4 = g4 at *
    generalize g 5 = g5 at *
    generalize w'.heap.size = gs at *
    have HND : Hid ([g0, g1, g2, g3, g4, gs].Nodup) := hnd
    have HNE : Hid ((g5 ≠ g0 ∧ g5 ≠ g1 ∧ g5 ≠ g2 ∧ g5 ≠ g3 ∧ g5 ≠ g4 ∧ g5 ≠ gs) ∧ w.heap.size + 1 ≤ g5) := hne
    clear hnd hne
    go_wp2
    go_loopw [9, 10, 11] (fun vd vo vi wr => ∃ (m : Nat) (st : Nat → Bool) (kd tx af ta sk : Nat → Int) (a : Nat → Nat), vd = .int .i64 (D s m) ∧ vo = .int .i64 (TX s m) ∧ vi = .int .i64 (P s m : Int) ∧ P s m ≤ s.size ∧ OS s T w wr g0 g1 g2 g3 g4 g5 gs m st kd tx af ta sk a) (fun _ _ vi _ => s.size - (intOf vi).toNat)
    case atStart => exact ⟨0, _, _, _, _, _, _, _, rfl, rfl, rfl, Nat.zero_le _, hOS⟩
    case round =>
      clear hOS
      obtain ⟨m, st, kd, tx, af, ta, sk, a, rfl, rfl, rfl, hPm, hO⟩ := hrel
      by_cases hlt : P s m < s.size
      · have HO : Hid (OS s T w wr g0 g1 g2 g3 g4 g5 gs m st kd tx af ta sk a) := hO
        have hltI : (P s m : Int) < s.size := by omega
        clear hO
        go_wp2
        go_loopw [11, 13, 14, 15] (fun vi x dn sh wx => wx = wr ∧ ∃ q : Nat, q ≤ 10 ∧ P s m + q ≤ s.size ∧ vi = .int .i64 ((P s m + q : Nat) : Int) ∧ x = .int .u64 (acc s (P s m) q) ∧ dn = .bool false ∧ sh = .int .i64 ((7 * q : Nat) : Int) ∧ Hid (∀ d, d < q → 128 ≤ byt s (P s m + d))) (fun _ _ _ sh _ => 77 - (intOf sh).toNat)
        case atStart => exact ⟨rfl, 0, by omega, by omega, by simp, by simp [acc], rfl, by simp, fun d hd => by omega⟩
        case round =>
          obtain ⟨hwr, q, hq, hpq, rfl, rfl, rfl, rfl, HB⟩ := hrel
          subst hwr
          by_cases hgo : q ≤ 9 ∧ P s m + q < s.size
          · obtain ⟨hq9, hi⟩ := hgo
            have hb : Hid (byt s (P s m + q) = (s[P s m + q].toNat : Int)) := byt_eq hi
            have HA : Hid (acc s (P s m) (q + 1) = bits .or .u64 (acc s (P s m) q) (IntKind.u64.wrap (IntKind.u64.wrap (bits .and .u8 (s[P s m + q].toNat : Int) 127) * 2 ^ (7 * q)))) := by
              show stepX _ _ _ = _
              rw [hb.out]
              rfl
            have hx := acc_range s (P s m) q
            have HX1 := acc_range s (P s m) (q + 1)
            by_cases hbig : (128 : Int) ≤ (s[P s m + q].toNat : Int)
            · have HB1 : Hid (∀ d, d < q + 1 → 128 ≤ byt s (P s m + d)) := fun d hd => by
                by_cases e : d = q
                · subst e; rw [hb.out]; exact hbig
                · exact HB.out d (by omega)
              generalize acc s (P s m) q = X at hx HA ⊢
              clear HX1
              go_wp2
              go_roundw
              case rel => exact ⟨trivial, q + 1, by omega, by omega, by go_num, by rw [HA.out], rfl, by go_num, HB1.out⟩
              case measure => simp [intOf]; omega
            · have HTK : Hid (Tk s (P s m) (q + 1)) := ⟨by omega, by omega, by omega, fun d hd => HB.out d (by omega), by
                rw [Nat.add_sub_cancel, hb.out]; omega⟩
              have hcnt : cnt s (P s m) = q + 1 := HTK.out.cnt
              have hoff := HO.out.off
              have HKD : Hid (kdOf s (P s m) = wrap64 (bits .and .u64 (acc s (P s m) (q + 1)) 3) ∧ nOf s (P s m) = wrap64 (acc s (P s m) (q + 1) / 4)) := by unfold kdOf nOf; rw [hcnt]; exact ⟨rfl, rfl⟩
              have hsb := HO.out.sb
              have hrb := HO.out.rb
              have c0 : wr.cell? ⟨g5, 0, none⟩ = some (.slice (some ⟨g0, 0, none⟩) (s.size + 1) (s.size + 1)) := by simp [World.cell?, hsb, fiveS]
              have c1 : wr.cell? ⟨g5, 1, none⟩ = some (.slice (some ⟨g1, 0, none⟩) (s.size + 1) (s.size + 1)) := by simp [World.cell?, hsb, fiveS]
              have c2 : wr.cell? ⟨g5, 2, none⟩ = some (.slice (some ⟨g2, 0, none⟩) (s.size + 1) (s.size + 1)) := by simp [World.cell?, hsb, fiveS]
              have c3 : wr.cell? ⟨g5, 3, none⟩ = some (.slice (some ⟨g3, 0, none⟩) (s.size + 1) (s.size + 1)) := by simp [World.cell?, hsb, fiveS]
              have c4 : wr.cell? ⟨g5, 4, none⟩ = some (.slice (some ⟨g4, 0, none⟩) (s.size + 1) (s.size + 1)) := by simp [World.cell?, hsb, fiveS]
              have r0 : wr.cell? ⟨w.heap.size, 0, none⟩ = some (.slice none 0 0) := by simp [World.cell?, hrb, Z27]
              have r1 : wr.cell? ⟨w.heap.size, 1, none⟩ = some (.slice none 0 0) := by simp [World.cell?, hrb, Z27]
              have r2 : wr.cell? ⟨w.heap.size, 2, none⟩ = some (.slice none 0 0) := by simp [World.cell?, hrb, Z27]
              have r3 : wr.cell? ⟨w.heap.size, 3, none⟩ = some (.slice none 0 0) := by simp [World.cell?, hrb, Z27]
              have r4 : wr.cell? ⟨w.heap.size, 4, none⟩ = some (.slice none 0 0) := by simp [World.cell?, hrb, Z27]
              have rf : ∀ j, wr.frozen? ⟨w.heap.size, j, none⟩ = false := fun j => by simp [World.frozen?, hrb]
              clear hsb hrb
              generalize acc s (P s m) q = X0 at hx HA ⊢
              have HA2 := HA.out.symm
              generalize acc s (P s m) (q + 1) = X at HX1 HA2 HKD
              have hX4 : Hid (bits .and .u64 X 3 = X % 4) := and3 X HX1.1 HX1.2
              by_cases hcmp : T - TX s m < X / 4
              · clear hX4
                go_wp2
                all_goals
                  refine bodyPost_ret (v := .tuple #[.agg (fiveS (s.size + 1) g0 g1 g2 g3 g4), .bool false]) ?_ rfl ?_
                  · simp [results, Try.results10, go_sem, fiveS, r0, r1, r2, r3, r4]
                  · refine ⟨?_, false, g0, g1, g2, g3, g4, rfl, fun h => by cases h⟩
                    exact (((((HO.out.bel.setCell (Nat.le_refl _) _).setCell (Nat.le_refl _) _).setCell (Nat.le_refl _) _).setCell (Nat.le_refl _) _).setCell (Nat.le_refl _) _)
              · obtain ⟨K, hKe⟩ : ∃ K, bits .and .u64 X 3 = K := ⟨_, rfl⟩
                obtain ⟨N, hNe⟩ : ∃ N, X / 4 = N := ⟨_, rfl⟩
                have hK0 : 0 ≤ K ∧ K < 4 := by rw [hX4.out] at hKe; omega
                have hN0 : 0 ≤ N ∧ N ≤ T - TX s m := by omega
                have HKD2 : Hid (kdOf s (P s m) = K ∧ nOf s (P s m) = N) := by
                  show _ ∧ _
                  rw [HKD.out.1, HKD.out.2, hKe, hNe]
                  unfold wrap64
                  omega
                have HTOK : Hid ((∃ c, Tk s (P s m) c) ∧ P s (m + 1) ≤ s.size ∧ 0 ≤ nOf s (P s m)) := ⟨⟨_, HTK.out⟩, by simp only [P]; rw [hcnt]; omega, by rw [HKD2.out.2]; omega⟩
                have HP1 : Hid (P s (m + 1) = P s m + (q + 1)) := by show _ = _; simp only [P]; rw [hcnt]
                have HT1 : Hid (TX s (m + 1) = TX s m + N) := by show _ = _; simp only [TX]; rw [HKD2.out.2]
                clear hX4 HKD hcmp HX1
                have HB6 : Hid (B6 s w wr g0 g1 g2 g3 g4 g5 gs st kd tx af ta sk) := ⟨HO.out.ms, HO.out.sb, HO.out.rb, HO.out.bel, HNE.out⟩
                have HB9 : Hid (B6 s w (((wr.setCell ⟨g0, P s m, none⟩ (.bool true)).setCell ⟨g1, P s m, none⟩ (.int .i64 K)).setCell ⟨g2, P s m, none⟩ (.int .i64 (TX s m))) g0 g1 g2 g3 g4 g5 gs (upd st (P s m) true) (upd kd (P s m) K) (upd tx (P s m) (TX s m)) af ta sk) := ((HB6.out.put0 _ _).put1 _ _).put2 _ _
                obtain ⟨l0, l1, l2, l3, l4, ls⟩ := HB6.out.six_lt
                obtain ⟨⟨e0, e1, e2, e3, e4, es⟩, e5⟩ := HNE.out
                obtain ⟨d, hd⟩ : ∃ d : Nat, D s m = d := ⟨(D s m).toNat, by have := HO.out.rd.dep; omega⟩
                have hdm : d < s.size + 1 := by have := D_le s m; have := P_ge s m; omega
                obtain ⟨x0, x1, x2, _, _, _⟩ := six_cells HO.out.ms (p := P s m) (by omega)
                obtain ⟨x01, x02, -⟩ := x0
                obtain ⟨x11, x12, -⟩ := x1
                obtain ⟨x21, x22, -⟩ := x2
                have hnd := HND.out
                simp only [List.nodup_cons, List.mem_cons, List.not_mem_nil, or_false, not_or, List.nodup_nil, not_false_eq_true, and_true] at hnd
                obtain ⟨⟨n01, n02, n03, n04, n0s⟩, ⟨n12, n13, n14, n1s⟩, ⟨n23, n24, n2s⟩, ⟨n34, n3s⟩, n4s⟩ := hnd
                have m01 := Ne.symm n01
                have m02 := Ne.symm n02
                have m03 := Ne.symm n03
                have m04 := Ne.symm n04
                have m0s := Ne.symm n0s
                have m12 := Ne.symm n12
                have m13 := Ne.symm n13
                have m14 := Ne.symm n14
                have m1s := Ne.symm n1s
                have m23 := Ne.symm n23
                have m24 := Ne.symm n24
                have m2s := Ne.symm n2s
                have m34 := Ne.symm n34
                have m3s := Ne.symm n3s
                have m4s := Ne.symm n4s
                have e0' := Ne.symm e0
                have e1' := Ne.symm e1
                have e2' := Ne.symm e2
                have e3' := Ne.symm e3
                have e4' := Ne.symm e4
                have es' := Ne.symm es
                have w0 : w.heap.size ≠ g0 := by omega
                have w1 : w.heap.size ≠ g1 := by omega
                have w2 : w.heap.size ≠ g2 := by omega
                have w0' := Ne.symm w0
                have w1' := Ne.symm w1
                have w2' := Ne.symm w2
                clear l0 l1 l2 l3 l4 ls
                rw [hd]
                by_cases hk2 : K = 2
                · subst hk2
                  obtain ⟨_, _, _, _, _, x5⟩ := six_cells HO.out.ms (p := d) (by omega)
                  obtain ⟨x51, x52, -⟩ := x5
                  have HOS' : Hid (OS s T w ((((wr.setCell ⟨g0, P s m, none⟩ (.bool true)).setCell ⟨g1, P s m, none⟩ (.int .i64 2)).setCell ⟨g2, P s m, none⟩ (.int .i64 (TX s m))).setCell ⟨gs, d, none⟩ (.int .i64 (P s m))) g0 g1 g2 g3 g4 g5 gs (m + 1) (upd st (P s m) true) (upd kd (P s m) 2) (upd tx (P s m) (TX s m)) af ta (upd sk d (P s m)) (upd a d m)) := by
                    have hb := HB9.out.puts d (P s m)
                    have hr := HO.out.rd.opens HTOK.out HKD2.out.1
                    rw [HKD2.out.1, show (D s m).toNat = d by omega] at hr
                    have hD1 : D s (m + 1) = D s m + 1 := by simp only [D, dl]; rw [HKD2.out.1, if_pos rfl]
                    refine ⟨hb.ms, hb.sb, hb.rb, hb.bel, hr, fun j hj => ?_, by rw [HT1.out]; omega⟩
                    by_cases e : j = d
                    · subst e; rw [upd_same, upd_same]
                    · rw [upd_ne _ _ e, upd_ne _ _ e]; exact HO.out.skk j (by omega)
                  have HD1 : Hid (D s (m + 1) = d + 1) := by show _ = _; simp only [D, dl]; rw [HKD2.out.1, if_pos rfl, hd]
                  clear hd
                  clear r0 r1 r2 r3 r4 rf w0 w1 w2 w0' w1' w2' c3 c4 n03 n04 n13 n14 n23 n24 n34 n3s n4s m03 m04 m13 m14 m23 m24 m34 m3s m4s e2 e3 e4 es e2' e3' e4' es' e5 
                  go_wp2
                  go_roundw
                  case rel => exact ⟨m + 1, _, _, _, _, _, _, _, by rw [HD1.out], by rw [HT1.out], by rw [HP1.out]; go_num, by rw [HP1.out]; omega, HOS'.out⟩
                  case measure => simp [intOf]; omega
                · by_cases hk3 : K = 3
                  · subst hk3
                    clear hk2
                    by_cases hd0 : d = 0
                    · subst hd0
                      have HBL : Hid (Below w.heap.size w (((wr.setCell ⟨g0, P s m, none⟩ (.bool true)).setCell ⟨g1, P s m, none⟩ (.int .i64 3)).setCell ⟨g2, P s m, none⟩ (.int .i64 (TX s m)))) := HB9.out.bel
                      clear hd
                      clear n03 n04 n13 n14 n23 n24 n34 n3s n4s m03 m04 m13 m14 m23 m24 m34 m3s m4s n0s n1s n2s m0s m1s m2s 
                      go_wp2
                      refine bodyPost_ret (v := .tuple #[.agg (fiveS (s.size + 1) g0 g1 g2 g3 g4), .bool false]) ?_ rfl ?_
                      · simp [results, Try.results10, go_sem, fiveS, r0, r1, r2, r3, r4]
                      · refine ⟨?_, false, g0, g1, g2, g3, g4, rfl, fun h => by cases h⟩
                        exact (((((HBL.out.setCell (Nat.le_refl _) _).setCell (Nat.le_refl _) _).setCell (Nat.le_refl _) _).setCell (Nat.le_refl _) _).setCell (Nat.le_refl _) _)
                    · obtain ⟨f, rfl⟩ : ∃ f, d = f + 1 := ⟨d - 1, by omega⟩
                      have hskf : sk f = P s (a f) := HO.out.skk f (by omega)
                      have hstk := HO.out.rd.stk f (by omega)
                      have hQlt : P s (a f) < s.size + 1 := by have := P_mono s hstk.1; omega
                      obtain ⟨_, _, _, _, _, x5⟩ := six_cells HO.out.ms (p := f) (by omega)
                      obtain ⟨x51, x52, -⟩ := x5
                      rw [hskf] at x51
                      obtain ⟨_, _, _, x3, x4, _⟩ := six_cells HO.out.ms (p := P s (a f)) (by omega)
                      obtain ⟨x31, x32, -⟩ := x3
                      obtain ⟨x41, x42, -⟩ := x4
                      have HOS' : Hid (OS s T w (((((wr.setCell ⟨g0, P s m, none⟩ (.bool true)).setCell ⟨g1, P s m, none⟩ (.int .i64 3)).setCell ⟨g2, P s m, none⟩ (.int .i64 (TX s m))).setCell ⟨g3, P s (a f), none⟩ (.int .i64 (P s (m + 1)))).setCell ⟨g4, P s (a f), none⟩ (.int .i64 (TX s (m + 1)))) g0 g1 g2 g3 g4 g5 gs (m + 1) (upd st (P s m) true) (upd kd (P s m) 3) (upd tx (P s m) (TX s m)) (upd af (P s (a f)) (P s (m + 1))) (upd ta (P s (a f)) (TX s (m + 1))) sk a) := by
                        have hb := (HB9.out.put3 (P s (a f)) (P s (m + 1))).put4 (P s (a f)) (TX s (m + 1))
                        have hr := HO.out.rd.shuts HTOK.out HKD2.out.1 (by omega)
                        rw [HKD2.out.1, show (D s m).toNat - 1 = f by omega] at hr
                        have hD1 : D s (m + 1) = D s m - 1 := by simp only [D, dl]; rw [HKD2.out.1, if_neg (by omega), if_pos rfl]; omega
                        exact ⟨hb.ms, hb.sb, hb.rb, hb.bel, hr, fun j hj => HO.out.skk j (by omega), by rw [HT1.out]; omega⟩
                      have HD1 : Hid (D s (m + 1) = f) := by show _ = _; simp only [D, dl]; rw [HKD2.out.1, if_neg (by omega), if_pos rfl]; omega
                      have HOS2 : Hid (OS s T w (((((wr.setCell ⟨g0, P s m, none⟩ (.bool true)).setCell ⟨g1, P s m, none⟩ (.int .i64 3)).setCell ⟨g2, P s m, none⟩ (.int .i64 (TX s m))).setCell ⟨g3, P s (a f), none⟩ (.int .i64 ((P s m : Int) + q + 1))).setCell ⟨g4, P s (a f), none⟩ (.int .i64 (TX s m + N))) g0 g1 g2 g3 g4 g5 gs (m + 1) (upd st (P s m) true) (upd kd (P s m) 3) (upd tx (P s m) (TX s m)) (upd af (P s (a f)) (P s (m + 1))) (upd ta (P s (a f)) (TX s (m + 1))) sk a) := by
                        have := HOS'.out
                        have e : ((P s (m + 1) : Nat) : Int) = (P s m : Int) + q + 1 := by rw [HP1.out]; omega
                        rw [e, HT1.out] at this
                        rw [e, HT1.out]
                        exact this
                      clear hd hstk hskf hd0 HOS'
                      clear r0 r1 r2 r3 r4 rf w0 w1 w2 w0' w1' w2' e4 es e4' es' e5 n3s n4s m3s m4s
                      rw [show ((f + 1 : Nat) : Int) = (f : Int) + 1 from rfl]
                      go_wp2
                      go_roundw
                      case rel => exact ⟨m + 1, _, _, _, _, _, _, _, by rw [HD1.out], by rw [HT1.out], by rw [HP1.out]; go_num, by rw [HP1.out]; omega, HOS2.out⟩
                      case measure => simp [intOf]; omega
                  · have hr := HO.out.rd.other HTOK.out (by rw [HKD2.out.1]; exact hk2) (by rw [HKD2.out.1]; exact hk3)
                    rw [HKD2.out.1] at hr
                    have hD1 : D s (m + 1) = D s m := by simp only [D, dl]; rw [HKD2.out.1, if_neg hk2, if_neg hk3]; omega
                    have HD1 : Hid (D s (m + 1) = d) := by show _ = _; omega
                    have HOS' : Hid (OS s T w (((wr.setCell ⟨g0, P s m, none⟩ (.bool true)).setCell ⟨g1, P s m, none⟩ (.int .i64 K)).setCell ⟨g2, P s m, none⟩ (.int .i64 (TX s m))) g0 g1 g2 g3 g4 g5 gs (m + 1) (upd st (P s m) true) (upd kd (P s m) K) (upd tx (P s m) (TX s m)) af ta sk a) :=
                      ⟨HB9.out.ms, HB9.out.sb, HB9.out.rb, HB9.out.bel, hr, fun j hj => HO.out.skk j (by omega), by rw [HT1.out]; omega⟩
                    clear hr hD1 hd
                    clear r0 r1 r2 r3 r4 rf w0 w1 w2 w0' w1' w2' c3 c4 n03 n04 n13 n14 n23 n24 n34 n3s n4s m03 m04 m13 m14 m23 m24 m34 m3s m4s e2 e3 e4 es e2' e3' e4' es' e5 n0s n1s n2s m0s m1s m2s 
                    go_wp2
                    go_roundw
                    case rel => exact ⟨m + 1, _, _, _, _, _, _, _, by rw [HD1.out], by rw [HT1.out], by rw [HP1.out]; go_num, by rw [HP1.out]; omega, HOS'.out⟩
                    case measure => simp [intOf]; omega
          · have hsb := HO.out.sb
            have hrb := HO.out.rb
            have c0 : wr.cell? ⟨g5, 0, none⟩ = some (.slice (some ⟨g0, 0, none⟩) (s.size + 1) (s.size + 1)) := by simp [World.cell?, hsb, fiveS]
            have c1 : wr.cell? ⟨g5, 1, none⟩ = some (.slice (some ⟨g1, 0, none⟩) (s.size + 1) (s.size + 1)) := by simp [World.cell?, hsb, fiveS]
            have c2 : wr.cell? ⟨g5, 2, none⟩ = some (.slice (some ⟨g2, 0, none⟩) (s.size + 1) (s.size + 1)) := by simp [World.cell?, hsb, fiveS]
            have c3 : wr.cell? ⟨g5, 3, none⟩ = some (.slice (some ⟨g3, 0, none⟩) (s.size + 1) (s.size + 1)) := by simp [World.cell?, hsb, fiveS]
            have c4 : wr.cell? ⟨g5, 4, none⟩ = some (.slice (some ⟨g4, 0, none⟩) (s.size + 1) (s.size + 1)) := by simp [World.cell?, hsb, fiveS]
            have r0 : wr.cell? ⟨w.heap.size, 0, none⟩ = some (.slice none 0 0) := by simp [World.cell?, hrb, Z27]
            have r1 : wr.cell? ⟨w.heap.size, 1, none⟩ = some (.slice none 0 0) := by simp [World.cell?, hrb, Z27]
            have r2 : wr.cell? ⟨w.heap.size, 2, none⟩ = some (.slice none 0 0) := by simp [World.cell?, hrb, Z27]
            have r3 : wr.cell? ⟨w.heap.size, 3, none⟩ = some (.slice none 0 0) := by simp [World.cell?, hrb, Z27]
            have r4 : wr.cell? ⟨w.heap.size, 4, none⟩ = some (.slice none 0 0) := by simp [World.cell?, hrb, Z27]
            have rf : ∀ j, wr.frozen? ⟨w.heap.size, j, none⟩ = false := fun j => by simp [World.frozen?, hrb]
            have hgo' : (9 : Int) < q ∨ (s.size : Int) ≤ P s m + q := by omega
            clear hsb hrb hgo
            go_wp2
            all_goals
              refine bodyPost_ret (v := .tuple #[.agg (fiveS (s.size + 1) g0 g1 g2 g3 g4), .bool false]) ?_ rfl ?_
              · simp [results, Try.results10, go_sem, fiveS, r0, r1, r2, r3, r4]
              · refine ⟨?_, false, g0, g1, g2, g3, g4, rfl, fun h => by cases h⟩
                exact (((((HO.out.bel.setCell (Nat.le_refl _) _).setCell (Nat.le_refl _) _).setCell (Nat.le_refl _) _).setCell (Nat.le_refl _) _).setCell (Nat.le_refl _) _)
      · have HO : Hid (OS s T w wr g0 g1 g2 g3 g4 g5 gs m st kd tx af ta sk a) := hO
        have hPe : P s m = s.size := by omega
        have hsb := HO.out.sb
        have hrb := HO.out.rb
        have c0 : wr.cell? ⟨g5, 0, none⟩ = some (.slice (some ⟨g0, 0, none⟩) (s.size + 1) (s.size + 1)) := by simp [World.cell?, hsb, fiveS]
        have c1 : wr.cell? ⟨g5, 1, none⟩ = some (.slice (some ⟨g1, 0, none⟩) (s.size + 1) (s.size + 1)) := by simp [World.cell?, hsb, fiveS]
        have c2 : wr.cell? ⟨g5, 2, none⟩ = some (.slice (some ⟨g2, 0, none⟩) (s.size + 1) (s.size + 1)) := by simp [World.cell?, hsb, fiveS]
        have c3 : wr.cell? ⟨g5, 3, none⟩ = some (.slice (some ⟨g3, 0, none⟩) (s.size + 1) (s.size + 1)) := by simp [World.cell?, hsb, fiveS]
        have c4 : wr.cell? ⟨g5, 4, none⟩ = some (.slice (some ⟨g4, 0, none⟩) (s.size + 1) (s.size + 1)) := by simp [World.cell?, hsb, fiveS]
        have r0 : wr.cell? ⟨w.heap.size, 0, none⟩ = some (.slice none 0 0) := by simp [World.cell?, hrb, Z27]
        have r1 : wr.cell? ⟨w.heap.size, 1, none⟩ = some (.slice none 0 0) := by simp [World.cell?, hrb, Z27]
        have r2 : wr.cell? ⟨w.heap.size, 2, none⟩ = some (.slice none 0 0) := by simp [World.cell?, hrb, Z27]
        have r3 : wr.cell? ⟨w.heap.size, 3, none⟩ = some (.slice none 0 0) := by simp [World.cell?, hrb, Z27]
        have r4 : wr.cell? ⟨w.heap.size, 4, none⟩ = some (.slice none 0 0) := by simp [World.cell?, hrb, Z27]
        have rf : ∀ j, wr.frozen? ⟨w.heap.size, j, none⟩ = false := fun j => by simp [World.frozen?, hrb]
        clear hsb hrb hO
        by_cases hfin : D s m = 0 ∧ TX s m = T
        · obtain ⟨hD0, hTT⟩ := hfin
          have hne := HNE.out
          have n25 : g2 ≠ g5 := fun e => hne.1.2.2.1 e.symm
          have n52 : g5 ≠ g2 := hne.1.2.2.1
          obtain ⟨_, rfl', hcL, hfL, hgL, _⟩ := HO.out.ms.cell (k := 2) (r := ⟨3, some ⟨g2, 0, none⟩, s.size + 1, mapR (s.size + 1) (fun p => .int .i64 (tx p))⟩) rfl (i := s.size) (v := .int .i64 (tx s.size)) (mapR_get (by omega))
          obtain rfl : g2 = _ := by simpa using rfl'
          have nw2 : w.heap.size ≠ g2 := by omega
          have n2w : g2 ≠ w.heap.size := by omega
          have HL : Hid (Lay s T m st kd (upd tx s.size T) af ta) := HO.out.rd.lay hPe hD0 hTT
          have hMP := HO.out.ms.put (k := 2) (e := 3) (q := g2) (c := s.size + 1) (xs := mapR (s.size + 1) (fun p => .int .i64 (tx p))) rfl s.size (.int .i64 T)
          rw [mapR_set, upd_int] at hMP
          have HMP : Hid (MS (wr.setCell ⟨g2, s.size, none⟩ (.int .i64 T)) (w.heap.size + 1) (six (s.size + 1) g0 g1 g2 g3 g4 gs st kd (upd tx s.size T) af ta sk)) := hMP
          have HBB : Hid (Below w.heap.size w (wr.setCell ⟨g2, s.size, none⟩ (.int .i64 T))) := HO.out.bel.setCell (p := ⟨g2, s.size, none⟩) (by show w.heap.size ≤ g2; omega) _
          clear hMP
          go_wp2
          refine bodyPost_ret (v := .tuple #[.agg (fiveS (s.size + 1) g0 g1 g2 g3 g4), .bool true]) ?_ rfl ?_
          · simp [results, Try.results10, go_sem, fiveS, r0, r1, r2, r3, r4]
          · refine ⟨(((((HBB.out.setCell (Nat.le_refl _) _).setCell (Nat.le_refl _) _).setCell (Nat.le_refl _) _).setCell (Nat.le_refl _) _).setCell (Nat.le_refl _) _), true, g0, g1, g2, g3, g4, rfl, fun _ => ⟨m, st, kd, _, af, ta, HL.out, fun p hp => ?_⟩⟩
            obtain ⟨x0, x1, x2, x3, x4, _⟩ := six_cells HMP.out hp
            have far : ∀ (W : World) (gg j k : Nat) (v : Value), w.heap.size + 1 ≤ gg → (W.setCell ⟨w.heap.size, j, none⟩ v).cell? ⟨gg, k, none⟩ = W.cell? ⟨gg, k, none⟩ := fun W gg j k v hg => World.cell?_setCell_far _ _ _ _ (by show w.heap.size ≠ gg; omega)
            refine ⟨?_, ?_, ?_, ?_, ?_⟩
            · rw [far _ _ _ _ _ x0.2.2, far _ _ _ _ _ x0.2.2, far _ _ _ _ _ x0.2.2, far _ _ _ _ _ x0.2.2, far _ _ _ _ _ x0.2.2]; exact x0.1
            · rw [far _ _ _ _ _ x1.2.2, far _ _ _ _ _ x1.2.2, far _ _ _ _ _ x1.2.2, far _ _ _ _ _ x1.2.2, far _ _ _ _ _ x1.2.2]; exact x1.1
            · rw [far _ _ _ _ _ x2.2.2, far _ _ _ _ _ x2.2.2, far _ _ _ _ _ x2.2.2, far _ _ _ _ _ x2.2.2, far _ _ _ _ _ x2.2.2]; exact x2.1
            · rw [far _ _ _ _ _ x3.2.2, far _ _ _ _ _ x3.2.2, far _ _ _ _ _ x3.2.2, far _ _ _ _ _ x3.2.2, far _ _ _ _ _ x3.2.2]; exact x3.1
            · rw [far _ _ _ _ _ x4.2.2, far _ _ _ _ _ x4.2.2, far _ _ _ _ _ x4.2.2, far _ _ _ _ _ x4.2.2, far _ _ _ _ _ x4.2.2]; exact x4.1
        · have hfin' : ¬ D s m = 0 ∨ ¬ TX s m = T := by omega
          clear hfin
          go_wp2
          all_goals
            refine bodyPost_ret (v := .tuple #[.agg (fiveS (s.size + 1) g0 g1 g2 g3 g4), .bool false]) ?_ rfl ?_
            · simp [results, Try.results10, go_sem, fiveS, r0, r1, r2, r3, r4]
            · refine ⟨?_, false, g0, g1, g2, g3, g4, rfl, fun h => by cases h⟩
              exact (((((HO.out.bel.setCell (Nat.le_refl _) _).setCell (Nat.le_refl _) _).setCell (Nat.le_refl _) _).setCell (Nat.le_refl _) _).setCell (Nat.le_refl _) _)
  case step =>
    rintro l a w' hsz ⟨v, g, rfl, hI⟩ i o ho hl ha
    have hi : i < 18 := by have := (Array.getElem?_eq_some_iff.1 ho).1; simpa using this
    obtain rfl | rfl | rfl | rfl | rfl | rfl | rfl | rfl | rfl | rfl | rfl | rfl | rfl | rfl | rfl | rfl | rfl | rfl : i = 0 ∨ i = 1 ∨ i = 2 ∨ i = 3 ∨ i = 4 ∨ i = 5 ∨ i = 6 ∨ i = 7 ∨ i = 8 ∨ i = 9 ∨ i = 10 ∨ i = 11 ∨ i = 12 ∨ i = 13 ∨ i = 14 ∨ i = 15 ∨ i = 16 ∨ i = 17 := by omega
    · -- 0: the length's copy
      obtain rfl := Option.some.inj ho
      refine wpOp_val (v := .int .i64 (s.size : Int)) (w' := w') rfl rfl (by simp [execOp, Act.eval, A10]) ⟨upd v 22 (.int .i64 (s.size : Int)), g, rfl, ?_⟩
      exact hI.fill (c := 0) (r := 0) (by omega) (by omega) rfl
    · -- 1: + 1
      obtain rfl := Option.some.inj ho
      have d0 : LB l 0 := ha ⟨0, .data⟩ (by simp) rfl
      have e0 := hI.mv 0 (by omega) d0
      refine wpOp_val (v := .int .i64 ((s.size + 1 : Nat) : Int)) (w' := w') rfl rfl ?_ ⟨upd v 23 (.int .i64 ((s.size + 1 : Nat) : Int)), g, rfl, hI.fill (c := 0) (r := 1) (by omega) (by omega) rfl⟩
      simp [execOp, Act.eval, A10, e0, go_sem]
      rw [IntKind.wrap_i64]
      omega
    · -- 2: make
      obtain rfl := Option.some.inj ho
      have d0 : LB l 1 := ha ⟨1, .data⟩ (by simp) rfl
      have e0 := hI.ad 0 (by omega) d0
      have hu : ¬ LB l (2) := fun h => by unfold LB at h; rw [Array.getD_eq_getD_getElem?, hl] at h; simp at h
      obtain ⟨w2, hrun, hown, hgrow⟩ := run_make_full (P := Try.prog) w' { (w.alloc (.cells Z27 27)) with drawn := w.drawn + 1 }.heap.size 25 4 i4 _ 1 Try.underlying25 hi4 z40 z41 .i64 .i64 (s.size + 1) (by rw [z42]; omega) (by unfold maxLen; omega) hI.bel.size
      have hown' : w2.ownsRow { (w.alloc (.cells Z27 27)) with drawn := w.drawn + 1 }.heap.size (ty 0) 1 (.slice (some ⟨w'.heap.size, 0, none⟩) (s.size + 1) (s.size + 1)) (s.size + 1) (List.replicate (s.size + 1) (zv 0)) := by
        rw [Nat.mul_one] at hown
        have e : ∀ z : Value, z.cells = #[z] → (madeCells z.cells (s.size + 1)).toList = List.replicate (s.size + 1) z := fun z hz => by rw [hz, toList_madeCells_one]
        rw [e _ rfl] at hown
        exact hown
      refine wpOp_val (v := .slice (some ⟨w'.heap.size, 0, none⟩) (s.size + 1) (s.size + 1)) (w' := w2) rfl rfl ?_ ⟨upd v 24 (.slice (some ⟨w'.heap.size, 0, none⟩) (s.size + 1) (s.size + 1)), upd g 0 w'.heap.size, rfl, hI.make (c := 0) (by omega) hu hown' hgrow⟩
      show Sem.run Try.prog (do pure (Next.value (← Instr.makeSlice 25 (v 23) (v 23)))) w' = _
      rw [e0]
      simp only [Sem.run_bind, hrun, Result.andThen, Sem.run_pure]
    · -- 3: the length's copy
      obtain rfl := Option.some.inj ho
      refine wpOp_val (v := .int .i64 (s.size : Int)) (w' := w') rfl rfl (by simp [execOp, Act.eval, A10]) ⟨upd v 25 (.int .i64 (s.size : Int)), g, rfl, ?_⟩
      exact hI.fill (c := 1) (r := 0) (by omega) (by omega) rfl
    · -- 4: + 1
      obtain rfl := Option.some.inj ho
      have d0 : LB l 3 := ha ⟨3, .data⟩ (by simp) rfl
      have e0 := hI.mv 1 (by omega) d0
      refine wpOp_val (v := .int .i64 ((s.size + 1 : Nat) : Int)) (w' := w') rfl rfl ?_ ⟨upd v 26 (.int .i64 ((s.size + 1 : Nat) : Int)), g, rfl, hI.fill (c := 1) (r := 1) (by omega) (by omega) rfl⟩
      simp [execOp, Act.eval, A10, e0, go_sem]
      rw [IntKind.wrap_i64]
      omega
    · -- 5: make
      obtain rfl := Option.some.inj ho
      have d0 : LB l 4 := ha ⟨4, .data⟩ (by simp) rfl
      have e0 := hI.ad 1 (by omega) d0
      have hu : ¬ LB l (5) := fun h => by unfold LB at h; rw [Array.getD_eq_getD_getElem?, hl] at h; simp at h
      obtain ⟨w2, hrun, hown, hgrow⟩ := run_make_full (P := Try.prog) w' { (w.alloc (.cells Z27 27)) with drawn := w.drawn + 1 }.heap.size 22 3 i3 _ 1 Try.underlying22 hi3 z30 z31 .i64 .i64 (s.size + 1) (by rw [z32]; omega) (by unfold maxLen; omega) hI.bel.size
      have hown' : w2.ownsRow { (w.alloc (.cells Z27 27)) with drawn := w.drawn + 1 }.heap.size (ty 1) 1 (.slice (some ⟨w'.heap.size, 0, none⟩) (s.size + 1) (s.size + 1)) (s.size + 1) (List.replicate (s.size + 1) (zv 1)) := by
        rw [Nat.mul_one] at hown
        have e : ∀ z : Value, z.cells = #[z] → (madeCells z.cells (s.size + 1)).toList = List.replicate (s.size + 1) z := fun z hz => by rw [hz, toList_madeCells_one]
        rw [e _ rfl] at hown
        exact hown
      refine wpOp_val (v := .slice (some ⟨w'.heap.size, 0, none⟩) (s.size + 1) (s.size + 1)) (w' := w2) rfl rfl ?_ ⟨upd v 27 (.slice (some ⟨w'.heap.size, 0, none⟩) (s.size + 1) (s.size + 1)), upd g 1 w'.heap.size, rfl, hI.make (c := 1) (by omega) hu hown' hgrow⟩
      show Sem.run Try.prog (do pure (Next.value (← Instr.makeSlice 22 (v 26) (v 26)))) w' = _
      rw [e0]
      simp only [Sem.run_bind, hrun, Result.andThen, Sem.run_pure]
    · -- 6: the length's copy
      obtain rfl := Option.some.inj ho
      refine wpOp_val (v := .int .i64 (s.size : Int)) (w' := w') rfl rfl (by simp [execOp, Act.eval, A10]) ⟨upd v 28 (.int .i64 (s.size : Int)), g, rfl, ?_⟩
      exact hI.fill (c := 2) (r := 0) (by omega) (by omega) rfl
    · -- 7: + 1
      obtain rfl := Option.some.inj ho
      have d0 : LB l 6 := ha ⟨6, .data⟩ (by simp) rfl
      have e0 := hI.mv 2 (by omega) d0
      refine wpOp_val (v := .int .i64 ((s.size + 1 : Nat) : Int)) (w' := w') rfl rfl ?_ ⟨upd v 29 (.int .i64 ((s.size + 1 : Nat) : Int)), g, rfl, hI.fill (c := 2) (r := 1) (by omega) (by omega) rfl⟩
      simp [execOp, Act.eval, A10, e0, go_sem]
      rw [IntKind.wrap_i64]
      omega
    · -- 8: make
      obtain rfl := Option.some.inj ho
      have d0 : LB l 7 := ha ⟨7, .data⟩ (by simp) rfl
      have e0 := hI.ad 2 (by omega) d0
      have hu : ¬ LB l (8) := fun h => by unfold LB at h; rw [Array.getD_eq_getD_getElem?, hl] at h; simp at h
      obtain ⟨w2, hrun, hown, hgrow⟩ := run_make_full (P := Try.prog) w' { (w.alloc (.cells Z27 27)) with drawn := w.drawn + 1 }.heap.size 22 3 i3 _ 1 Try.underlying22 hi3 z30 z31 .i64 .i64 (s.size + 1) (by rw [z32]; omega) (by unfold maxLen; omega) hI.bel.size
      have hown' : w2.ownsRow { (w.alloc (.cells Z27 27)) with drawn := w.drawn + 1 }.heap.size (ty 2) 1 (.slice (some ⟨w'.heap.size, 0, none⟩) (s.size + 1) (s.size + 1)) (s.size + 1) (List.replicate (s.size + 1) (zv 2)) := by
        rw [Nat.mul_one] at hown
        have e : ∀ z : Value, z.cells = #[z] → (madeCells z.cells (s.size + 1)).toList = List.replicate (s.size + 1) z := fun z hz => by rw [hz, toList_madeCells_one]
        rw [e _ rfl] at hown
        exact hown
      refine wpOp_val (v := .slice (some ⟨w'.heap.size, 0, none⟩) (s.size + 1) (s.size + 1)) (w' := w2) rfl rfl ?_ ⟨upd v 30 (.slice (some ⟨w'.heap.size, 0, none⟩) (s.size + 1) (s.size + 1)), upd g 2 w'.heap.size, rfl, hI.make (c := 2) (by omega) hu hown' hgrow⟩
      show Sem.run Try.prog (do pure (Next.value (← Instr.makeSlice 22 (v 29) (v 29)))) w' = _
      rw [e0]
      simp only [Sem.run_bind, hrun, Result.andThen, Sem.run_pure]
    · -- 9: the length's copy
      obtain rfl := Option.some.inj ho
      refine wpOp_val (v := .int .i64 (s.size : Int)) (w' := w') rfl rfl (by simp [execOp, Act.eval, A10]) ⟨upd v 31 (.int .i64 (s.size : Int)), g, rfl, ?_⟩
      exact hI.fill (c := 3) (r := 0) (by omega) (by omega) rfl
    · -- 10: + 1
      obtain rfl := Option.some.inj ho
      have d0 : LB l 9 := ha ⟨9, .data⟩ (by simp) rfl
      have e0 := hI.mv 3 (by omega) d0
      refine wpOp_val (v := .int .i64 ((s.size + 1 : Nat) : Int)) (w' := w') rfl rfl ?_ ⟨upd v 32 (.int .i64 ((s.size + 1 : Nat) : Int)), g, rfl, hI.fill (c := 3) (r := 1) (by omega) (by omega) rfl⟩
      simp [execOp, Act.eval, A10, e0, go_sem]
      rw [IntKind.wrap_i64]
      omega
    · -- 11: make
      obtain rfl := Option.some.inj ho
      have d0 : LB l 10 := ha ⟨10, .data⟩ (by simp) rfl
      have e0 := hI.ad 3 (by omega) d0
      have hu : ¬ LB l (11) := fun h => by unfold LB at h; rw [Array.getD_eq_getD_getElem?, hl] at h; simp at h
      obtain ⟨w2, hrun, hown, hgrow⟩ := run_make_full (P := Try.prog) w' { (w.alloc (.cells Z27 27)) with drawn := w.drawn + 1 }.heap.size 22 3 i3 _ 1 Try.underlying22 hi3 z30 z31 .i64 .i64 (s.size + 1) (by rw [z32]; omega) (by unfold maxLen; omega) hI.bel.size
      have hown' : w2.ownsRow { (w.alloc (.cells Z27 27)) with drawn := w.drawn + 1 }.heap.size (ty 3) 1 (.slice (some ⟨w'.heap.size, 0, none⟩) (s.size + 1) (s.size + 1)) (s.size + 1) (List.replicate (s.size + 1) (zv 3)) := by
        rw [Nat.mul_one] at hown
        have e : ∀ z : Value, z.cells = #[z] → (madeCells z.cells (s.size + 1)).toList = List.replicate (s.size + 1) z := fun z hz => by rw [hz, toList_madeCells_one]
        rw [e _ rfl] at hown
        exact hown
      refine wpOp_val (v := .slice (some ⟨w'.heap.size, 0, none⟩) (s.size + 1) (s.size + 1)) (w' := w2) rfl rfl ?_ ⟨upd v 33 (.slice (some ⟨w'.heap.size, 0, none⟩) (s.size + 1) (s.size + 1)), upd g 3 w'.heap.size, rfl, hI.make (c := 3) (by omega) hu hown' hgrow⟩
      show Sem.run Try.prog (do pure (Next.value (← Instr.makeSlice 22 (v 32) (v 32)))) w' = _
      rw [e0]
      simp only [Sem.run_bind, hrun, Result.andThen, Sem.run_pure]
    · -- 12: the length's copy
      obtain rfl := Option.some.inj ho
      refine wpOp_val (v := .int .i64 (s.size : Int)) (w' := w') rfl rfl (by simp [execOp, Act.eval, A10]) ⟨upd v 34 (.int .i64 (s.size : Int)), g, rfl, ?_⟩
      exact hI.fill (c := 4) (r := 0) (by omega) (by omega) rfl
    · -- 13: + 1
      obtain rfl := Option.some.inj ho
      have d0 : LB l 12 := ha ⟨12, .data⟩ (by simp) rfl
      have e0 := hI.mv 4 (by omega) d0
      refine wpOp_val (v := .int .i64 ((s.size + 1 : Nat) : Int)) (w' := w') rfl rfl ?_ ⟨upd v 35 (.int .i64 ((s.size + 1 : Nat) : Int)), g, rfl, hI.fill (c := 4) (r := 1) (by omega) (by omega) rfl⟩
      simp [execOp, Act.eval, A10, e0, go_sem]
      rw [IntKind.wrap_i64]
      omega
    · -- 14: make
      obtain rfl := Option.some.inj ho
      have d0 : LB l 13 := ha ⟨13, .data⟩ (by simp) rfl
      have e0 := hI.ad 4 (by omega) d0
      have hu : ¬ LB l (14) := fun h => by unfold LB at h; rw [Array.getD_eq_getD_getElem?, hl] at h; simp at h
      obtain ⟨w2, hrun, hown, hgrow⟩ := run_make_full (P := Try.prog) w' { (w.alloc (.cells Z27 27)) with drawn := w.drawn + 1 }.heap.size 22 3 i3 _ 1 Try.underlying22 hi3 z30 z31 .i64 .i64 (s.size + 1) (by rw [z32]; omega) (by unfold maxLen; omega) hI.bel.size
      have hown' : w2.ownsRow { (w.alloc (.cells Z27 27)) with drawn := w.drawn + 1 }.heap.size (ty 4) 1 (.slice (some ⟨w'.heap.size, 0, none⟩) (s.size + 1) (s.size + 1)) (s.size + 1) (List.replicate (s.size + 1) (zv 4)) := by
        rw [Nat.mul_one] at hown
        have e : ∀ z : Value, z.cells = #[z] → (madeCells z.cells (s.size + 1)).toList = List.replicate (s.size + 1) z := fun z hz => by rw [hz, toList_madeCells_one]
        rw [e _ rfl] at hown
        exact hown
      refine wpOp_val (v := .slice (some ⟨w'.heap.size, 0, none⟩) (s.size + 1) (s.size + 1)) (w' := w2) rfl rfl ?_ ⟨upd v 36 (.slice (some ⟨w'.heap.size, 0, none⟩) (s.size + 1) (s.size + 1)), upd g 4 w'.heap.size, rfl, hI.make (c := 4) (by omega) hu hown' hgrow⟩
      show Sem.run Try.prog (do pure (Next.value (← Instr.makeSlice 22 (v 35) (v 35)))) w' = _
      rw [e0]
      simp only [Sem.run_bind, hrun, Result.andThen, Sem.run_pure]
    · -- 15: the struct is built
      obtain rfl := Option.some.inj ho
      have hm : ∀ c, c < 5 → LB l (3 * c + 2) := fun c hc => by
        obtain rfl | rfl | rfl | rfl | rfl : c = 0 ∨ c = 1 ∨ c = 2 ∨ c = 3 ∨ c = 4 := by omega
        · exact ha ⟨2, .data⟩ (by simp) rfl
        · exact ha ⟨5, .data⟩ (by simp) rfl
        · exact ha ⟨8, .data⟩ (by simp) rfl
        · exact ha ⟨11, .data⟩ (by simp) rfl
        · exact ha ⟨14, .data⟩ (by simp) rfl
      have hu : ¬ LB l 15 := fun h => by unfold LB at h; rw [Array.getD_eq_getD_getElem?, hl] at h; simp at h
      refine wpOp_val (v := .agg #[v 24, v 27, v 30, v 33, v 36]) (w' := w') rfl rfl ?_ ⟨upd v 37 (.agg #[v 24, v 27, v 30, v 33, v 36]), g, rfl, hI.build hm hu⟩
      have hb : Try.prog.built 27 [(0, v 24), (1, v 27), (2, v 30), (3, v 33), (4, v 36)] = some #[v 24, v 27, v 30, v 33, v 36] := by
        rw [(hI.mak 0 (by omega) (hm 0 (by omega))).1, (hI.mak 1 (by omega) (hm 1 (by omega))).1, (hI.mak 2 (by omega) (hm 2 (by omega))).1, (hI.mak 3 (by omega) (hm 3 (by omega))).1, (hI.mak 4 (by omega) (hm 4 (by omega))).1]
        kernel_rfl
      have hrb := run_build w' 27 #[(0, v 24), (1, v 27), (2, v 30), (3, v 33), (4, v 36)] _ hb
      simp [execOp, Act.eval, A10, hrb, Result.andThen]
    · -- 16: the variable's block
      obtain rfl := Option.some.inj ho
      have hu : ¬ LB l 16 := fun h => by unfold LB at h; rw [Array.getD_eq_getD_getElem?, hl] at h; simp at h
      have hal : (Instr.alloc 27 true (.tuple #[])).run Try.prog w' = .ok (.pointer (some ⟨w'.heap.size, 0, none⟩)) (w'.alloc (.cells Z27 27)) := by kernel_rfl
      refine wpOp_val (v := .pointer (some ⟨w'.heap.size, 0, none⟩)) (w' := w'.alloc (.cells Z27 27)) rfl rfl ?_ ⟨upd v 7 (.pointer (some ⟨w'.heap.size, 0, none⟩)), upd g 5 w'.heap.size, rfl, hI.allocs hu⟩
      show Sem.run Try.prog (do pure (Next.value (← Instr.alloc 27 true (.tuple #[])))) w' = _
      rw [Sem.run_bind, hal]
      rfl
    · -- 17: the store
      obtain rfl := Option.some.inj ho
      have d15 : LB l 15 := ha ⟨15, .data⟩ (by simp) rfl
      have d16 : LB l 16 := ha ⟨16, .data⟩ (by simp) rfl
      have hu : ¬ LB l 17 := fun h => by unfold LB at h; rw [Array.getD_eq_getD_getElem?, hl] at h; simp at h
      obtain ⟨a1, a2, a3, a4⟩ := hI.al d16
      have hm := (hI.bd d15).2
      have hcell : (#[v 24, v 27, v 30, v 33, v 36] : Array Value).all (·.oneCell') = true := by
        rw [(hI.mak 0 (by omega) (hm 0 (by omega))).1, (hI.mak 1 (by omega) (hm 1 (by omega))).1, (hI.mak 2 (by omega) (hm 2 (by omega))).1, (hI.mak 3 (by omega) (hm 3 (by omega))).1, (hI.mak 4 (by omega) (hm 4 (by omega))).1]
        simp [Value.oneCell']
      refine wpOp_wp rfl rfl (wp_store_row 27 (.tmp 7) (.tmp 37) rfl (g 5) #[v 24, v 27, v 30, v 33, v 36] (by simp [Act.eval, A10, a1]) (by simp [Act.eval, A10, (hI.bd d15).1]) 27 Z27 (a4 hu) (by kernel_rfl) rfl hcell ⟨v, g, rfl, ?_⟩)
      exact hI.store (by rw [hsz]; decide) d15 d16 (below_set a2 _) (fun k hk => setRow_other _ _ _ _ hk) (by simp) (setRow_heap _ _ _ _ _ _ (a4 hu))
end Go.Proofs.Qxb6602276a

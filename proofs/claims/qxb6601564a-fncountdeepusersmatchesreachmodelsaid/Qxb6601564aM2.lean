import Derived.Test.Qxb6601564aM1
import Derived.Test.Qxb6601564aP3
import Derived.Deep.AppendLies
import Derived.Deep.DeepCutAuto
import Derived.Deep.LoopGhost
namespace Go.Proofs.Qxb6601564a
open Go.RowKit
set_option linter.unusedVariables false

theorem nm_old {names : List ByteArray} {s : ByteArray} (h : ix names s < names.length) : nmIx names s = (ix names s : Int) := by unfold nmIx; rw [if_pos h]
theorem nm_new {names : List ByteArray} {s : ByteArray} (h : ¬ ix names s < names.length) : nmIx names s = -1 := by unfold nmIx; rw [if_neg h]
theorem ix_new {names : List ByteArray} {s : ByteArray} (h : ¬ ix names s < names.length) : ix names s = names.length := by have := ix_le names s; omega

/-- What stands in memory at g. -/
def M5 (w : World) (H : Nat) (g : Gr) (an : Option Addr) (cn : Nat) (ag : Option Addr) (cg : Nat) (au : Option Addr) (cu : Nat) (af : Option Addr) (cf : Nat) (at' : Option Addr) (ct : Nat) : Prop :=
  MS w H (five an cn g.names ag cg g.gr au cu g.us af cf (g.E.map (·.1)) at' ct (g.E.map (·.2)))

set_option maxHeartbeats 3200000 in
set_option maxRecDepth 100000 in
theorem model_any (a : Option Addr) (n cap : Nat) (kd : Nat → ByteArray) (fl : Nat → Nat) (fs : Nat → Nat → ByteArray) (b off : Nat) (m : Option Nat) (role : ByteArray → Bool) (w : World) (hn : n ≤ 512) (hn0 : 0 < n)
    (hR : RecsAt w a n kd fl fs b off) (hok : RecsOk n kd fl fs) (hwf : ∀ i, i < n → 1 ≤ fl i ∧ (isP (kd i) = false → 2 ≤ fl i)) (hr : RoleAt w m role) :
    Calls Try.prog 10 #[.slice a n cap, .map m] w fun e w' => CountIs n kd fs role e ∧ Below w.heap.size w w' := by
  obtain rfl := hR.addr hn0
  have HH : Hid (RecsAt w (some ⟨b, off, none⟩) n kd fl fs b off ∧ RecsOk n kd fl fs ∧ (∀ i, i < n → 1 ≤ fl i ∧ (isP (kd i) = false → 2 ≤ fl i)) ∧ RoleAt w m role) := ⟨hR, hok, hwf, hr⟩
  clear hR hok hwf hr
  obtain ⟨i3, hi3, z30, z31, z32⟩ := info_parts Try.info3
  obtain ⟨i4, hi4, z40, z41, z42⟩ := info_parts Try.info4
  obtain ⟨i9, hi9, z90, z91, z92⟩ := info_parts Try.info9
  go_enter Try.func10, Try.ntmps10
  go_wp2
  obtain ⟨H, hH⟩ : ∃ x, x = w.heap.size := ⟨_, rfl⟩
  have HHs : Hid (H = w.heap.size) := hH
  have hst : M5 w H Gr.empty none 0 none 0 none 0 none 0 none 0 := by
    refine ⟨fun i r hr => ?_, fun i j r r' hij hr hr' => ?_⟩
    · obtain rfl | rfl | rfl | rfl | rfl | hi : i = 0 ∨ i = 1 ∨ i = 2 ∨ i = 3 ∨ i = 4 ∨ 5 ≤ i := by omega
      all_goals first
        | (obtain rfl := Option.some.inj hr; exact World.ownsRow_nil _ _ _ _)
        | (simp [five, List.getElem?_eq_none (show ([_, _, _, _, _] : List Rw).length ≤ i from hi)] at hr)
    · intro bb hb
      exfalso
      obtain rfl | rfl | rfl | rfl | rfl | hi : i = 0 ∨ i = 1 ∨ i = 2 ∨ i = 3 ∨ i = 4 ∨ 5 ≤ i := by omega
      all_goals first
        | (obtain rfl := Option.some.inj hr; simp [Rw.val, Value.ownBlock] at hb)
        | (simp [five, List.getElem?_eq_none (show ([_, _, _, _, _] : List Rw).length ≤ i from hi)] at hr)
  have hb0 : Below H w w := Below.refl _ _
  clear hH
  go_loopw [5, 6, 7, 8, 9, 10] (fun v5 v6 v7 v8 v9 i wr => ∃ (k : Nat) (an : Option Addr) (cn : Nat) (ag : Option Addr) (cg : Nat) (au : Option Addr) (cu : Nat) (af : Option Addr) (cf : Nat) (at' : Option Addr) (ct : Nat), k ≤ n ∧ i = .int .i64 k ∧
      v5 = .slice an (Gr.upto role (rcOf kd fs) k).names.length cn ∧ v6 = .slice ag (Gr.upto role (rcOf kd fs) k).names.length cg ∧ v7 = .slice au (Gr.upto role (rcOf kd fs) k).names.length cu ∧ v8 = .slice af (Gr.upto role (rcOf kd fs) k).E.length cf ∧ v9 = .slice at' (Gr.upto role (rcOf kd fs) k).E.length ct ∧
      M5 wr H (Gr.upto role (rcOf kd fs) k) an cn ag cg au cu af cf at' ct ∧ Below H w wr) (fun _ _ _ _ _ i _ => n - (intOf i).toNat)
  case atStart => exact ⟨0, none, 0, none, 0, none, 0, none, 0, none, 0, by omega, rfl, rfl, rfl, rfl, rfl, rfl, hst, hb0⟩
  case round =>
    clear hst hb0
    obtain ⟨k, an, cn, ag, cg, au, cu, af, cf, at', ct, hk, rfl, rfl, rfl, rfl, rfl, rfl, hM, hBr⟩ := hrel
    have hI := Inv.upto role (rcOf kd fs) k
    have hNl := (upto_len role (rcOf kd fs) k).1
    have hEl := (upto_len role (rcOf kd fs) k).2
    have hBw : Below w.heap.size w wr := by rw [← HHs.out]; exact hBr
    have hHle : H ≤ wr.heap.size := by rw [HHs.out]; exact hBr.size
    by_cases hlt : k < n
    · have HG : Hid (Gr.upto role (rcOf kd fs) (k + 1) = (Gr.upto role (rcOf kd fs) k).step role (rcOf kd fs k)) := rfl
      generalize Gr.upto role (rcOf kd fs) k = g at hM hI hNl hEl HG ⊢
      have HI : Hid (Inv role g) := hI
      have hlg : g.gr.length = g.names.length := hI.lgr
      have hlu : g.us.length = g.names.length := hI.lus
      obtain ⟨line, fa, fc, fb, fo, c0, c1, c2, hrow, hfn⟩ := HH.out.1.recs k hlt
      have hfl1 := (HH.out.2.2.1 k hlt).1
      obtain rfl := hrow.addr (by omega)
      have d0 := hrow.cell 0 (by omega)
      simp only [Nat.add_zero] at d0
      have HRW : Hid (Row w (some ⟨fb, fo, none⟩) (fl k) (fun j => .string (fs k j)) fb fo) := hrow
      have e1 := cell_below hBw c1
      have e2 := cell_below hBw c2
      have e3 := cell_below hBw d0
      have hfl1' : (0 : Int) < fl k := by omega
      have hklt : (k : Int) < n := by omega
      have HCW : Hid (w.cell? ⟨b, off + k * 3 + 1, none⟩ = some (.string (kd k)) ∧ w.cell? ⟨b, off + k * 3 + 2, none⟩ = some (.slice (some ⟨fb, fo, none⟩) (fl k) fc) ∧ w.cell? ⟨fb, fo, none⟩ = some (.string (fs k 0))) := ⟨c1, c2, d0⟩
      obtain ⟨qn, hrn⟩ := five_rowN hM
      have HRN : Hid (Row wr an g.names.length (fun i => .string (g.names.getD i ByteArray.empty)) qn 0) := hrn
      clear c0 c1 c2 d0 hrow hfn hrn hI
      go_upto_if 39 with ((go_at_call 14; refine (nameIndex_any an g.names.length cn g.names (fs k 0) qn 0 _ rfl (by omega) HRN.out).mono ?_; rintro e w' ⟨rfl, rfl⟩))
      generalize hz : nmIx g.names (fs k 0) = z
      have HZ : Hid (nmIx g.names (fs k 0) = z) := hz
      clear hz HRN
      have HM : Hid (M5 wr H g an cn ag cg au cu af cf at' ct) := hM
      have hN1 : g.names.length ≤ 1024 := by omega
      go_cut [5, 6, 7, 11] (fun v5 v6 v7 v11 wx => ∃ (an : Option Addr) (cn : Nat) (ag : Option Addr) (cg : Nat) (au : Option Addr) (cu : Nat), v5 = .slice an (g.add (fs k 0)).names.length cn ∧ v6 = .slice ag (g.add (fs k 0)).names.length cg ∧ v7 = .slice au (g.add (fs k 0)).names.length cu ∧ v11 = .int .i64 (ix g.names (fs k 0) : Int) ∧
          M5 wx H (g.add (fs k 0)) an cn ag cg au cu af cf at' ct ∧ Below H w wx)
      case first =>
        by_cases ho : ix g.names (fs k 0) < g.names.length
        · have hzz : ¬ z < 0 := by rw [← HZ.out, nm_old ho]; omega
          have HO : Hid (g.add (fs k 0) = g ∧ z = (ix g.names (fs k 0) : Int)) := ⟨add_names_of_lt ho, by rw [← HZ.out, nm_old ho]⟩
          clear hM ho hBw
          go_wp2
          go_meet
          refine ⟨an, cn, ag, cg, au, cu, ?_⟩
          rw [HO.out.1, HO.out.2]
          exact ⟨rfl, rfl, rfl, rfl, HM.out, hBr⟩
        · have hzz : z < 0 := by rw [← HZ.out, nm_new ho]; omega
          have hn0 := five_own0 hM
          have HO : Hid (g.add (fs k 0) = { g with names := g.names ++ [fs k 0], gr := g.gr ++ [false], us := g.us ++ [false] } ∧ ix g.names (fs k 0) = g.names.length) := ⟨add_of_not ho, ix_new ho⟩
          clear hM ho hBw
          go_wp2_with (at_builtin; refine wpList_append_lies _ rfl _ _ 29 rfl H 9 i9 (.string ByteArray.empty) 1 16 Try.underlying29 hi9 z90 z91 z92 rfl (by omega) (.slice an g.names.length cn) g.names.length (g.names.map .string) rfl (hn0.alloc _) ⟨wr.heap.size, 0, none⟩ 1 1 [.string (fs k 0)] rfl rfl (news_one wr _ 9) (by simp [Value.oneCell']) (by omega) (by unfold maxLen; omega) (by omega) (by simp; omega) (wr.heap.size + 1) (by simp) ?_)
          intro q1 p1 w1 hown1 hgr1 hat1 hlt1
          have hM1 := five_app0 (MS.alloc HM.out (.cells #[.string (fs k 0)] 9)) (x := fs k 0) hown1 hgr1 (hat1.imp id (fun h => by rw [h]; simp))
          have hB1 : Below H w w1 := (hBr.alloc hHle _).grown hgr1 (by simp; omega) (fun j hj => MS.blk HM.out (k := 0) (r := ⟨9, an, cn, g.names.map .string⟩) rfl j (by simpa [Rw.val] using hj))
          have hH1 : H ≤ w1.heap.size := Nat.le_trans (Nat.le_trans hHle (by simp)) hgr1.size
          have HM1 : Hid _ := hM1
          have hn1 := five_own1 hM1
          clear hn0 hM1 hown1 hgr1 hat1 hlt1
          rw [hlg] at hn1
          go_wp2_with (at_builtin; refine wpList_append_lies _ rfl _ _ 38 rfl H 4 i4 (.bool false) 1 1 Try.underlying38 hi4 z40 z41 z42 rfl (by omega) (.slice ag g.names.length cg) g.names.length (g.gr.map .bool) rfl (hn1.alloc _) ⟨w1.heap.size, 0, none⟩ 1 1 [.bool false] rfl rfl (news_one w1 _ 4) (by simp [Value.oneCell']) (by omega) (by unfold maxLen; omega) (by omega) (by simp; omega) (w1.heap.size + 1) (by simp) ?_)
          intro q2 p2 w2 hown2 hgr2 hat2 hlt2
          have hM2 := five_app1 (MS.alloc HM1.out (.cells #[.bool false] 4)) (x := false) (by rw [hlg]; exact hown2) (by rw [hlg]; exact hgr2) (by rw [hlg]; exact hat2.imp id (fun h => by rw [h]; simp))
          have hB2 : Below H w w2 := (hB1.alloc hH1 _).grown hgr2 (by simp; omega) (fun j hj => MS.blk HM1.out (k := 1) (r := ⟨4, ag, cg, g.gr.map .bool⟩) rfl j (by simpa [Rw.val, hlg] using hj))
          have hH2 : H ≤ w2.heap.size := Nat.le_trans (Nat.le_trans hH1 (by simp)) hgr2.size
          have HM2 : Hid _ := hM2
          have hn2 := five_own2 hM2
          rw [hlu] at hn2
          clear hn1 hM2 hown2 hgr2 hat2 hlt2
          go_wp2_with (at_builtin; refine wpList_append_lies _ rfl _ _ 38 rfl H 4 i4 (.bool false) 1 1 Try.underlying38 hi4 z40 z41 z42 rfl (by omega) (.slice au g.names.length cu) g.names.length (g.us.map .bool) rfl (hn2.alloc _) ⟨w2.heap.size, 0, none⟩ 1 1 [.bool false] rfl rfl (news_one w2 _ 4) (by simp [Value.oneCell']) (by omega) (by unfold maxLen; omega) (by omega) (by simp; omega) (w2.heap.size + 1) (by simp) ?_)
          intro q3 p3 w3 hown3 hgr3 hat3 hlt3
          have hM3 := five_app2 (MS.alloc HM2.out (.cells #[.bool false] 4)) (x := false) (by rw [hlu]; exact hown3) (by rw [hlu]; exact hgr3) (by rw [hlu]; exact hat3.imp id (fun h => by rw [h]; simp))
          have hB3 : Below H w w3 := (hB2.alloc hH2 _).grown hgr3 (by simp; omega) (fun j hj => MS.blk HM2.out (k := 2) (r := ⟨4, au, cu, g.us.map .bool⟩) rfl j (by simpa [Rw.val, hlu] using hj))
          have HM3 : Hid _ := hM3
          clear hn2 hM3 hown3 hgr3 hat3 hlt3
          go_wp2
          go_meet
          refine ⟨some ⟨q1, 0, none⟩, p1, some ⟨q2, 0, none⟩, p2, some ⟨q3, 0, none⟩, p3, ?_⟩
          rw [HO.out.1, HO.out.2]
          exact ⟨by simp, by simp, by simp, by go_num, HM3.out, hB3⟩
      case rest =>
        clear hM hBr hBw hHle HM
        obtain ⟨an, cn, ag, cg, au, cu, rfl, rfl, rfl, rfl, hM, hBr⟩ := hcut
        have hBw : Below w.heap.size w wc := by rw [← HHs.out]; exact hBr
        have hHc : H ≤ wc.heap.size := by rw [HHs.out]; exact hBr.size
        obtain ⟨c1, c2, d0⟩ := HCW.out
        clear e1 e2 e3
        have e1 := cell_below hBw c1
        have e2 := cell_below hBw c2
        have e3 := cell_below hBw d0
        have hI1 := HI.out.add (fs k 0)
        have hia := add_lt g (fs k 0)
        have hNa := (add_len g (fs k 0)).2
        have hEa := (add_E g (fs k 0)).1
        have hlg1 := hI1.lgr
        have hlu1 := hI1.lus
        generalize hia0 : ix g.names (fs k 0) = ia at hia ⊢
        obtain ⟨g1, hg1⟩ : ∃ x, x = g.add (fs k 0) := ⟨_, rfl⟩
        rw [← hg1] at hM hI1 hia hNa hEa hlg1 hlu1 ⊢
        have HI1 : Hid (Inv role g1) := hI1
        have HG1 : Hid (g1 = g.add (fs k 0) ∧ ix g.names (fs k 0) = ia) := ⟨hg1, hia0⟩
        have HEa : Hid (g1.E = g.E) := hEa
        have hia' : (ia : Int) < g1.names.length := by omega
        have hEl1 : g1.E.length ≤ 512 := by rw [hEa]; omega
        have hNg1 : g1.names.length ≤ 1024 := by omega
        clear c1 c2 d0 hI1 hg1 hia0 HZ hlg hlu hEa hNa hNl hN1 hEl
        by_cases hp : isP (kd k) = true
        · have hp' : ((kd k).toList == [112]) = true := hp
          obtain ⟨bv, hbv⟩ : ∃ x, g1.gr[ia]? = some x := ⟨g1.gr[ia]'(by omega), List.getElem?_eq_getElem (by omega)⟩
          obtain ⟨qg, rfl, hcg, hfg, _, _⟩ := five_cell1 hM hbv
          have hM1 := five_put1 hM ia true
          have HST : Hid (Gr.upto role (rcOf kd fs) (k + 1) = { g1 with gr := g1.gr.set ia true }) := by
            show _ = _
            rw [HG.out, HG1.out.1, ← HG1.out.2]
            simp [Gr.step, rcOf, hp, Gr.grant]
          have HF : Hid (M5 (wc.setCell ⟨qg, ia, none⟩ (.bool true)) H { g1 with gr := g1.gr.set ia true } an cn (some ⟨qg, 0, none⟩) cg au cu af cf at' ct ∧ Below H w (wc.setCell ⟨qg, ia, none⟩ (.bool true))) :=
            ⟨hM1, hBr.setCell (p := ⟨qg, ia, none⟩) (by rename_i h1 h2; exact h1) _⟩
          have hcg' : wc.cell? ⟨qg, ia, none⟩ = some (.bool bv) := hcg
          clear hM hM1 hp hcg hbv hBw
          go_wp2
          go_roundw
          case rel =>
            refine ⟨k + 1, an, cn, some ⟨qg, 0, none⟩, cg, au, cu, af, cf, at', ct, by omega, by go_num, ?_⟩
            rw [HST.out]
            exact ⟨rfl, rfl, rfl, by simp [HEa.out], by simp [HEa.out], HF.out.1, HF.out.2⟩
          case measure => simp [intOf]; omega
        · have hp' : ((kd k).toList == [112]) = false := by have : isP (kd k) = false := by simpa using hp
                                                            exact this
          have hpf : isP (kd k) = false := by simpa using hp
          have hfl2 := (HH.out.2.2.1 k hlt).2 hpf
          have d1 := HRW.out.cell 1 (by omega)
          have e4 := cell_below hBw d1
          have hfl2' : (1 : Int) < fl k := by omega
          obtain ⟨qn, hrn⟩ := five_rowN hM
          have HRN : Hid (Row wc an g1.names.length (fun i => .string (g1.names.getD i ByteArray.empty)) qn 0) := hrn
          have HPF : Hid (isP (kd k) = false) := hpf
          clear d1 hrn hpf hp hBw
          go_upto_if 78 with ((go_at_call 14; refine (nameIndex_any an g1.names.length cn g1.names (fs k 1) qn 0 _ rfl (by omega) HRN.out).mono ?_; rintro e w' ⟨rfl, rfl⟩))
          have hHle := hHc
          generalize hz : nmIx g1.names (fs k 1) = z
          have HZ : Hid (nmIx g1.names (fs k 1) = z) := hz
          clear hz HRN
          have HM : Hid (M5 wc H g1 an cn ag cg au cu af cf at' ct) := hM
          have hN1 : g1.names.length ≤ 1024 := by omega
          go_cut [5, 6, 7, 12] (fun v5 v6 v7 v12 wx => ∃ (an : Option Addr) (cn : Nat) (ag : Option Addr) (cg : Nat) (au : Option Addr) (cu : Nat), v5 = .slice an (g1.add (fs k 1)).names.length cn ∧ v6 = .slice ag (g1.add (fs k 1)).names.length cg ∧ v7 = .slice au (g1.add (fs k 1)).names.length cu ∧ v12 = .int .i64 (ix g1.names (fs k 1) : Int) ∧
              M5 wx H (g1.add (fs k 1)) an cn ag cg au cu af cf at' ct ∧ Below H w wx)
          case first =>
            by_cases ho : ix g1.names (fs k 1) < g1.names.length
            · have hzz : ¬ z < 0 := by rw [← HZ.out, nm_old ho]; omega
              have HO : Hid (g1.add (fs k 1) = g1 ∧ z = (ix g1.names (fs k 1) : Int)) := ⟨add_names_of_lt ho, by rw [← HZ.out, nm_old ho]⟩
              clear hM ho
              go_wp2
              go_meet
              refine ⟨an, cn, ag, cg, au, cu, ?_⟩
              rw [HO.out.1, HO.out.2]
              exact ⟨rfl, rfl, rfl, rfl, HM.out, hBr⟩
            · have hzz : z < 0 := by rw [← HZ.out, nm_new ho]; omega
              have hn0 := five_own0 hM
              have HO : Hid (g1.add (fs k 1) = { g1 with names := g1.names ++ [fs k 1], gr := g1.gr ++ [false], us := g1.us ++ [false] } ∧ ix g1.names (fs k 1) = g1.names.length) := ⟨add_of_not ho, ix_new ho⟩
              clear hM ho
              go_wp2_with (at_builtin; refine wpList_append_lies _ rfl _ _ 29 rfl H 9 i9 (.string ByteArray.empty) 1 16 Try.underlying29 hi9 z90 z91 z92 rfl (by omega) (.slice an g1.names.length cn) g1.names.length (g1.names.map .string) rfl (hn0.alloc _) ⟨wc.heap.size, 0, none⟩ 1 1 [.string (fs k 1)] rfl rfl (news_one wc _ 9) (by simp [Value.oneCell']) (by omega) (by unfold maxLen; omega) (by omega) (by simp; omega) (wc.heap.size + 1) (by simp) ?_)
              intro q1 p1 w1 hown1 hgr1 hat1 hlt1
              have hM1 := five_app0 (MS.alloc HM.out (.cells #[.string (fs k 1)] 9)) (x := fs k 1) hown1 hgr1 (hat1.imp id (fun h => by rw [h]; simp))
              have hB1 : Below H w w1 := (hBr.alloc hHc _).grown hgr1 (by simp; omega) (fun j hj => MS.blk HM.out (k := 0) (r := ⟨9, an, cn, g1.names.map .string⟩) rfl j (by simpa [Rw.val] using hj))
              have hH1 : H ≤ w1.heap.size := Nat.le_trans (Nat.le_trans hHc (by simp)) hgr1.size
              have HM1 : Hid _ := hM1
              have hn1 := five_own1 hM1
              clear hn0 hM1 hown1 hgr1 hat1 hlt1
              rw [hlg1] at hn1
              go_wp2_with (at_builtin; refine wpList_append_lies _ rfl _ _ 38 rfl H 4 i4 (.bool false) 1 1 Try.underlying38 hi4 z40 z41 z42 rfl (by omega) (.slice ag g1.names.length cg) g1.names.length (g1.gr.map .bool) rfl (hn1.alloc _) ⟨w1.heap.size, 0, none⟩ 1 1 [.bool false] rfl rfl (news_one w1 _ 4) (by simp [Value.oneCell']) (by omega) (by unfold maxLen; omega) (by omega) (by simp; omega) (w1.heap.size + 1) (by simp) ?_)
              intro q2 p2 w2 hown2 hgr2 hat2 hlt2
              have hM2 := five_app1 (MS.alloc HM1.out (.cells #[.bool false] 4)) (x := false) (by rw [hlg1]; exact hown2) (by rw [hlg1]; exact hgr2) (by rw [hlg1]; exact hat2.imp id (fun h => by rw [h]; simp))
              have hB2 : Below H w w2 := (hB1.alloc hH1 _).grown hgr2 (by simp; omega) (fun j hj => MS.blk HM1.out (k := 1) (r := ⟨4, ag, cg, g1.gr.map .bool⟩) rfl j (by simpa [Rw.val, hlg1] using hj))
              have hH2 : H ≤ w2.heap.size := Nat.le_trans (Nat.le_trans hH1 (by simp)) hgr2.size
              have HM2 : Hid _ := hM2
              have hn2 := five_own2 hM2
              rw [hlu1] at hn2
              clear hn1 hM2 hown2 hgr2 hat2 hlt2
              go_wp2_with (at_builtin; refine wpList_append_lies _ rfl _ _ 38 rfl H 4 i4 (.bool false) 1 1 Try.underlying38 hi4 z40 z41 z42 rfl (by omega) (.slice au g1.names.length cu) g1.names.length (g1.us.map .bool) rfl (hn2.alloc _) ⟨w2.heap.size, 0, none⟩ 1 1 [.bool false] rfl rfl (news_one w2 _ 4) (by simp [Value.oneCell']) (by omega) (by unfold maxLen; omega) (by omega) (by simp; omega) (w2.heap.size + 1) (by simp) ?_)
              intro q3 p3 w3 hown3 hgr3 hat3 hlt3
              have hM3 := five_app2 (MS.alloc HM2.out (.cells #[.bool false] 4)) (x := false) (by rw [hlu1]; exact hown3) (by rw [hlu1]; exact hgr3) (by rw [hlu1]; exact hat3.imp id (fun h => by rw [h]; simp))
              have hB3 : Below H w w3 := (hB2.alloc hH2 _).grown hgr3 (by simp; omega) (fun j hj => MS.blk HM2.out (k := 2) (r := ⟨4, au, cu, g1.us.map .bool⟩) rfl j (by simpa [Rw.val, hlu1] using hj))
              have HM3 : Hid _ := hM3
              clear hn2 hM3 hown3 hgr3 hat3 hlt3
              go_wp2
              go_meet
              refine ⟨some ⟨q1, 0, none⟩, p1, some ⟨q2, 0, none⟩, p2, some ⟨q3, 0, none⟩, p3, ?_⟩
              rw [HO.out.1, HO.out.2]
              exact ⟨by simp, by simp, by simp, by go_num, HM3.out, hB3⟩
          case rest =>
            clear hM hBr hHle HM hHc e1 e2 e3 e4
            obtain ⟨an, cn, ag, cg, au, cu, rfl, rfl, rfl, rfl, hM, hBr⟩ := hcut
            have hBw : Below w.heap.size w wc := by rw [← HHs.out]; exact hBr
            have hHc : H ≤ wc.heap.size := by rw [HHs.out]; exact hBr.size
            have hI2 := HI1.out.add (fs k 1)
            have hib := add_lt g1 (fs k 1)
            have hNb := (add_len g1 (fs k 1)).2
            have hNb' := (add_len g1 (fs k 1)).1
            have hEb := (add_E g1 (fs k 1)).1
            have hlg2 := hI2.lgr
            have hlu2 := hI2.lus
            have HST : Hid (Gr.upto role (rcOf kd fs) (k + 1) = (g1.add (fs k 1)).tie (role (fs k 0)) ia (ix g1.names (fs k 1))) := by
              show _ = _
              rw [HG.out, HG1.out.1, ← HG1.out.2]
              simp [Gr.step, rcOf, HPF.out, Gr.link]
            generalize ix g1.names (fs k 1) = ib at hib HST ⊢
            generalize g1.add (fs k 1) = g2 at hM hI2 hib hNb hNb' hEb hlg2 hlu2 HST ⊢
            have HEb : Hid (g2.E = g.E) := by show _ = _; rw [hEb, HEa.out]
            have hEl2 : g.E.length ≤ 512 := by rw [← HEa.out]; exact hEl1
            have hia2 : ia < g2.names.length := by omega
            have hia2' : (ia : Int) < g2.names.length := by omega
            obtain ⟨FL, hFL⟩ : ∃ l, l = g2.E.map (·.1) := ⟨_, rfl⟩
            obtain ⟨TL, hTL⟩ : ∃ l, l = g2.E.map (·.2) := ⟨_, rfl⟩
            have hM' : MS wc H (five an cn g2.names ag cg g2.gr au cu g2.us af cf FL at' ct TL) := by rw [hFL, hTL]; exact hM
            have hFl : FL.length = g.E.length := by rw [hFL, List.length_map, HEb.out]
            have hTl : TL.length = g.E.length := by rw [hTL, List.length_map, HEb.out]
            have HFL : Hid (FL = g2.E.map (·.1) ∧ TL = g2.E.map (·.2)) := ⟨hFL, hTL⟩
            have hf := five_own3 hM'
            rw [hFl] at hf
            have hs0 := HH.out.2.1.hs k hlt 0 (by omega)
            have HM : Hid (MS wc H (five an cn g2.names ag cg g2.gr au cu g2.us af cf FL at' ct TL)) := hM'
            clear hM hM' hFL hTL hI2 hNb hNb' hEb hlg2 hBw
            go_wp2_with (at_builtin; refine wpList_append_lies _ rfl _ _ 35 rfl H 3 i3 (.int .i64 0) 1 8 Try.underlying35 hi3 z30 z31 z32 rfl (by omega) (.slice af g.E.length cf) g.E.length (FL.map nI) rfl (hf.alloc _) ⟨wc.heap.size, 0, none⟩ 1 1 [.int .i64 ia] rfl rfl (news_one wc _ 3) (by simp [Value.oneCell']) (by omega) (by unfold maxLen; omega) (by omega) (by simp; omega) (wc.heap.size + 1) (by simp) ?_)
            intro q1 p1 w1 hown1 hgr1 hat1 hlt1
            have hM1 := five_app3 (MS.alloc HM.out (.cells #[.int .i64 ia] 3)) (x := ia) (by rw [hFl]; exact hown1) (by rw [hFl]; exact hgr1) (by rw [hFl]; exact hat1.imp id (fun h => by rw [h]; simp))
            have hB1 : Below H w w1 := (hBr.alloc hHc _).grown hgr1 (by simp; omega) (fun j hj => MS.blk HM.out (k := 3) (r := ⟨3, af, cf, FL.map nI⟩) rfl j (by simpa [Rw.val, hFl] using hj))
            have hH1 : H ≤ w1.heap.size := Nat.le_trans (Nat.le_trans hHc (by simp)) hgr1.size
            have HM1 : Hid _ := hM1
            have ht := five_own4 hM1
            rw [hTl] at ht
            clear hf hM1 hown1 hgr1 hat1 hlt1
            go_wp2_with (at_builtin; refine wpList_append_lies _ rfl _ _ 35 rfl H 3 i3 (.int .i64 0) 1 8 Try.underlying35 hi3 z30 z31 z32 rfl (by omega) (.slice at' g.E.length ct) g.E.length (TL.map nI) rfl (ht.alloc _) ⟨w1.heap.size, 0, none⟩ 1 1 [.int .i64 ib] rfl rfl (news_one w1 _ 3) (by simp [Value.oneCell']) (by omega) (by unfold maxLen; omega) (by omega) (by simp; omega) (w1.heap.size + 1) (by simp) ?_)
            intro q2 p2 w2 hown2 hgr2 hat2 hlt2
            have hM2 := five_app4 (MS.alloc HM1.out (.cells #[.int .i64 ib] 3)) (x := ib) (by rw [hTl]; exact hown2) (by rw [hTl]; exact hgr2) (by rw [hTl]; exact hat2.imp id (fun h => by rw [h]; simp))
            have hB2 : Below H w w2 := (hB1.alloc hH1 _).grown hgr2 (by simp; omega) (fun j hj => MS.blk HM1.out (k := 4) (r := ⟨3, at', ct, TL.map nI⟩) rfl j (by simpa [Rw.val, hTl] using hj))
            have hBw : Below w.heap.size w w2 := by rw [← HHs.out]; exact hB2
            obtain ⟨c1, c2, d0⟩ := HCW.out
            have e2 := cell_below hBw c2
            have e3 := cell_below hBw d0
            have hrole := HH.out.2.2.2 w2 hBw (fs k 0) hs0
            obtain ⟨bv, hbv⟩ : ∃ x, g2.us[ia]? = some x := ⟨g2.us[ia]'(by omega), List.getElem?_eq_getElem (by omega)⟩
            obtain ⟨qu, rfl, hcu, hfu, hqu, _⟩ := five_cell2 hM2 hbv
            have hcu' : w2.cell? ⟨qu, ia, none⟩ = some (.bool bv) := hcu
            have hM3 := five_put2 hM2 ia true
            have HF0 : Hid (M5 w2 H (g2.tie true ia ib) an cn ag cg (some ⟨qu, 0, none⟩) cu (some ⟨q1, 0, none⟩) p1 (some ⟨q2, 0, none⟩) p2 ∧ Below H w w2) := by
              refine ⟨?_, hB2⟩
              unfold M5 Gr.tie
              simp only [List.map_append, List.map_cons, List.map_nil, if_true]
              rw [← HFL.out.1, ← HFL.out.2]
              exact hM2
            have HF1 : Hid (M5 (w2.setCell ⟨qu, ia, none⟩ (.bool true)) H (g2.tie false ia ib) an cn ag cg (some ⟨qu, 0, none⟩) cu (some ⟨q1, 0, none⟩) p1 (some ⟨q2, 0, none⟩) p2 ∧ Below H w (w2.setCell ⟨qu, ia, none⟩ (.bool true))) := by
              refine ⟨?_, hB2.setCell (p := ⟨qu, ia, none⟩) hqu _⟩
              unfold M5 Gr.tie
              simp only [List.map_append, List.map_cons, List.map_nil, Bool.false_eq_true, if_false]
              rw [← HFL.out.1, ← HFL.out.2]
              exact hM3
            have hEt : ∀ c, (g2.tie c ia ib).E.length = g.E.length + 1 := fun c => by simp [Gr.tie, HEb.out]
            have HET : Hid (∀ c, (g2.tie c ia ib).E.length = g.E.length + 1) := hEt
            clear c1 c2 d0 hM2 hM3 ht hown2 hgr2 hat2 hlt2 hB2 hBw hcu hbv hEt
            generalize role (fs k 0) = rl at hrole HST
            cases rl with
            | true =>
              go_wp2
              go_roundw
              case rel =>
                refine ⟨k + 1, an, cn, ag, cg, some ⟨qu, 0, none⟩, cu, some ⟨q1, 0, none⟩, p1, some ⟨q2, 0, none⟩, p2, by omega, by go_num, ?_⟩
                rw [HST.out]
                exact ⟨rfl, rfl, rfl, by rw [HET.out], by rw [HET.out], HF0.out.1, HF0.out.2⟩
              case measure => simp [intOf]; omega
            | false =>
              go_wp2
              go_roundw
              case rel =>
                refine ⟨k + 1, an, cn, ag, cg, some ⟨qu, 0, none⟩, cu, some ⟨q1, 0, none⟩, p1, some ⟨q2, 0, none⟩, p2, by omega, by go_num, ?_⟩
                rw [HST.out]
                exact ⟨rfl, rfl, rfl, by rw [HET.out], by rw [HET.out], HF1.out.1, HF1.out.2⟩
              case measure => simp [intOf]; omega
    · have hkn : k = n := by omega
      subst hkn
      have hI := Inv.upto role (rcOf kd fs) k
      have HCNT : Hid (∀ c : Nat, IsCnt (fun u => (Gr.upto role (rcOf kd fs) k).us[u]? = some true ∧ deepP (Gr.upto role (rcOf kd fs) k) u) c → CountIs k kd fs role (.returned (.int .i64 c))) := fun c hc => ⟨c, rfl, hc⟩
      generalize Gr.upto role (rcOf kd fs) k = g at *
      obtain ⟨wo, hwo⟩ : ∃ x, x = wr := ⟨_, rfl⟩
      subst hwo
      have HI : Hid (Inv role g) := hI
      have HM : Hid (M5 wo H g an cn ag cg au cu af cf at' ct) := hM
      have HBo : Hid (Below w.heap.size w wo) := hBw
      generalize hNN : g.names.length = N at *
      generalize hEE : g.E.length = L at *
      have hlg : g.gr.length = N := by rw [hI.lgr, hNN]
      have hlu : g.us.length = N := by rw [hI.lus, hNN]
      clear hI hM hBw hBr HH hHle
      go_wp2
      go_loopw [13, 14] (fun dp i wr => ∃ (j c : Nat), j ≤ N ∧ c ≤ j ∧ i = .int .i64 j ∧ dp = .int .i64 c ∧ Below wo.heap.size wo wr ∧ Hid (IsCnt (fun x => x < j ∧ g.us[x]? = some true ∧ deepP g x) c)) (fun _ i _ => N - (intOf i).toNat)
      case atStart => exact ⟨0, 0, by omega, by omega, rfl, rfl, Below.refl _ _, IsCnt.zero (fun x hx => by omega)⟩
      case round =>
        obtain ⟨j, c, hj, hc, rfl, rfl, hb, HC⟩ := hrel
        by_cases hjN : j < N
        · have hM1 : M5 wr H g an cn ag cg au cu af cf at' ct := MS.below HM.out hb
          obtain ⟨bu, hbu⟩ : ∃ x, g.us[j]? = some x := ⟨g.us[j]'(by omega), List.getElem?_eq_getElem (by omega)⟩
          obtain ⟨qu, hau, hcu, _, _, _⟩ := five_cell2 hM1 hbu
          have HBU : Hid (g.us[j]? = some bu) := hbu
          subst hau
          have hcu' : wr.cell? ⟨qu, j, none⟩ = some (.bool bu) := hcu
          have hjN' : (j : Int) < N := by omega
          clear hM1 hcu hbu
          cases bu with
          | false =>
            have HC1 : Hid (IsCnt (fun x => x < j + 1 ∧ g.us[x]? = some true ∧ deepP g x) c) := cnt_next_no HC.out (fun h => by rw [HBU.out] at h; simp at h)
            go_wp2
            go_roundw
            case rel => exact ⟨j + 1, c, by omega, by omega, by go_num, rfl, hb, HC1.out⟩
            case measure => simp [intOf]; omega
          | true =>
            obtain ⟨wu, hwu⟩ : ∃ x, x = wr := ⟨_, rfl⟩
            subst hwu
            have HBu : Hid (Below wo.heap.size wo wu) := hb
            clear hb
            go_wp2_with (at_make; refine wpList_make_full _ rfl _ _ 38 rfl wu.heap.size 4 i4 _ 1 Try.underlying38 hi4 z40 z41 _ _ _ _ N rfl rfl rfl rfl (by rw [z42]; omega) (by unfold maxLen; omega) (by omega) ?_)
            intro w1 hown hgrow
            have hB1 : Below wu.heap.size wu w1 := (Below.refl _ _).grown hgrow (Nat.le_refl _) (by simp)
            have hnr : w1.ownsRow wu.heap.size 4 1 (.slice (some ⟨wu.heap.size, 0, none⟩) N N) N ((List.replicate N false).map .bool) := by
              have e : (madeCells #[Value.bool false] N).toList = (List.replicate N false).map .bool := by
                rw [toList_madeCells_one, List.map_replicate]
              rw [e] at hown
              exact hown
            clear hown hgrow hcu'
            have HBsz : Hid (wo.heap.size ≤ wu.heap.size) := HBu.out.size
            generalize hBB : wu.heap.size = B at *
            have HBB : Hid (wu.heap.size = B) := hBB
            clear hBB
            have hfz := hnr.frozenAt j
            obtain ⟨x0, hx0⟩ : ∃ x, w1.cell? ⟨B, j, none⟩ = some x := ⟨.bool false, by rw [hnr.cellAt j (by omega)]; simp [hjN]⟩
            have hnr1 : (w1.setCell ⟨B, j, none⟩ (.bool true)).ownsRow B 4 1 (.slice (some ⟨B, 0, none⟩) N N) N (((List.replicate N false).set j true).map .bool) := by rw [List.map_set]; exact (hnr.stored j (.bool true)).1
            have hB2 : Below B wu (w1.setCell ⟨B, j, none⟩ (.bool true)) := hB1.setCell (p := ⟨B, j, none⟩) (Nat.le_refl _) _
            have HN0 : Hid (Near g j 0 ((List.replicate N false).set j true)) := by have := Near.start (g := g) (u := j) (by omega); rw [hNN] at this; exact this
            have HN1 : Hid ((w1.setCell ⟨B, j, none⟩ (.bool true)).ownsRow B 4 1 (.slice (some ⟨B, 0, none⟩) N N) N (((List.replicate N false).set j true).map .bool) ∧ Below B wu (w1.setCell ⟨B, j, none⟩ (.bool true))) := ⟨hnr1, hB2⟩
            clear hnr hB1 hnr1 hB2
            go_wp2
            clear hfz hx0
            go_loopw [16] (fun i wr => ∃ (t : Nat) (nr : List Bool), t ≤ 10 ∧ i = .int .i64 t ∧ wr.ownsRow B 4 1 (.slice (some ⟨B, 0, none⟩) N N) N (nr.map .bool) ∧ Below B wu wr ∧ Hid (Near g j t nr)) (fun i _ => 10 - (intOf i).toNat)
            case atStart => exact ⟨0, _, by omega, rfl, HN1.out.1, HN1.out.2, HN0.out⟩
            case round =>
              clear HN0 HN1
              obtain ⟨t, nr, ht, rfl, hnr, hbr, HN⟩ := hrel
              obtain ⟨w3, hw3⟩ : ∃ x, x = wr := ⟨_, rfl⟩
              subst hw3
              have hnl : nr.length = N := by rw [HN.out.len, hNN]
              by_cases ht10 : t < 10
              · have HCB : Hid (Row w3 (some ⟨B, 0, none⟩) N (fun i => .bool (nr.getD i false)) B 0) := ⟨fun _ => rfl, fun i hi => by
                  rw [Nat.zero_add, hnr.cellAt i (by omega)]
                  simp [List.getElem?_map, List.getElem?_eq_getElem (show i < nr.length by omega), List.getD_eq_getElem?_getD]⟩
                have hBlt : B < w3.heap.size := (hnr.lt _ rfl).2
                have ht10' : (t : Int) < 10 := by omega
                have HNR : Hid (w3.ownsRow B 4 1 (.slice (some ⟨B, 0, none⟩) N N) N (nr.map .bool) ∧ Below B wu w3) := ⟨hnr, hbr⟩
                clear hnr hbr
                go_wp2_with (go_at_call 15; refine (cloneBools_any (some ⟨B, 0, none⟩) N N (fun i => nr.getD i false) B 0 _ (by omega) HCB.out).mono ?_; rintro e w4 ⟨rfl, hb4, hr4, hl4⟩)
                generalize hPP : w3.heap.size = P at *
                have HPV : Hid (∀ (i : Nat) (x : Bool), nr[i]? = some x → w4.cell? ⟨P, i, none⟩ = some (.bool x)) := fun i x hx => by
                  have hi : i < nr.length := (List.getElem?_eq_some_iff.1 hx).1
                  have := hr4.cell i (by omega)
                  rw [Nat.zero_add] at this
                  simpa [List.getD_eq_getElem?_getD, hx] using this
                have hn4 : w4.ownsRow B 4 1 (.slice (some ⟨B, 0, none⟩) N N) N (nr.map .bool) := ownsRow_congr HNR.out.1 (fun gg hgg => by
                  have e : gg = B := by simpa [Value.ownBlock] using hgg.symm
                  subst e
                  exact hb4.block gg hBlt)
                have hb5 : Below B wu w4 := HNR.out.2.trans (hb4.mono (by omega))
                have hPB : P ≠ B := by omega
                have hPB' : B ≠ P := by omega
                clear hb4 hr4 hl4 HCB
                go_loopw [18] (fun i wr => ∃ (e : Nat) (nr' : List Bool), e ≤ L ∧ i = .int .i64 e ∧ wr.ownsRow B 4 1 (.slice (some ⟨B, 0, none⟩) N N) N (nr'.map .bool) ∧ Below B wu wr ∧ Hid (Nmid g nr e nr' ∧ ∀ (i : Nat) (x : Bool), nr[i]? = some x → wr.cell? ⟨P, i, none⟩ = some (.bool x))) (fun i _ => L - (intOf i).toNat)
                case atStart => exact ⟨0, nr, by omega, rfl, hn4, hb5, ⟨HN.out.mid, HPV.out⟩⟩
                case round =>
                  clear hn4 hb5 HPV
                  obtain ⟨e, nr', he, rfl, hn', hb', HX⟩ := hrel
                  have hnl' : nr'.length = N := by rw [HX.out.1.len, hNN]
                  by_cases heL : e < L
                  · obtain ⟨nn, r0, hE⟩ : ∃ a b, g.E[e]? = some (a, b) := ⟨(g.E[e]'(by omega)).1, (g.E[e]'(by omega)).2, by rw [List.getElem?_eq_getElem (by omega)]⟩
                    have hM1 : M5 wr H g an cn ag cg (some ⟨qu, 0, none⟩) cu af cf at' ct := MS.below HM.out (HBu.out.trans (hb'.mono HBsz.out))
                    obtain ⟨qf, hqf, hcf, _, _, _⟩ := five_cell3 hM1 (j := e) (x := nn) (by simp [hE])
                    obtain ⟨qt, hqt, hct, _, _, _⟩ := five_cell4 hM1 (j := e) (x := r0) (by simp [hE])
                    have hcf' : wr.cell? ⟨qf, e, none⟩ = some (.int .i64 nn) := hcf
                    have hct' : wr.cell? ⟨qt, e, none⟩ = some (.int .i64 r0) := hct
                    have hE2 := HI.out.e1 _ (List.mem_of_getElem? hE)
                    have hnnN : nn < N := by rw [← hNN]; exact hE2.1
                    have hr0N : r0 < N := by rw [← hNN]; exact hE2.2
                    have hnnN' : (nn : Int) < N := by omega
                    have hr0N' : (r0 : Int) < N := by omega
                    have heL' : (e : Int) < L := by omega
                    obtain ⟨pb, hpb⟩ : ∃ x, nr[nn]? = some x := ⟨nr[nn]'(by omega), List.getElem?_eq_getElem (by omega)⟩
                    have hpc := HX.out.2 nn pb hpb
                    have HE : Hid (g.E[e]? = some (nn, r0) ∧ nr[nn]? = some pb) := ⟨hE, hpb⟩
                    subst hqf hqt
                    cases pb with
                    | true =>
                      have hfz := hn'.frozenAt r0
                      obtain ⟨x0, hx0⟩ : ∃ x, wr.cell? ⟨B, r0, none⟩ = some x := ⟨.bool (nr'[r0]'(by omega)), by rw [hn'.cellAt r0 (by omega)]; simp [show r0 < nr'.length by omega]⟩
                      have HST : Hid ((wr.setCell ⟨B, r0, none⟩ (.bool true)).ownsRow B 4 1 (.slice (some ⟨B, 0, none⟩) N N) N ((nr'.set r0 true).map .bool) ∧ Below B wu (wr.setCell ⟨B, r0, none⟩ (.bool true)) ∧ Nmid g nr (e + 1) (nr'.set r0 true) ∧ ∀ (i : Nat) (x : Bool), nr[i]? = some x → (wr.setCell ⟨B, r0, none⟩ (.bool true)).cell? ⟨P, i, none⟩ = some (.bool x)) := by
                        refine ⟨by rw [List.map_set]; exact (hn'.stored r0 (.bool true)).1, hb'.setCell (p := ⟨B, r0, none⟩) (Nat.le_refl _) _, HX.out.1.hit HE.out.1 HE.out.2 (by rw [hNN]; exact hr0N), fun i x hx => ?_⟩
                        rw [World.cell?_setCell_far _ _ _ _ (show B ≠ P from hPB')]
                        exact HX.out.2 i x hx
                      clear hn' hb' HX hM1 hcf hct hE hpb hE2
                      go_wp2
                      go_roundw
                      case rel => exact ⟨e + 1, _, by omega, by go_num, HST.out.1, HST.out.2.1, HST.out.2.2⟩
                      case measure => simp [intOf]; omega
                    | false =>
                      have HST : Hid (wr.ownsRow B 4 1 (.slice (some ⟨B, 0, none⟩) N N) N (nr'.map .bool) ∧ Below B wu wr ∧ Nmid g nr (e + 1) nr' ∧ ∀ (i : Nat) (x : Bool), nr[i]? = some x → wr.cell? ⟨P, i, none⟩ = some (.bool x)) :=
                        ⟨hn', hb', HX.out.1.miss HE.out.1 (by rw [HE.out.2]; simp), HX.out.2⟩
                      clear hn' hb' HX hM1 hcf hct hE hpb hE2
                      go_wp2
                      go_roundw
                      case rel => exact ⟨e + 1, _, by omega, by go_num, HST.out.1, HST.out.2.1, HST.out.2.2⟩
                      case measure => simp [intOf]; omega
                  · have heq : e = L := by omega
                    subst heq
                    have HNX : Hid (Near g j (t + 1) nr') := by
                      refine HN.out.next ?_ HI.out.e1
                      rw [hEE]
                      exact HX.out.1
                    have HST : Hid (wr.ownsRow B 4 1 (.slice (some ⟨B, 0, none⟩) N N) N (nr'.map .bool) ∧ Below B wu wr) := ⟨hn', hb'⟩
                    clear hn' hb' HX
                    go_wp2
                    go_roundw
                    case rel => exact ⟨t + 1, nr', by omega, by go_num, HST.out.1, HST.out.2, HNX.out⟩
                    case measure => simp [intOf]; omega
              · obtain rfl : t = 10 := by omega
                have HNR : Hid (w3.ownsRow B 4 1 (.slice (some ⟨B, 0, none⟩) N N) N (nr.map .bool) ∧ Below B wu w3) := ⟨hnr, hbr⟩
                have hBlt : B < w3.heap.size := (hnr.lt _ rfl).2
                clear hnr hbr ht10 ht
                go_wp2_with (at_make; refine wpList_make_full _ rfl _ _ 38 rfl w3.heap.size 4 i4 _ 1 Try.underlying38 hi4 z40 z41 _ _ _ _ N rfl rfl rfl rfl (by rw [z42]; omega) (by unfold maxLen; omega) (by omega) ?_)
                intro w5 hown hgrow
                have hal : w5.ownsRow w3.heap.size 4 1 (.slice (some ⟨w3.heap.size, 0, none⟩) N N) N ((List.replicate N false).map .bool) := by
                  have e : (madeCells #[Value.bool false] N).toList = (List.replicate N false).map .bool := by
                    rw [toList_madeCells_one, List.map_replicate]
                  rw [e] at hown
                  exact hown
                have hnr5 := HNR.out.1.kept hgrow (.inr (by simp [Value.ownBlock]))
                have hb5 : Below B wu w5 := HNR.out.2.grown hgrow (by omega) (by simp)
                clear hown hgrow
                generalize hAA : w3.heap.size = A at *
                have hAB : A ≠ B := by omega
                have hAB' : B ≠ A := by omega
                have hfz := hal.frozenAt j
                obtain ⟨x0, hx0⟩ : ∃ x, w5.cell? ⟨A, j, none⟩ = some x := ⟨.bool false, by rw [hal.cellAt j (by omega)]; simp [hjN]⟩
                have HST : Hid ((w5.setCell ⟨A, j, none⟩ (.bool true)).ownsRow A 4 1 (.slice (some ⟨A, 0, none⟩) N N) N (((List.replicate N false).set j true).map .bool) ∧ (w5.setCell ⟨A, j, none⟩ (.bool true)).ownsRow B 4 1 (.slice (some ⟨B, 0, none⟩) N N) N (nr.map .bool) ∧ Below B wu (w5.setCell ⟨A, j, none⟩ (.bool true))) :=
                  ⟨by rw [List.map_set]; exact (hal.stored j (.bool true)).1, ownsRow_congr hnr5 (fun gg hgg => by
                    have e : gg = B := by simpa [Value.ownBlock] using hgg.symm
                    subst e
                    exact Below.heap_setCell _ _ _ _ hAB'), hb5.setCell (p := ⟨A, j, none⟩) (by show B ≤ A; omega) _⟩
                have HA0 : Hid (Al g j ((List.replicate N false).set j true)) := by have := Al.start (g := g) (u := j) (by omega); rw [hNN] at this; exact this
                clear hal hnr5 hb5
                go_wp2
                clear hfz hx0
                go_loopg [20] (2 * N + 1) (fun gk ch wr => ∃ (cb : Bool) (al : List Bool), ch = .bool cb ∧ wr.ownsRow A 4 1 (.slice (some ⟨A, 0, none⟩) N N) N (al.map .bool) ∧ wr.ownsRow B 4 1 (.slice (some ⟨B, 0, none⟩) N N) N (nr.map .bool) ∧ Below B wu wr ∧
                    Hid (2 * nf al + (if cb = true then 1 else 0) ≤ gk ∧ Al g j al ∧ (cb = false → ∀ r, al[r]? = some true ↔ ∃ k, wi g.E j k r)))
                case atStart =>
                  refine ⟨true, _, rfl, HST.out.1, HST.out.2.1, HST.out.2.2, ?_, HA0.out, fun h => by cases h⟩
                  have := nf_le ((List.replicate N false).set j true)
                  simp at this ⊢
                  omega
                case round =>
                  clear HST HA0
                  obtain ⟨cb, al, rfl, ha, hb, hbb, HX⟩ := hrel
                  obtain ⟨w6, hw6⟩ : ∃ x, x = wr := ⟨_, rfl⟩
                  subst hw6
                  cases cb with
                  | true =>
                    have HS6 : Hid (w6.ownsRow A 4 1 (.slice (some ⟨A, 0, none⟩) N N) N (al.map .bool) ∧ w6.ownsRow B 4 1 (.slice (some ⟨B, 0, none⟩) N N) N (nr.map .bool) ∧ Below B wu w6) := ⟨ha, hb, hbb⟩
                    clear ha hb hbb
                    go_wp2
                    go_loopw [20, 21] (fun ch i wr => ∃ (e : Nat) (cb : Bool) (al' : List Bool), e ≤ L ∧ i = .int .i64 e ∧ ch = .bool cb ∧ wr.ownsRow A 4 1 (.slice (some ⟨A, 0, none⟩) N N) N (al'.map .bool) ∧ wr.ownsRow B 4 1 (.slice (some ⟨B, 0, none⟩) N N) N (nr.map .bool) ∧ Below B wu wr ∧ Hid (Pass g j al e cb al')) (fun _ i _ => L - (intOf i).toNat)
                    case atStart => exact ⟨0, false, al, by omega, rfl, rfl, HS6.out.1, HS6.out.2.1, HS6.out.2.2, HX.out.2.1.pass⟩
                    case round =>
                      clear HS6
                      obtain ⟨e, cb, al', he, rfl, rfl, ha, hb, hbb, HP⟩ := hrel
                      have hal' : al'.length = N := by rw [HP.out.ok.len, hNN]
                      by_cases heL : e < L
                      · obtain ⟨nn, r0, hE⟩ : ∃ a b, g.E[e]? = some (a, b) := ⟨(g.E[e]'(by omega)).1, (g.E[e]'(by omega)).2, by rw [List.getElem?_eq_getElem (by omega)]⟩
                        have hM1 : M5 wr H g an cn ag cg (some ⟨qu, 0, none⟩) cu af cf at' ct := MS.below HM.out (HBu.out.trans (hbb.mono HBsz.out))
                        obtain ⟨qf, hqf, hcf, _, _, _⟩ := five_cell3 hM1 (j := e) (x := nn) (by simp [hE])
                        obtain ⟨qt, hqt, hct, _, _, _⟩ := five_cell4 hM1 (j := e) (x := r0) (by simp [hE])
                        have hcf' : wr.cell? ⟨qf, e, none⟩ = some (.int .i64 nn) := hcf
                        have hct' : wr.cell? ⟨qt, e, none⟩ = some (.int .i64 r0) := hct
                        have hE2 := HI.out.e1 _ (List.mem_of_getElem? hE)
                        have hnnN : nn < N := by rw [← hNN]; exact hE2.1
                        have hr0N : r0 < N := by rw [← hNN]; exact hE2.2
                        have hnnN' : (nn : Int) < N := by omega
                        have hr0N' : (r0 : Int) < N := by omega
                        have heL' : (e : Int) < L := by omega
                        obtain ⟨pn, hpn⟩ : ∃ x, al'[nn]? = some x := ⟨al'[nn]'(by omega), List.getElem?_eq_getElem (by omega)⟩
                        obtain ⟨pr, hpr⟩ : ∃ x, al'[r0]? = some x := ⟨al'[r0]'(by omega), List.getElem?_eq_getElem (by omega)⟩
                        have hcn : wr.cell? ⟨A, nn, none⟩ = some (.bool pn) := by rw [ha.cellAt nn (by omega)]; simp [hpn]
                        have hcr : wr.cell? ⟨A, r0, none⟩ = some (.bool pr) := by rw [ha.cellAt r0 (by omega)]; simp [hpr]
                        have hfr := ha.frozenAt r0
                        have HE : Hid (g.E[e]? = some (nn, r0) ∧ al'[nn]? = some pn ∧ al'[r0]? = some pr) := ⟨hE, hpn, hpr⟩
                        subst hqf hqt
                        have HS7 : Hid (wr.ownsRow A 4 1 (.slice (some ⟨A, 0, none⟩) N N) N (al'.map .bool) ∧ wr.ownsRow B 4 1 (.slice (some ⟨B, 0, none⟩) N N) N (nr.map .bool) ∧ Below B wu wr) := ⟨ha, hb, hbb⟩
                        have HS8 : Hid ((wr.setCell ⟨A, r0, none⟩ (.bool true)).ownsRow A 4 1 (.slice (some ⟨A, 0, none⟩) N N) N ((al'.set r0 true).map .bool) ∧ (wr.setCell ⟨A, r0, none⟩ (.bool true)).ownsRow B 4 1 (.slice (some ⟨B, 0, none⟩) N N) N (nr.map .bool) ∧ Below B wu (wr.setCell ⟨A, r0, none⟩ (.bool true))) :=
                          ⟨by rw [List.map_set]; exact (ha.stored r0 (.bool true)).1, ownsRow_congr hb (fun gg hgg => by
                            have e : gg = B := by simpa [Value.ownBlock] using hgg.symm
                            subst e
                            exact Below.heap_setCell _ _ _ _ hAB'), hbb.setCell (p := ⟨A, r0, none⟩) (by show B ≤ A; omega) _⟩
                        clear ha hb hbb hM1 hcf hct hE hE2 hpn hpr
                        cases pn with
                        | false =>
                          have HPN : Hid (Pass g j al (e + 1) cb al') := HP.out.miss HE.out.1 (fun h => by rw [HE.out.2.1] at h; simp at h)
                          go_wp2
                          go_roundw
                          case rel => exact ⟨e + 1, cb, al', by omega, by go_num, rfl, HS7.out.1, HS7.out.2.1, HS7.out.2.2, HPN.out⟩
                          case measure => simp [intOf]; omega
                        | true =>
                          cases pr with
                          | true =>
                            have HPN : Hid (Pass g j al (e + 1) cb al') := HP.out.miss HE.out.1 (fun _ => HE.out.2.2)
                            go_wp2
                            go_roundw
                            case rel => exact ⟨e + 1, cb, al', by omega, by go_num, rfl, HS7.out.1, HS7.out.2.1, HS7.out.2.2, HPN.out⟩
                            case measure => simp [intOf]; omega
                          | false =>
                            have HPN : Hid (Pass g j al (e + 1) true (al'.set r0 true)) := HP.out.hit HE.out.1 HE.out.2.1 HE.out.2.2
                            go_wp2
                            go_roundw
                            case rel => exact ⟨e + 1, true, _, by omega, by go_num, rfl, HS8.out.1, HS8.out.2.1, HS8.out.2.2, HPN.out⟩
                            case measure => simp [intOf]; omega
                      · have heq : e = L := by omega
                        subst heq
                        have HS7 : Hid (wr.ownsRow A 4 1 (.slice (some ⟨A, 0, none⟩) N N) N (al'.map .bool) ∧ wr.ownsRow B 4 1 (.slice (some ⟨B, 0, none⟩) N N) N (nr.map .bool) ∧ Below B wu wr) := ⟨ha, hb, hbb⟩
                        clear ha hb hbb
                        go_wp2
                        go_roundg (2 * nf al' + (if cb = true then 1 else 0))
                        case measure =>
                          have h1 := HX.out.1
                          cases cb with
                          | true => have := HP.out.yes rfl; simp at h1 ⊢; omega
                          | false => have := (HP.out.no rfl).1; subst this; simp at h1 ⊢; omega
                        case rel =>
                          refine ⟨cb, al', rfl, HS7.out.1, HS7.out.2.1, HS7.out.2.2, Nat.le_refl _, HP.out.ok, fun h => ?_⟩
                          subst h
                          refine Pass.closed (al0 := al) ?_
                          rw [hEE]
                          exact HP.out
                  | false =>
                    have hall : al.length = N := by rw [HX.out.2.1.len, hNN]
                    have hM1 : M5 w6 H g an cn ag cg (some ⟨qu, 0, none⟩) cu af cf at' ct := MS.below HM.out (HBu.out.trans (hbb.mono HBsz.out))
                    have HCA : Hid (∀ (i : Nat) (x : Bool), al[i]? = some x → w6.cell? ⟨A, i, none⟩ = some (.bool x)) := fun i x hx => by
                      have hi : i < al.length := (List.getElem?_eq_some_iff.1 hx).1
                      rw [ha.cellAt i (by omega)]; simp [hx]
                    have HCN : Hid (∀ (i : Nat) (x : Bool), nr[i]? = some x → w6.cell? ⟨B, i, none⟩ = some (.bool x)) := fun i x hx => by
                      have hi : i < nr.length := (List.getElem?_eq_some_iff.1 hx).1
                      rw [hb.cellAt i (by omega)]; simp [hx]
                    have HCG : Hid (∀ (i : Nat) (x : Bool), g.gr[i]? = some x → ∃ q, ag = some ⟨q, 0, none⟩ ∧ w6.cell? ⟨q, i, none⟩ = some (.bool x)) := fun i x hx => by
                      obtain ⟨q, h1, h2, _⟩ := five_cell1 hM1 hx
                      exact ⟨q, h1, h2⟩
                    have HDP : Hid (∀ r, (g.gr[r]? = some true ∧ al[r]? = some true ∧ nr[r]? = some false) ↔ (g.gr[r]? = some true ∧ (∃ k, wi g.E j k r) ∧ ¬ wi g.E j 10 r)) := by
                      intro r
                      rw [HX.out.2.2 rfl r]
                      have hnm := HN.out.mem r
                      constructor
                      · rintro ⟨h1, h2, h3⟩
                        refine ⟨h1, h2, fun h => ?_⟩
                        have hrl : r < g.names.length := by rw [hNN, ← hlg]; exact (List.getElem?_eq_some_iff.1 h1).1
                        rw [hnm.2 ⟨hrl, h⟩] at h3
                        simp at h3
                      · rintro ⟨h1, h2, h3⟩
                        refine ⟨h1, h2, ?_⟩
                        have hrl : r < nr.length := by rw [hnl, ← hlg]; exact (List.getElem?_eq_some_iff.1 h1).1
                        have hv : nr[r]? = some (nr[r]'hrl) := List.getElem?_eq_getElem hrl
                        cases hb : nr[r]'hrl with
                        | false => rw [hv, hb]
                        | true => rw [hb] at hv; exact absurd (hnm.1 hv).2 h3
                    have HB6 : Hid (Below wo.heap.size wo w6) := HBu.out.trans (hbb.mono HBsz.out)
                    clear hM1 ha hb hbb HX HN
                    go_wp2
                    go_loop [13, 22] (fun dp i => ∃ r : Nat, r ≤ N ∧ i = .int .i64 r ∧ dp = .int .i64 c ∧ Hid (∀ x, x < r → ¬ (g.gr[x]? = some true ∧ al[x]? = some true ∧ nr[x]? = some false))) (fun _ i => N - (intOf i).toNat)
                    case atStart => exact ⟨0, by omega, rfl, rfl, fun x hx => by omega⟩
                    case round =>
                      obtain ⟨r, hr, rfl, rfl, HO⟩ := hrel
                      by_cases hrN : r < N
                      · obtain ⟨vg, hvg⟩ : ∃ x, g.gr[r]? = some x := ⟨g.gr[r]'(by omega), List.getElem?_eq_getElem (by omega)⟩
                        obtain ⟨va, hva⟩ : ∃ x, al[r]? = some x := ⟨al[r]'(by omega), List.getElem?_eq_getElem (by omega)⟩
                        obtain ⟨vn, hvn⟩ : ∃ x, nr[r]? = some x := ⟨nr[r]'(by omega), List.getElem?_eq_getElem (by omega)⟩
                        obtain ⟨qg, hqg, hcg⟩ := HCG.out r vg hvg
                        have hca := HCA.out r va hva
                        have hcn := HCN.out r vn hvn
                        have hrN' : (r : Int) < N := by omega
                        have HV : Hid (g.gr[r]? = some vg ∧ al[r]? = some va ∧ nr[r]? = some vn) := ⟨hvg, hva, hvn⟩
                        subst hqg
                        clear hvg hva hvn
                        by_cases hd : vg = true ∧ va = true ∧ vn = false
                        · obtain ⟨rfl, rfl, rfl⟩ := hd
                          have HC1 : Hid (IsCnt (fun x => x < j + 1 ∧ g.us[x]? = some true ∧ deepP g x) (c + 1)) :=
                            cnt_next_yes HC.out ⟨HBU.out, r, (HDP.out r).1 HV.out⟩
                          go_wp2
                          go_roundw
                          case rel => exact ⟨j + 1, c + 1, by omega, by omega, by go_num, by go_num, HB6.out, HC1.out⟩
                          case measure => simp [intOf]; omega
                        · have HO1 : Hid (∀ x, x < r + 1 → ¬ (g.gr[x]? = some true ∧ al[x]? = some true ∧ nr[x]? = some false)) := fun x hx h => by
                            by_cases e : x = r
                            · subst e
                              rw [HV.out.1, HV.out.2.1, HV.out.2.2] at h
                              exact hd ⟨by simpa using h.1, by simpa using h.2.1, by simpa using h.2.2⟩
                            · exact HO.out x (by omega) h
                          cases vg with
                          | false =>
                            go_wp2
                            go_round
                            case rel => exact ⟨r + 1, by omega, by go_num, rfl, HO1.out⟩
                            case measure => simp [intOf]; omega
                          | true =>
                            cases va with
                            | false =>
                              go_wp2
                              go_round
                              case rel => exact ⟨r + 1, by omega, by go_num, rfl, HO1.out⟩
                              case measure => simp [intOf]; omega
                            | true =>
                              cases vn with
                              | false => exact absurd ⟨rfl, rfl, rfl⟩ hd
                              | true =>
                                go_wp2
                                go_round
                                case rel => exact ⟨r + 1, by omega, by go_num, rfl, HO1.out⟩
                                case measure => simp [intOf]; omega
                      · have hre : r = N := by omega
                        have HC1 : Hid (IsCnt (fun x => x < j + 1 ∧ g.us[x]? = some true ∧ deepP g x) c) := by
                          refine cnt_next_no HC.out (fun h => ?_)
                          obtain ⟨_, x, hx⟩ := h
                          have h2 := (HDP.out x).2 hx
                          have hxl := (List.getElem?_eq_some_iff.1 h2.1).1
                          exact HO.out x (by omega) h2
                        clear hre
                        go_wp2
                        go_roundw
                        case rel => exact ⟨j + 1, c, by omega, by omega, by go_num, rfl, HB6.out, HC1.out⟩
                        case measure => simp [intOf]; omega
        · have hje : j = N := by omega
          have HFIN : Hid (CountIs k kd fs role (.returned (.int .i64 c))) := by
            refine HCNT.out c (HC.out.same (fun u => ?_))
            constructor
            · rintro ⟨h1, h2⟩
              have := (List.getElem?_eq_some_iff.1 h1).1
              exact ⟨by omega, h1, h2⟩
            · rintro ⟨_, h1, h2⟩; exact ⟨h1, h2⟩
          have HB9 : Hid (Below w.heap.size w wr) := HBo.out.trans (hb.mono HBo.out.size)
          clear hje HC
          go_wp2
          go_ret
          exact ⟨HFIN.out, HB9.out⟩
end Go.Proofs.Qxb6601564a

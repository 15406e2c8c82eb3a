import Derived.Test.Qxb6602276aB4
import Derived.Deep.RegionLaw
import Derived.Deep.DeepCutAuto
import Derived.Deep.CutBlock
import Derived.Deep.DrawnRows
namespace Go.Proofs.Qxb6602276a
open Go.RowKit
set_option linter.unusedVariables false
attribute [local go_sem ↓] Go.wp_at_zero Go.wp_at_succ

theorem Try.info42 : (Try.prog.info? 42).map (fun i => (i.zero, i.size, i.bytes)) = some (some (.agg #[.int .i64 0, .int .i64 0, .int .i64 0, .int .i64 0]), 4, 32) := by kernel_rfl
theorem Try.info47 : (Try.prog.info? 47).map (fun i => (i.zero, i.size, i.bytes)) = some (some (.slice none 0 0), 1, 24) := by kernel_rfl
/-- The state ahead of the last statement of Append. -/
structure Mid (w wx : World) (H tb : Nat) (s t : ByteArray) (q : Nat) (F : Nat → Nat → Int) (c qb cp : Nat) (rows : List Value) (ln : Nat → Nat) (X : Nat → List Value) (B : Nat) : Prop where
  ck : CK wx H tb s t (some ⟨qb, 0, none⟩) cp rows ln X
  len : rows.length = c + 1
  ce : c = q / 1024
  lx : LnX q F rows.length ln X
  bel : Below H w wx
  box : wx.heap[B]? = some (.cells #[.int .i64 (F q 0), .int .i64 (F q 1), .int .i64 (F q 2), .int .i64 (F q 3)] 42 (0, 0))
/-- How it ends. -/
theorem Mid.done {w wx w4 : World} {H tb : Nat} {s t : ByteArray} {q : Nat} {F : Nat → Nat → Int} {c qb cp : Nat} {rows : List Value} {ln : Nat → Nat} {X : Nat → List Value} {B : Nat} {v : Value} {g cap : Nat} (h : Mid w wx H tb s t q F c qb cp rows ln X B) (hv : rows[c]? = some v) (hH : H ≤ wx.heap.size)
    (hown : w4.ownsRow H 42 4 (.slice (some ⟨g, 0, none⟩) (ln c + 1) cap) (ln c + 1) (X c ++ [.int .i64 (F q 0), .int .i64 (F q 1), .int .i64 (F q 2), .int .i64 (F q 3)]))
    (hg : (wx.alloc (.cells #[.int .i64 (F q 0), .int .i64 (F q 1), .int .i64 (F q 2), .int .i64 (F q 3)] 42)).grownBy w4 v.ownBlock) (hat : v.ownBlock = some g ∨ g = wx.heap.size + 1) :
    LS (w4.setCell ⟨qb, c, none⟩ (.slice (some ⟨g, 0, none⟩) (ln c + 1) cap)) H tb s t (q + 1) F ∧ Below H w (w4.setCell ⟨qb, c, none⟩ (.slice (some ⟨g, 0, none⟩) (ln c + 1) cap)) := by
  have hce := h.ce
  have hl := h.len
  constructor
  · have h1 := CK.app (h.ck.alloc (.cells #[.int .i64 (F q 0), .int .i64 (F q 1), .int .i64 (F q 2), .int .i64 (F q 3)] 42)) hv hown hg (by simpa using hat)
    refine ⟨_, _, _, _, _, h1, ?_, ?_⟩
    · rw [List.length_set]; omega
    · rw [List.length_set]
      intro c' hc'
      have hlc := h.lx c (by omega)
      by_cases e : c' = c
      · subst e
        rw [upd_same, upd_same]
        refine ⟨by rw [hlc.1]; omega, ?_⟩
        rw [cellsF_succ, hlc.2, show 1024 * c' + ln c' = q by rw [hlc.1]; omega]
      · rw [upd_ne _ _ e, upd_ne _ _ e]
        have h2 := h.lx c' hc'
        exact ⟨by rw [h2.1]; omega, h2.2⟩
  · have hq : H ≤ qb := (h.ck.out.lt qb rfl).1
    exact ((h.bel.alloc hH _).grown hg (by simp; omega) (fun k' hk' => ((h.ck.own c v hv).lt k' hk').1)).setCell hq _

theorem ownsRow_shape {w : World} {base : Nat} {e : TypeId} {size : Nat} {v : Value} {n : Nat} {xs : List Value} (h : w.ownsRow base e size v n xs) : ∃ a c, v = .slice a n c := by
  rcases h.2 with ⟨rfl, rfl⟩ | ⟨g, cap, cur, rfl, _⟩
  · exact ⟨none, 0, rfl⟩
  · exact ⟨_, _, rfl⟩
/-- A chunk was added. -/
theorem Mid.ofPush {w w1 w4 : World} {H tb : Nat} {s t : ByteArray} {q : Nat} {F : Nat → Nat → Int} {a : Option Addr} {cp : Nat} {rows : List Value} {ln : Nat → Nat} {X : Nat → List Value} {B : Nat} {v : Value} {g cap : Nat} (hk : CK w1 H tb s t a cp rows ln X) (hx : LnX q F rows.length ln X) (hq : q = 1024 * rows.length)
    (hv : w1.ownsRow H 42 4 v 0 []) (hsep : ∀ (c : Nat) (v' : Value) (b : Nat), rows[c]? = some v' → v'.ownBlock = some b → v.ownBlock ≠ some b) (hb : Below H w w1) (hH : H ≤ w1.heap.size) (hbox : w1.heap[B]? = some (.cells #[.int .i64 (F q 0), .int .i64 (F q 1), .int .i64 (F q 2), .int .i64 (F q 3)] 42 (0, 0)))
    (hown : w4.ownsRow H 47 1 (.slice (some ⟨g, 0, none⟩) (rows.length + 1) cap) (rows.length + 1) (rows ++ [v])) (hg : w1.grownBy w4 (Value.slice a rows.length cp).ownBlock) :
    Mid w (w4.setCell ⟨tb, 2, none⟩ (.slice (some ⟨g, 0, none⟩) (rows.length + 1) cap)) H tb s t q F rows.length g cap (rows ++ [v]) (upd ln rows.length 0) (upd X rows.length []) B := by
  refine ⟨hk.push hv hsep hown hg, by simp, by omega, ?_, (hb.grown hg hH (fun k hk' => (hk.out.lt k hk').1)).setCell hk.hb _, ?_⟩
  · intro c hc
    rw [List.length_append] at hc
    by_cases e : c = rows.length
    · subst e
      rw [upd_same, upd_same]
      exact ⟨by omega, by simp [cellsF]⟩
    · rw [upd_ne _ _ e, upd_ne _ _ e]
      exact hx c (by simp at hc; omega)
  · have h1 := kept_types hk.out hg hk.tr (by decide)
    have h2 := kept_types hk.out hg hbox (by decide)
    rw [Below.heap_setCell _ _ _ _ (show B ≠ tb from ne_of_types h2 h1 (by decide))]
    exact h2
theorem CK.kept {w1 w4 : World} {H tb : Nat} {s t : ByteArray} {a : Option Addr} {cp : Nat} {rows : List Value} {ln : Nat → Nat} {X : Nat → List Value} (hk : CK w1 H tb s t a cp rows ln X) (hg : w1.grownBy w4 (Value.slice a rows.length cp).ownBlock) : w4.cell? ⟨tb, 2, none⟩ = some (.slice a rows.length cp) ∧ w4.frozen? ⟨tb, 2, none⟩ = false := by
  have h1 := kept_types hk.out hg hk.tr (by decide)
  exact ⟨by simp [World.cell?, h1], by simp [World.frozen?, h1]⟩

set_option maxHeartbeats 6400000 in
set_option maxRecDepth 100000 in
theorem append_any (w : World) (H tb : Nat) (s t : ByteArray) (q : Nat) (F : Nat → Nat → Int) (hH : H ≤ w.heap.size) (hq : q < 131072) (h : LS w H tb s t q F) :
    Calls Try.prog 11 #[.pointer (some ⟨tb, 2, none⟩), .agg #[.int .i64 (F q 0), .int .i64 (F q 1), .int .i64 (F q 2), .int .i64 (F q 3)]] w fun e w' => e = .returned (.tuple #[]) ∧ LS w' H tb s t (q + 1) F ∧ Below H w w' := by
  obtain ⟨i42, hi42, z420, z421, z422⟩ := info_parts Try.info42
  obtain ⟨i47, hi47, z470, z471, z472⟩ := info_parts Try.info47
  obtain ⟨a, cp, rows, ln, X, hk, hl, hx⟩ := h
  have hk1 : CK (w.alloc (.cells #[.int .i64 (F q 0), .int .i64 (F q 1), .int .i64 (F q 2), .int .i64 (F q 3)] 42)) H tb s t a cp rows ln X := hk.alloc _
  have hbox := heap_alloc_new w (.cells #[.int .i64 (F q 0), .int .i64 (F q 1), .int .i64 (F q 2), .int .i64 (F q 3)] 42)
  have hb1 : Below H w (w.alloc (.cells #[.int .i64 (F q 0), .int .i64 (F q 1), .int .i64 (F q 2), .int .i64 (F q 3)] 42)) := (Below.refl _ _).alloc hH _
  have hH1 : H ≤ (w.alloc (.cells #[.int .i64 (F q 0), .int .i64 (F q 1), .int .i64 (F q 2), .int .i64 (F q 3)] 42)).heap.size := by simp; omega
  have hct : (w.alloc (.cells #[.int .i64 (F q 0), .int .i64 (F q 1), .int .i64 (F q 2), .int .i64 (F q 3)] 42)).cell? ⟨tb, 2, none⟩ = some (.slice a rows.length cp) := by simp only [World.cell?, hk1.tr]; rfl
  have hlm : rows.length ≤ maxLen := by unfold maxLen; omega
  have HK : Hid (CK (w.alloc (.cells #[.int .i64 (F q 0), .int .i64 (F q 1), .int .i64 (F q 2), .int .i64 (F q 3)] 42)) H tb s t a cp rows ln X ∧ (w.alloc (.cells #[.int .i64 (F q 0), .int .i64 (F q 1), .int .i64 (F q 2), .int .i64 (F q 3)] 42)).heap[w.heap.size]? = some (.cells #[.int .i64 (F q 0), .int .i64 (F q 1), .int .i64 (F q 2), .int .i64 (F q 3)] 42 (0, 0)) ∧ Below H w (w.alloc (.cells #[.int .i64 (F q 0), .int .i64 (F q 1), .int .i64 (F q 2), .int .i64 (F q 3)] 42)) ∧ H ≤ (w.alloc (.cells #[.int .i64 (F q 0), .int .i64 (F q 1), .int .i64 (F q 2), .int .i64 (F q 3)] 42)).heap.size) := ⟨hk1, hbox, hb1, hH1⟩
  have HX : Hid (rows.length = (q + 1023) / 1024 ∧ LnX q F rows.length ln X) := ⟨hl, hx⟩
  have hl128 : rows.length ≤ 128 := by omega
  clear hk hk1 hbox hb1 hH1 hx hl
  go_enter Try.func11, Try.ntmps11
  go_upto_block 0 with fail
  generalize w.alloc (.cells #[.int .i64 (F q 0), .int .i64 (F q 1), .int .i64 (F q 2), .int .i64 (F q 3)] 42) = w1 at HK hct ⊢
  generalize hBB : w.heap.size = B at HK ⊢
  go_cut [4] (fun v4 wx => ∃ (c qb cp' : Nat) (rows' : List Value) (ln' : Nat → Nat) (X' : Nat → List Value), v4 = .int .i64 (c : Int) ∧ Hid (Mid w wx H tb s t q F c qb cp' rows' ln' X' B))
  case first =>
    rcases Nat.eq_zero_or_pos rows.length with h0 | h0
    · obtain rfl : rows = [] := List.length_eq_zero_iff.1 h0
      have HQ0 : Hid (q = 1024 * 0) := by have := HX.out.1; simp at this; show q = _; omega
      have hH2 := HK.out.2.2.2
      go_wp2_with (at_builtin; refine wpList_append_lies _ rfl _ _ 35 rfl H 47 i47 (.slice none 0 0) 1 24 Try.underlying35 hi47 z470 z471 z472 rfl (by omega) (.slice a 0 cp) 0 [] rfl (HK.out.1.out.alloc _) ⟨w1.heap.size, 0, none⟩ 1 1 [.slice none 0 0] rfl rfl (news_arr w1 #[.slice none 0 0] 47) (by simp [Value.oneCell']) (by omega) (by unfold maxLen; omega) (by omega) (by simp; omega) (w1.heap.size + 1) (by simp) ?_)
      intro g cap w4 hown hgr hat hlt
      obtain ⟨z1, z2⟩ := (HK.out.1.alloc _).kept hgr
      have HM := Mid.ofPush (HK.out.1.alloc _) HX.out.2 HQ0.out (World.ownsRow_nil _ _ _ _) (fun c v' b hv => by simp at hv) (HK.out.2.2.1.alloc hH2 _) (by simp; omega) (alloc_keep HK.out.2.1 _) hown hgr
      replace HM : Hid _ := HM
      clear hown hgr hat hlt hH2 h0
      go_wp2
      go_meet
      exact ⟨0, g, cap, _, _, _, by go_num, HM⟩
    · obtain ⟨m, hm⟩ : ∃ m, rows.length = m + 1 := ⟨rows.length - 1, by omega⟩
      obtain ⟨v, hv⟩ : ∃ v, rows[m]? = some v := ⟨rows[m], List.getElem?_eq_getElem (by omega)⟩
      have hov := HK.out.1.own m v hv
      have hlx := HX.out.2 m (by omega)
      have hqm : 1024 * m < q ∧ q ≤ 1024 * m + 1024 := by have := HX.out.1; omega
      obtain ⟨qb, cp', hsl, hqb⟩ := HK.out.1.out.form h0
      obtain ⟨rfl, hcpe⟩ : a = some ⟨qb, 0, none⟩ ∧ cp = cp' := by simpa using hsl
      have hcv : w1.cell? ⟨qb, m, none⟩ = some v := by rw [HK.out.1.out.cellAt m (by omega)]; exact hv
      obtain ⟨ax, cx, rfl⟩ := ownsRow_shape hov
      have hrr : ln m = q - 1024 * m := by rw [hlx.1]; omega
      obtain ⟨r, hr⟩ : ∃ r, r = ln m := ⟨_, rfl⟩
      rw [← hr] at hcv
      have hr2 : 0 < r ∧ r ≤ 1024 := by omega
      rw [hm] at hct ⊢
      have HALL : Hid (rows.length = m + 1 ∧ rows[m]? = some (.slice ax (ln m) cx) ∧ r = ln m ∧ ln m = q - 1024 * m) := ⟨hm, hv, hr, hrr⟩
      have e0 : ((m + 1 : Nat) : Int) - 1 = (m : Int) := by omega
      have hmI : m ≤ 127 := by omega
      clear hm hv hr hrr hov hlx hsl hcpe hqb h0 hl128 hlm
      rw [e0]
      by_cases hfull : r = 1024
      · subst hfull
        have hHw1 := HK.out.2.2.2
        obtain ⟨BIG, hbig, hmk⟩ : ∃ BIG : Array Value, BIG.size = 1024 * 4 ∧ ∀ W : World, (Instr.makeSlice 47 (.int .i64 0) (.int .i64 1024)).run Try.prog W = .ok (.slice (some ⟨W.heap.size, 0, none⟩) 0 1024) (W.alloc (.cells BIG 42)) := ⟨madeCells (Value.agg #[.int .i64 0, .int .i64 0, .int .i64 0, .int .i64 0]).cells (1024 * 4), size_madeCells _ _, fun W => by
          have := run_make (P := Try.prog) W 47 42 i42 _ Try.underlying47 hi42 z420 .i64 .i64 0 1024 (by omega) (by omega) (by rw [z422]; decide) (by omega)
          rw [z421] at this
          exact this⟩
        have HOUT : Hid (w1.ownsRow H 47 1 (.slice (some ⟨qb, 0, none⟩) (m + 1) cp) (m + 1) rows) := by
          have := HK.out.1.out
          rw [HALL.out.1] at this
          exact this
        have HNEWS : Hid (∀ (j : Nat) (u : Value), ([.slice (some ⟨w1.heap.size, 0, none⟩) 0 1024] : List Value)[j]? = some u → ((w1.alloc (.cells BIG 42)).alloc (.cells #[.slice (some ⟨w1.heap.size, 0, none⟩) 0 1024] 47)).cell? ((⟨w1.heap.size + 1, 0, none⟩ : Addr).add j) = some u) := by
          have := news_arr (w1.alloc (.cells BIG 42)) #[.slice (some ⟨w1.heap.size, 0, none⟩) 0 1024] 47
          have e : (w1.alloc (.cells BIG 42)).heap.size = w1.heap.size + 1 := by simp
          rw [e] at this
          exact this
        have HFIN : Hid (∀ (g cap : Nat) (w4 : World), w4.ownsRow H 47 1 (.slice (some ⟨g, 0, none⟩) (m + 1 + 1) cap) (m + 1 + 1) (rows ++ [.slice (some ⟨w1.heap.size, 0, none⟩) 0 1024]) → ((w1.alloc (.cells BIG 42)).alloc (.cells #[.slice (some ⟨w1.heap.size, 0, none⟩) 0 1024] 47)).grownBy w4 (Value.slice (some ⟨qb, 0, none⟩) (m + 1) cp).ownBlock →
            Mid w (w4.setCell ⟨tb, 2, none⟩ (.slice (some ⟨g, 0, none⟩) (m + 1 + 1) cap)) H tb s t q F (m + 1) g cap (rows ++ [.slice (some ⟨w1.heap.size, 0, none⟩) 0 1024]) (upd ln (m + 1) 0) (upd X (m + 1) []) B ∧ w4.cell? ⟨tb, 2, none⟩ = some (.slice (some ⟨qb, 0, none⟩) (m + 1) cp) ∧ w4.frozen? ⟨tb, 2, none⟩ = false) := by
          intro g cap w4 h1 h2
          have hk2 : CK ((w1.alloc (.cells BIG 42)).alloc (.cells #[.slice (some ⟨w1.heap.size, 0, none⟩) 0 1024] 47)) H tb s t (some ⟨qb, 0, none⟩) cp rows ln X := (HK.out.1.alloc _).alloc _
          have hl := HALL.out.1
          have hq2 : q = 1024 * rows.length := by have := HALL.out.2.2; omega
          have h1' : w4.ownsRow H 47 1 (.slice (some ⟨g, 0, none⟩) (rows.length + 1) cap) (rows.length + 1) (rows ++ [.slice (some ⟨w1.heap.size, 0, none⟩) 0 1024]) := by rw [hl]; exact h1
          have h2' : ((w1.alloc (.cells BIG 42)).alloc (.cells #[.slice (some ⟨w1.heap.size, 0, none⟩) 0 1024] 47)).grownBy w4 (Value.slice (some ⟨qb, 0, none⟩) rows.length cp).ownBlock := h2
          have hM := Mid.ofPush (w := w) (B := B) (F := F) hk2 HX.out.2 hq2 ((World.ownsRow_made w1 BIG 1024 hHw1 (by unfold maxLen; omega) hbig).alloc _) (fun c v' b hv hb e => by
            have h3 := ((HK.out.1.own c v' hv).lt b hb).2
            have h4 : w1.heap.size = b := by simpa [Value.ownBlock] using e
            omega) ((HK.out.2.2.1.alloc hHw1 _).alloc (by simp; omega) _) (by simp; omega) (alloc_keep (alloc_keep HK.out.2.1 _) _) h1' h2'
          have hkp := hk2.kept h2'
          rw [hl] at hM hkp
          exact ⟨hM, hkp⟩
        have a1 : ∀ o : Obj, (w1.alloc o).cell? ⟨tb, 2, none⟩ = some (.slice (some ⟨qb, 0, none⟩) (m + 1) cp) := fun o => by rw [World.cell?_alloc_lt _ _ _ (World.block_lt_of_cell? w1 _ hct)]; exact hct
        have a2 : ∀ o o' : Obj, ((w1.alloc o).alloc o').cell? ⟨tb, 2, none⟩ = some (.slice (some ⟨qb, 0, none⟩) (m + 1) cp) := fun o o' => by rw [World.cell?_alloc_lt _ _ _ (World.block_lt_of_cell? _ _ (a1 o))]; exact a1 o
        clear HALL hqm hr2
        go_wp2
        go_region_law ((refine step_append_lies _ (by rfl) _ _ 35 (by rfl) H 47 i47 (.slice none 0 0) 1 24 Try.underlying35 hi47 z470 z471 z472 rfl (by omega) (.slice (some ⟨qb, 0, none⟩) (m + 1) cp) (m + 1) rows (by rfl) (by exact (HOUT.out.alloc _).alloc _) ⟨w1.heap.size + 1, 0, none⟩ 1 1 [.slice (some ⟨w1.heap.size, 0, none⟩) 0 1024] (by rfl) rfl (by exact HNEWS.out) (by simp [Value.oneCell']) (by omega) (by unfold maxLen; omega) (by omega) (by simp; omega) (w1.heap.size + 1 + 1) (by simp) ?_; intro g cap w4 hown4 hgrow4 hat4 hlt4; obtain ⟨HM, t1, t2⟩ := HFIN.out g cap w4 hown4 (by exact ⟨hgrow4.os, hgrow4.tape, hgrow4.output, hgrow4.size, hgrow4.block⟩); clear hown4 hgrow4 hat4 hlt4; replace HM : Hid _ := HM))
        all_goals
          go_wp2
          go_meet
          exact ⟨m + 1, g, cap, _, _, _, by go_num, HM⟩
      · have hf' : ((r : Int) == 1024) = false := by simp; omega
        have HM : Hid (Mid w w1 H tb s t q F m qb cp rows ln X B) := ⟨HK.out.1, HALL.out.1, by have := HALL.out.2; omega, HX.out.2, HK.out.2.2.1, HK.out.2.1⟩
        clear hfull
        go_wp2
        go_meet
        exact ⟨m, qb, cp, _, _, _, rfl, HM⟩
  case rest =>
    obtain ⟨c, qb, cp', rows', ln', X', rfl, HM⟩ := hcut
    obtain ⟨v, hv⟩ : ∃ v, rows'[c]? = some v := ⟨rows'[c]'(by have := HM.out.len; omega), List.getElem?_eq_getElem (by have := HM.out.len; omega)⟩
    have hov := HM.out.ck.own c v hv
    have hlx := HM.out.lx c (by have := HM.out.len; omega)
    have hce := HM.out.ce
    have y1 : wc.cell? ⟨tb, 2, none⟩ = some (.slice (some ⟨qb, 0, none⟩) (c + 1) cp') := by
      have := HM.out.ck.tr
      rw [HM.out.len] at this
      simp [World.cell?, this]
    have y2 : wc.cell? ⟨qb, c, none⟩ = some v := by
      rw [HM.out.ck.out.cellAt c (by have := HM.out.len; omega)]; exact hv
    have hbx := HM.out.box
    have b0 : wc.cell? ⟨B, 0, none⟩ = some (.int .i64 (F q 0)) := by simp [World.cell?, hbx]
    have b1 : wc.cell? ⟨B, 1, none⟩ = some (.int .i64 (F q 1)) := by simp [World.cell?, hbx]
    have b2 : wc.cell? ⟨B, 2, none⟩ = some (.int .i64 (F q 2)) := by simp [World.cell?, hbx]
    have b3 : wc.cell? ⟨B, 3, none⟩ = some (.int .i64 (F q 3)) := by simp [World.cell?, hbx]
    obtain ⟨ax, cx, rfl⟩ := ownsRow_shape hov
    have hrr : ln' c < 1024 := by rw [hlx.1]; omega
    have hHc : H ≤ wc.heap.size := by have := HM.out.bel.size; omega
    have HFIN0 : ∀ (g cap : Nat) (w4 : World), w4.ownsRow H 42 4 (.slice (some ⟨g, 0, none⟩) (ln' c + 1) cap) (ln' c + 1) (X' c ++ [.int .i64 (F q 0), .int .i64 (F q 1), .int .i64 (F q 2), .int .i64 (F q 3)]) → (wc.alloc (.cells #[.int .i64 (F q 0), .int .i64 (F q 1), .int .i64 (F q 2), .int .i64 (F q 3)] 42)).grownBy w4 (Value.slice ax (ln' c) cx).ownBlock → ((Value.slice ax (ln' c) cx).ownBlock = some g ∨ g = wc.heap.size + 1) →
        LS (w4.setCell ⟨qb, c, none⟩ (.slice (some ⟨g, 0, none⟩) (ln' c + 1) cap)) H tb s t (q + 1) F ∧ Below H w (w4.setCell ⟨qb, c, none⟩ (.slice (some ⟨g, 0, none⟩) (ln' c + 1) cap)) := fun g cap w4 h1 h2 h3 => HM.out.done hv hHc h1 h2 h3
    have HKA : Hid (∀ w4, (wc.alloc (.cells #[.int .i64 (F q 0), .int .i64 (F q 1), .int .i64 (F q 2), .int .i64 (F q 3)] 42)).grownBy w4 (Value.slice ax (ln' c) cx).ownBlock → w4.cell? ⟨tb, 2, none⟩ = some (.slice (some ⟨qb, 0, none⟩) (c + 1) cp') ∧ w4.cell? ⟨qb, c, none⟩ = some (.slice ax (ln' c) cx) ∧ w4.frozen? ⟨qb, c, none⟩ = false) := fun w4 hg4 => by
      have k1 := kept_types (hov.alloc _) hg4 (alloc_keep HM.out.ck.tr _) (by decide)
      have k2 := ownsRow_types (hov.alloc _) hg4 (HM.out.ck.out.alloc _) (by decide)
      rw [HM.out.len] at k1
      refine ⟨by simp [World.cell?, k1], ?_, k2.frozenAt c⟩
      rw [k2.cellAt c (by have := HM.out.len; omega)]; exact hv
    have HXO : Hid (wc.ownsRow H 42 4 (.slice ax (ln' c) cx) (ln' c) (X' c)) := hov
    generalize ln' c = r at *
    generalize X' c = XS at *
    have HFIN : Hid (∀ (g cap : Nat) (w4 : World), w4.ownsRow H 42 4 (.slice (some ⟨g, 0, none⟩) (r + 1) cap) (r + 1) (XS ++ [.int .i64 (F q 0), .int .i64 (F q 1), .int .i64 (F q 2), .int .i64 (F q 3)]) → (wc.alloc (.cells #[.int .i64 (F q 0), .int .i64 (F q 1), .int .i64 (F q 2), .int .i64 (F q 3)] 42)).grownBy w4 (Value.slice ax r cx).ownBlock → ((Value.slice ax r cx).ownBlock = some g ∨ g = wc.heap.size + 1) →
        LS (w4.setCell ⟨qb, c, none⟩ (.slice (some ⟨g, 0, none⟩) (r + 1) cap)) H tb s t (q + 1) F ∧ Below H w (w4.setCell ⟨qb, c, none⟩ (.slice (some ⟨g, 0, none⟩) (r + 1) cap))) := HFIN0
    have hc128 : c ≤ 128 := by omega
    have hcc : (c : Int) < (c : Int) + 1 := by omega
    have a1 : ∀ o : Obj, (wc.alloc o).cell? ⟨tb, 2, none⟩ = some (.slice (some ⟨qb, 0, none⟩) (c + 1) cp') := fun o => by rw [World.cell?_alloc_lt _ _ _ (World.block_lt_of_cell? wc _ y1)]; exact y1
    have a2 : ∀ o : Obj, (wc.alloc o).cell? ⟨qb, c, none⟩ = some (.slice ax r cx) := fun o => by rw [World.cell?_alloc_lt _ _ _ (World.block_lt_of_cell? wc _ y2)]; exact y2
    have HNEWS : Hid (∀ (j : Nat) (u : Value), ([.int .i64 (F q 0), .int .i64 (F q 1), .int .i64 (F q 2), .int .i64 (F q 3)] : List Value)[j]? = some u → (wc.alloc (.cells #[.int .i64 (F q 0), .int .i64 (F q 1), .int .i64 (F q 2), .int .i64 (F q 3)] 42)).cell? ((⟨wc.heap.size, 0, none⟩ : Addr).add j) = some u) := news_arr wc #[.int .i64 (F q 0), .int .i64 (F q 1), .int .i64 (F q 2), .int .i64 (F q 3)] 42
    clear HFIN0 hov hlx hce hbx HM hv HK HX hct hlm hl128 hBB
    go_wp2
    go_region_law ((refine step_append_lies _ (by rfl) _ _ 47 (by rfl) H 42 i42 (.agg #[.int .i64 0, .int .i64 0, .int .i64 0, .int .i64 0]) 4 32 Try.underlying47 hi42 z420 z421 z422 rfl (by omega) (.slice ax r cx) r XS (by rfl) (by exact HXO.out.alloc _) ⟨wc.heap.size, 0, none⟩ 1 1 [.int .i64 (F q 0), .int .i64 (F q 1), .int .i64 (F q 2), .int .i64 (F q 3)] (by rfl) rfl (by exact HNEWS.out) (by simp [Value.oneCell']) (by omega) (by unfold maxLen; omega) (by omega) (by simp; omega) (wc.heap.size + 1) (by simp) ?_; intro g cap w4 hown4 hgrow4 hat4 hlt4; obtain ⟨t1, t2, t3⟩ := HKA.out w4 (by exact ⟨hgrow4.os, hgrow4.tape, hgrow4.output, hgrow4.size, hgrow4.block⟩); have HF4 := HFIN.out g cap w4 hown4 (by exact ⟨hgrow4.os, hgrow4.tape, hgrow4.output, hgrow4.size, hgrow4.block⟩) hat4; clear hown4 hgrow4 hat4 hlt4; replace HF4 : Hid _ := HF4))
    all_goals
      go_wp2
      go_end0
      exact ⟨rfl, HF4.out⟩
end Go.Proofs.Qxb6602276a

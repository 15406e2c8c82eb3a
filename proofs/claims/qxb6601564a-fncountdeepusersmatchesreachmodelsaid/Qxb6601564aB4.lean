import Derived.Test.Qxb6601564aB5
import Derived.Deep.RegionLaw
import Derived.Deep.DeepCutAuto
import Derived.Deep.DrawnRows
namespace Go.Proofs.Qxb6601564a
open Go.RowKit Go.WideMaps
set_option linter.unusedVariables false
attribute [local go_sem ↓] Go.wp_at_zero Go.wp_at_succ

theorem CS.start (w : World) : CS ((((w.alloc (.map #[] 0)).alloc (.cells #[.map (some w.heap.size)] 45)).alloc (.cells #[.slice none 0 0] 46)).alloc (.cells #[.slice none 0 0] 38)) w.heap.size w.heap.size (w.heap.size + 1) (w.heap.size + 1 + 1) (w.heap.size + 1 + 1 + 1) Gr.empty (.slice none 0 0) := by
  have e1 : (w.alloc (.map #[] 0)).heap.size = w.heap.size + 1 := by simp
  have e2 : ((w.alloc (.map #[] 0)).alloc (.cells #[.map (some w.heap.size)] 45)).heap.size = w.heap.size + 1 + 1 := by simp
  have e3 : (((w.alloc (.map #[] 0)).alloc (.cells #[.map (some w.heap.size)] 45)).alloc (.cells #[.slice none 0 0] 46)).heap.size = w.heap.size + 1 + 1 + 1 := by simp
  have h1 : (w.alloc (.map #[] 0)).ownsMap (H := Unit) Try.prog 9 (plainElem Try.prog 21) w.heap.size 0 (.map []) := World.ownsMap_made w _ _ _
  have i1 := heap_alloc_new (w.alloc (.map #[] 0)) (.cells #[.map (some w.heap.size)] 45)
  have i2 := heap_alloc_new ((w.alloc (.map #[] 0)).alloc (.cells #[.map (some w.heap.size)] 45)) (.cells #[.slice none 0 0] 46)
  have i3 := heap_alloc_new (((w.alloc (.map #[] 0)).alloc (.cells #[.map (some w.heap.size)] 45)).alloc (.cells #[.slice none 0 0] 46)) (.cells #[.slice none 0 0] 38)
  rw [e1] at i1; rw [e2] at i2; rw [e3] at i3
  refine ⟨by omega, alloc_keep (alloc_keep i1 _) _, ⟨.map [], ((h1.alloc _).alloc _).alloc _, MapOf.empty⟩, ⟨none, 0, [], alloc_keep i2 _, World.ownsRow_nil _ _ _ _, ⟨?_, ?_, ?_⟩⟩, ⟨none, 0, i3, World.ownsRow_nil _ _ _ _⟩, World.ownsRow_nil _ _ _ _⟩
  · intro i v hv; simp at hv
  · intro i j v v' b _ hv; simp at hv
  · intro i v b hv; simp at hv

theorem bl_len_le (E : List (Nat × Nat)) (i : Nat) : (bl E i).length ≤ E.length := by unfold bl; rw [List.length_map]; exact List.length_filter_le _ _
theorem Inv.lenU {role : ByteArray → Bool} {g : Gr} (h : Inv role g) : g.U.length ≤ g.names.length := by
  have := nodup_le g.U (List.range g.names.length) h.nodup (fun x hx => by
    have h1 := (h.memU x).1 hx
    have h2 := (List.getElem?_eq_some_iff.1 h1).1
    rw [h.lus] at h2
    exact List.mem_range.2 h2)
  simpa using this
theorem bl_len_nil {role : ByteArray → Bool} {g : Gr} (h : Inv role g) : bl g.E g.names.length = [] := by
  unfold bl
  rw [List.map_eq_nil_iff, List.filter_eq_nil_iff]
  intro e he
  have := (h.e1 e he).1
  simp; omega

theorem row_len_le {w : World} {H : Nat} {e : TypeId} {v : Value} {n : Nat} {xs : List Value} (h : w.ownsRow H e 1 v n xs) : n ≤ maxLen := by
  rcases h.2 with ⟨_, h0⟩ | ⟨_, cap, _, _, _, _, h1, h2, _⟩
  · omega
  · omega
theorem cnt_deep {g : Gr} {j c u : Nat} (hn : g.U.Nodup) (hu : g.U[j]? = some u) (hd : deepP g u) (h : IsCnt (fun u => (∃ j', j' < j ∧ g.U[j']? = some u) ∧ deepP g u) c) : IsCnt (fun u => (∃ j', j' < j + 1 ∧ g.U[j']? = some u) ∧ deepP g u) (c + 1) := by
  refine h.add (u := u) ?_ (fun x => ?_)
  · rintro ⟨⟨j', h1, h2⟩, _⟩
    have hl := (List.getElem?_eq_some_iff.1 hu).1
    have := (List.getElem?_inj (by omega) hn).1 (h2.trans hu.symm)
    omega
  · constructor
    · rintro ⟨⟨j', h1, h2⟩, h3⟩
      by_cases e : j' = j
      · subst e
        rw [hu] at h2
        exact .inr (Option.some.inj h2).symm
      · exact .inl ⟨⟨j', by omega, h2⟩, h3⟩
    · rintro (⟨⟨j', h1, h2⟩, h3⟩ | rfl)
      · exact ⟨⟨j', by omega, h2⟩, h3⟩
      · exact ⟨⟨j, by omega, hu⟩, hd⟩

set_option maxHeartbeats 6400000 in
set_option maxRecDepth 100000 in
theorem count_any (n cap : Nat) (kd : Nat → ByteArray) (fl : Nat → Nat) (fs : Nat → Nat → ByteArray) (b off : Nat) (m : Option Nat) (role : ByteArray → Bool) (w : World) (hn : n ≤ 512)
    (hR : RecsAt w (some ⟨b, off, none⟩) n kd fl fs b off) (hok : RecsOk n kd fl fs) (hwf : ∀ i, i < n → 1 ≤ fl i ∧ (isP (kd i) = false → 2 ≤ fl i)) (hr : RoleAt w m role) :
    Calls Try.prog 16 #[.slice (some ⟨b, off, none⟩) n cap, .map m] w fun e w' => CountIs n kd fs role e ∧ Below w.heap.size w w' := by
  have hmm := @run_makeMap Try.prog
  have HH : Hid (RecsAt w (some ⟨b, off, none⟩) n kd fl fs b off ∧ RecsOk n kd fl fs ∧ (∀ i, i < n → 1 ≤ fl i ∧ (isP (kd i) = false → 2 ≤ fl i)) ∧ RoleAt w m role) := ⟨hR, hok, hwf, hr⟩
  clear hR hok hwf hr
  go_enter Try.func16, Try.ntmps16
  go_wp2
  have hC0 := CS.start w
  have hB0 : Below w.heap.size w ((((w.alloc (.map #[] 0)).alloc (.cells #[.map (some w.heap.size)] 45)).alloc (.cells #[.slice none 0 0] 46)).alloc (.cells #[.slice none 0 0] 38)) :=
    ((((Below.refl _ _).alloc (Nat.le_refl _) _).alloc (by simp) _).alloc (by simp; omega) _).alloc (by simp; omega) _
  generalize ((((w.alloc (.map #[] 0)).alloc (.cells #[.map (some w.heap.size)] 45)).alloc (.cells #[.slice none 0 0] 46)).alloc (.cells #[.slice none 0 0] 38)) = w0 at hC0 hB0 ⊢
  generalize w.heap.size + 1 + 1 + 1 = bg at hC0 ⊢
  generalize w.heap.size + 1 + 1 = bb at hC0 ⊢
  generalize w.heap.size + 1 = bi at hC0 ⊢
  generalize hmi : w.heap.size = mi at *
  obtain ⟨B, hB⟩ : ∃ B, B = w.heap.size := ⟨_, rfl⟩
  go_loopw [9, 30] (fun vu i wr => ∃ (k : Nat) (au : Option Addr) (cu : Nat), k ≤ n ∧ i = .int .i64 k ∧ vu = .slice au (Gr.upto role (rcOf kd fs) k).U.length cu ∧ CS wr mi mi bi bb bg (Gr.upto role (rcOf kd fs) k) vu ∧ Below mi w wr) (fun _ i _ => n - (intOf i).toNat)
  case atStart => exact ⟨0, none, 0, by omega, rfl, rfl, hC0, hB0⟩
  case round =>
    obtain ⟨k, au, cu, hk, rfl, rfl, hC, hBr⟩ := hrel
    have hI := Inv.upto role (rcOf kd fs) k
    have hNl := (upto_len role (rcOf kd fs) k).1
    have hEl0 := (upto_len role (rcOf kd fs) k).2
    clear hC0 hB0
    by_cases hlt : k < n
    · have HG : Hid (Gr.upto role (rcOf kd fs) (k + 1) = (Gr.upto role (rcOf kd fs) k).step role (rcOf kd fs k)) := rfl
      generalize Gr.upto role (rcOf kd fs) k = g at hC hI hNl hEl0 HG ⊢
      obtain ⟨line, fa, fc, fb, fo, c0w, c1w, c2w, hroww, hfn⟩ := HH.out.1.recs k hlt
      obtain rfl := hroww.addr (by have := (HH.out.2.2.1 k hlt).1; omega)
      have cw : ∀ {a : Addr} {v : Value} {w' : World}, w.cell? a = some v → Below mi w w' → w'.cell? a = some v := fun h hb => cell_below (by rw [hmi]; exact hb) h
      have f0w : w.cell? ⟨fb, fo, none⟩ = some (.string (fs k 0)) := by simpa using hroww.cell 0 (by have := (HH.out.2.2.1 k hlt).1; omega)
      have c0 := cw c0w hBr
      have c1 := cw c1w hBr
      have c2 := cw c2w hBr
      have s0 : (fs k 0).size ≤ maxLen := HH.out.2.1.hs k hlt 0 (by have := (HH.out.2.2.1 k hlt).1; omega)
      have e1 : (0 : Int) < fl k := by have := (HH.out.2.2.1 k hlt).1; omega
      have hmir : mi ≤ wr.heap.size := by have := hBr.size; omega
      have f0' : ∀ o : Obj, (wr.alloc o).cell? ⟨fb, fo, none⟩ = some (.string (fs k 0)) := fun o => cw f0w (hBr.alloc hmir o)
      have HRW : Hid (Row w (some ⟨fb, fo, none⟩) (fl k) (fun j => .string (fs k j)) fb fo) := hroww
      have HC1 : Hid (CS (wr.alloc (.cells #[.int .i64 line, .string (kd k), .slice (some ⟨fb, fo, none⟩) (fl k) fc] 43)) mi mi bi bb bg g (.slice au g.U.length cu)) := hC.alloc _
      have HI : Hid (Inv role g) := hI
      have HCW : Hid (∀ {a : Addr} {v : Value} {w' : World}, w.cell? a = some v → Below mi w w' → w'.cell? a = some v) := cw
      clear hroww hfn hC hI cw c0w c1w c2w f0w
      go_wp2_with fail
      refine (id_any mi mi bi bb bg g (.slice au g.U.length cu) (fs k 0) _ s0 HC1.out (bl_len_nil HI.out) (by omega)).mono ?_
      rintro e w2 ⟨rfl, hB2, hC2, hk2⟩
      have hrec2 := hk2 _ _ (heap_alloc_new wr (.cells #[.int .i64 line, .string (kd k), .slice (some ⟨fb, fo, none⟩) (fl k) fc] 43))
      have B2 : Below mi w w2 := (hBr.alloc hmir (.cells #[.int .i64 line, .string (kd k), .slice (some ⟨fb, fo, none⟩) (fl k) fc] 43)).trans hB2
      have hal := add_lt g (fs k 0)
      have hI1 := HI.out.add (fs k 0)
      have hN1 := (add_len g (fs k 0)).2
      have HA : Hid (ix g.names (fs k 0) < (g.add (fs k 0)).names.length) := hal
      generalize wr.heap.size = RB at hrec2 hmir ⊢
      clear c0 c1 c2 f0' HC1 hB2 hk2 hBr hal
      have r1 : w2.cell? ⟨RB, 1, none⟩ = some (.string (kd k)) := by simp [World.cell?, hrec2]
      cases hp : isP (kd k) with
      | true =>
        have hp' : ((kd k).toList == [112]) = true := hp
        obtain ⟨q, cg, x, z1, z2, z3, z4, hCg⟩ := hC2.grant (ix g.names (fs k 0)) HA.out hI1.lgr
        have e2 : ((ix g.names (fs k 0) : Nat) : Int) < (g.add (fs k 0)).names.length := by have := HA.out; omega
        have HGk : Hid (Gr.upto role (rcOf kd fs) (k + 1) = { g.add (fs k 0) with gr := (g.add (fs k 0)).gr.set (ix g.names (fs k 0)) true }) := by
          show Gr.upto role (rcOf kd fs) (k + 1) = _
          rw [HG.out]
          simp [Gr.step, rcOf, hp, Gr.grant]
        have HCg : Hid (CS (w2.setCell ⟨q, ix g.names (fs k 0), none⟩ (.bool true)) mi mi bi bb bg { g.add (fs k 0) with gr := (g.add (fs k 0)).gr.set (ix g.names (fs k 0)) true } (.slice au g.U.length cu)) := hCg
        have hU1 : Hid ((g.add (fs k 0)).U = g.U) := (add_E g (fs k 0)).2
        clear hC2 hp hCg HG hI1 hrec2
        generalize ix g.names (fs k 0) = ia at *
        generalize (g.add (fs k 0)).names.length = N1 at *
        go_wp2
        go_roundw
        case rel =>
          refine ⟨k + 1, au, cu, by omega, by go_num, ?_, ?_, B2.setCell z4 _⟩
          · rw [HGk.out]; show _ = Value.slice au (g.add (fs k 0)).U.length cu; rw [hU1.out]
          · rw [HGk.out]; exact HCg.out
        case measure => simp [intOf]; omega
      | false =>
        have hp' : ((kd k).toList == [112]) = false := hp
        have hf2 : 2 ≤ fl k := (HH.out.2.2.1 k hlt).2 hp
        have s1 : (fs k 1).size ≤ maxLen := HH.out.2.1.hs k hlt 1 (by omega)
        have e2 : (1 : Int) < fl k := by omega
        have r2 : w2.cell? ⟨RB, 2, none⟩ = some (.slice (some ⟨fb, fo, none⟩) (fl k) fc) := by simp [World.cell?, hrec2]
        have f1 : w2.cell? ⟨fb, fo + 1, none⟩ = some (.string (fs k 1)) := HCW.out (HRW.out.cell 1 (by omega)) B2
        have HGk : Hid (Gr.upto role (rcOf kd fs) (k + 1) = ((g.add (fs k 0)).add (fs k 1)).tie (role (fs k 0)) (ix g.names (fs k 0)) (ix (g.add (fs k 0)).names (fs k 1))) := by
          show Gr.upto role (rcOf kd fs) (k + 1) = _
          rw [HG.out]
          simp [Gr.step, rcOf, hp, Gr.link]
        have HC2 : Hid (CS w2 mi mi bi bb bg (g.add (fs k 0)) (.slice au g.U.length cu)) := hC2
        have HI1 : Hid (Inv role (g.add (fs k 0))) := hI1
        have HR2 : Hid (w2.heap[RB]? = some (.cells #[.int .i64 line, .string (kd k), .slice (some ⟨fb, fo, none⟩) (fl k) fc] 43 (0, 0))) := hrec2
        clear hp HG hC2 hI1 hrec2
        go_wp2_with fail
        refine (id_any mi mi bi bb bg (g.add (fs k 0)) (.slice au g.U.length cu) (fs k 1) _ s1 HC2.out (bl_len_nil HI1.out) (by omega)).mono ?_
        rintro e w3 ⟨rfl, hB3, hC3, hk3⟩
        have hrec3 := hk3 _ _ HR2.out
        have B3 : Below mi w w3 := B2.trans hB3
        have r3 : w3.cell? ⟨RB, 2, none⟩ = some (.slice (some ⟨fb, fo, none⟩) (fl k) fc) := by simp [World.cell?, hrec3]
        have f3 : w3.cell? ⟨fb, fo, none⟩ = some (.string (fs k 0)) := HCW.out (by simpa using HRW.out.cell 0 (by omega)) B3
        have hrole := HH.out.2.2.2 w3 (by rw [hmi]; exact B3) (fs k 0) s0
        have hE2 := (add_E (g.add (fs k 0)) (fs k 1))
        have hE1 := (add_E g (fs k 0))
        have hN2 := (add_len (g.add (fs k 0)) (fs k 1))
        have hbl := add_lt (g.add (fs k 0)) (fs k 1)
        have hEl : ((g.add (fs k 0)).add (fs k 1)).E.length ≤ 512 := by rw [hE2.1, hE1.1]; omega
        have HU : Hid (((g.add (fs k 0)).add (fs k 1)).U = g.U) := by show _ = _; rw [hE2.2, hE1.2]
        obtain ⟨qb, cb, rows, x, y1, y2, y3, y4, y5, ⟨ax, cx, rfl⟩, hxo, hb1, hb2, hb3⟩ := hC3.rowAt (ix g.names (fs k 0)) (by have := HA.out; omega)
        generalize hG2 : (g.add (fs k 0)).add (fs k 1) = g2 at *
        generalize hia : ix g.names (fs k 0) = ia at *
        generalize hib : ix (g.add (fs k 0)).names (fs k 1) = ib at *
        generalize hrl : role (fs k 0) = rl at *
        have HALL : Hid (CS w3 mi mi bi bb bg g2 (.slice au g.U.length cu) ∧ w3.heap[bb]? = some (.cells #[.slice (some ⟨qb, 0, none⟩) g2.names.length cb] 46 (0, 0)) ∧ w3.ownsRow mi 49 1 (.slice (some ⟨qb, 0, none⟩) g2.names.length cb) g2.names.length rows ∧ RowsOk w3 mi rows g2.E (.slice au g.U.length cu) ∧ rows[ia]? = some (.slice ax (bl g2.E ia).length cx)) := ⟨hC3, hb1, hb2, hb3, y3⟩
        have HXO : Hid (w3.ownsRow mi 21 1 (.slice ax (bl g2.E ia).length cx) (bl g2.E ia).length ((bl g2.E ia).map i32)) := hxo
        have hian : ia < g2.names.length := by have := HA.out; omega
        have hian' : (ia : Int) < g2.names.length := by omega
        clear hC3 hb1 hb2 hb3 y3 hxo hrec3 hB3 hk3 hE1 hE2 hN2 HC2 HI1 HR2 HA hN1 r1 r2 f1 B2
        obtain ⟨i21, hi21, z210, z211, z212⟩ := info_parts Try.info21
        have hbln := bl_len_le g2.E ia
        generalize hbn : (bl g2.E ia).length = bn at *
        go_upto_region 13 with fail
        go_cut [66] (fun v wx => (∃ c : Bool, v = .bool c ∧ Hid (c = true ↔ (rl = false ∧ bn = 0))) ∧ w3 = wx)
        case first =>
          cases rl with
          | true =>
            go_wp2
            go_meet
            exact ⟨⟨false, rfl, show _ ↔ _ by simp⟩, rfl⟩
          | false =>
            by_cases hz : bn = 0
            · have hz' : ((bn : Int) == 0) = true := by simp; omega
              have HZ : Hid (bn = 0) := hz
              clear hz
              go_wp2
              go_meet
              exact ⟨⟨true, rfl, show _ ↔ _ by simp [HZ.out]⟩, rfl⟩
            · have hz' : ((bn : Int) == 0) = false := by simp; omega
              have HZ : Hid (¬ bn = 0) := hz
              clear hz
              go_wp2
              go_meet
              exact ⟨⟨false, rfl, show _ ↔ _ by simp [HZ.out]⟩, rfl⟩
        case rest =>
          obtain ⟨⟨c, rfl, HCC⟩, rfl⟩ := hcut
          have hmi3 : mi ≤ w3.heap.size := by have := B3.size; omega
          have hUl : g.U.length ≤ 1024 := by have := HI.out.lenU; omega
          go_upto_if 66 with fail
          go_cut [9] (fun vx wx => ∃ (ay : Option Addr) (cy : Nat), vx = .slice ay (if rl = false ∧ bn = 0 then g2.U ++ [ia] else g2.U).length cy ∧ CS wx mi mi bi bb bg { g2 with U := if rl = false ∧ bn = 0 then g2.U ++ [ia] else g2.U } vx ∧ Below mi w wx)
          case first =>
            cases c with
            | true =>
              have HU' : Hid ((if rl = false ∧ bn = 0 then g2.U ++ [ia] else g2.U) = g2.U ++ [ia]) := if_pos (HCC.out.1 rfl)
              have hus : w3.ownsRow mi 21 1 (.slice au g.U.length cu) g.U.length (g.U.map i32) := by have := HALL.out.1.users; rw [HU.out] at this; exact this
              go_wp2_with (at_builtin; refine wpList_append_lies _ rfl _ _ 49 rfl mi 21 i21 (.int .i32 0) 1 4 Try.underlying49 hi21 z210 z211 z212 rfl (by omega) (.slice au g.U.length cu) g.U.length (g.U.map i32) rfl (hus.alloc _) ⟨w3.heap.size, 0, none⟩ 1 1 [.int .i32 ia] rfl rfl (news_one w3 _ 21) (by simp [Value.oneCell']) (by omega) (by unfold maxLen; omega) (by omega) (by simp; omega) (w3.heap.size + 1) (by simp) ?_)
              intro q cq w4 hown4 hg4 hat4 hlt4
              have hC4 := CS.user (a := ia) (HALL.out.1.alloc _) (by rw [HU.out]; exact hown4) hg4 (by simpa using hat4)
              have hB4 : Below mi w w4 := (B3.alloc hmi3 _).grown hg4 (by simp; omega) (fun k' hk' => (hus.lt k' hk').1)
              have HF : Hid (CS w4 mi mi bi bb bg { g2 with U := g2.U ++ [ia] } (.slice (some ⟨q, 0, none⟩) (g2.U.length + 1) cq) ∧ Below mi w w4) := ⟨hC4, hB4⟩
              clear hC4 hB4 hown4 hg4 hat4 hlt4
              go_wp2
              go_meet
              refine ⟨some ⟨q, 0, none⟩, cq, ?_, ?_, HF.out.2⟩
              · rw [HU'.out, List.length_append, HU.out]; rfl
              · rw [HU'.out]; have := HF.out.1; rw [HU.out] at this ⊢; exact this
            | false =>
              have HU' : Hid ((if rl = false ∧ bn = 0 then g2.U ++ [ia] else g2.U) = g2.U) := if_neg (fun h => by have := HCC.out.2 h; cases this)
              go_wp2
              go_meet
              refine ⟨au, cu, ?_, ?_, B3⟩
              · rw [HU'.out, HU.out]
              · rw [HU'.out]; exact HALL.out.1
          case rest =>
            obtain ⟨ay, cy, rfl, hC5, B5⟩ := hcut
            clear y1 y2 y4 y5 r3 f3 hrole HALL HXO B3 hUl hmi3 HCC c
            have HGE : Hid ({ ({ g2 with U := if rl = false ∧ bn = 0 then g2.U ++ [ia] else g2.U } : Gr) with E := g2.E ++ [(ia, ib)] }.names = (g2.tie rl ia ib).names ∧ True) := ⟨rfl, trivial⟩
            obtain ⟨g3, hg3⟩ : ∃ g3 : Gr, g3 = { g2 with U := if rl = false ∧ bn = 0 then g2.U ++ [ia] else g2.U } := ⟨_, rfl⟩
            have HG3 : Hid (g3.names = g2.names ∧ g3.gr = g2.gr ∧ g3.E = g2.E ∧ g3.U = (if rl = false ∧ bn = 0 then g2.U ++ [ia] else g2.U)) := by rw [hg3]; exact ⟨rfl, rfl, rfl, rfl⟩
            rw [← hg3] at hC5
            have hUe : (if rl = false ∧ bn = 0 then g2.U ++ [ia] else g2.U).length = g3.U.length := by rw [HG3.out.2.2.2]
            rw [hUe] at hC5 ⊢
            clear hg3 hUe HGE
            have hian3 : ia < g3.names.length := by rw [HG3.out.1]; exact hian
            have hian3' : (ia : Int) < g3.names.length := by omega
            obtain ⟨qb, cb, rows, x, y1, y2, y3, y4, y5, ⟨ax, cx, rfl⟩, hxo, hb1, hb2, hb3⟩ := hC5.rowAt ia hian3
            have hbn3 : (bl g3.E ia).length = bn := by rw [HG3.out.2.2.1]; exact hbn
            have HBN : Hid ((bl g3.E ia).length = bn) := hbn3
            rw [hbn3] at y2 y3 hxo
            have hmi5 : mi ≤ wc.heap.size := by have := B5.size; omega
            have keepA : ∀ w4, (wc.alloc (.cells #[.int .i32 ib] 21)).grownBy w4 (Value.slice ax bn cx).ownBlock → w4.cell? ⟨bb, 0, none⟩ = some (.slice (some ⟨qb, 0, none⟩) g3.names.length cb) ∧ w4.cell? ⟨qb, ia, none⟩ = some (.slice ax bn cx) ∧ w4.frozen? ⟨qb, ia, none⟩ = false := fun w4 hg4 => by
              have k1 := kept_types (hxo.alloc _) hg4 (alloc_keep hb1 _) (by decide)
              obtain ⟨cs, hcs⟩ := ownsRow_block hb2 (g := qb) rfl
              have k2 := kept_types (hxo.alloc _) hg4 (alloc_keep hcs _) (by decide)
              refine ⟨cell_one k1, ?_, by simp [World.frozen?, k2]⟩
              have := y2
              simp only [World.cell?, hcs] at this
              simp only [World.cell?, k2]
              exact this
            have FINAL : ∀ (q cq : Nat) (w4 : World), w4.ownsRow mi 21 1 (.slice (some ⟨q, 0, none⟩) (bn + 1) cq) (bn + 1) ((bl g3.E ia).map i32 ++ [.int .i32 ib]) → (wc.alloc (.cells #[.int .i32 ib] 21)).grownBy w4 (Value.slice ax bn cx).ownBlock → ((Value.slice ax bn cx).ownBlock = some q ∨ q = wc.heap.size + 1) →
                CS (w4.setCell ⟨qb, ia, none⟩ (.slice (some ⟨q, 0, none⟩) (bn + 1) cq)) mi mi bi bb bg (Gr.upto role (rcOf kd fs) (k + 1)) (.slice ay g3.U.length cy) ∧ Below mi w (w4.setCell ⟨qb, ia, none⟩ (.slice (some ⟨q, 0, none⟩) (bn + 1) cq)) := fun q cq w4 hown4 hg4 hat4 => by
              have h1 := CS.row (a := ia) (b := ib) (hC5.alloc (.cells #[.int .i32 ib] 21)) (alloc_keep hb1 _) (hb2.alloc _) (hb3.congr (fun k' cs hk' => Below.heap_alloc _ _ _ (heap_lt hk'))) y3 (by rw [HBN.out]; exact hown4) hg4 (by simpa using hat4)
              rw [HBN.out] at h1
              refine ⟨?_, ((B5.alloc hmi5 _).grown hg4 (by simp; omega) (fun k' hk' => (hxo.lt k' hk').1)).setCell y5 _⟩
              refine h1.same ?_ ?_ ?_ ?_
              · rw [HGk.out]; exact HG3.out.1.symm
              · rw [HGk.out]; exact HG3.out.2.1.symm
              · rw [HGk.out]; show g2.E ++ [(ia, ib)] = g3.E ++ [(ia, ib)]; rw [HG3.out.2.2.1]
              · rw [HGk.out]; show (if rl = false ∧ (bl g2.E ia).length = 0 then g2.U ++ [ia] else g2.U) = g3.U; rw [HG3.out.2.2.2, hbn]
            have HUF : Hid ((Gr.upto role (rcOf kd fs) (k + 1)).U.length = g3.U.length) := by
              show _ = _
              rw [HGk.out]; show (if rl = false ∧ (bl g2.E ia).length = 0 then g2.U ++ [ia] else g2.U).length = g3.U.length; rw [HG3.out.2.2.2, hbn]
            have a1 : ∀ o : Obj, (wc.alloc o).cell? ⟨bb, 0, none⟩ = some (.slice (some ⟨qb, 0, none⟩) g3.names.length cb) := fun o => by rw [World.cell?_alloc_lt _ _ _ (World.block_lt_of_cell? wc _ y1)]; exact y1
            have a2 : ∀ o : Obj, (wc.alloc o).cell? ⟨qb, ia, none⟩ = some (.slice ax bn cx) := fun o => by rw [World.cell?_alloc_lt _ _ _ (World.block_lt_of_cell? wc _ y2)]; exact y2
            have HKA : Hid _ := keepA
            have HFIN : Hid _ := FINAL
            have HXO : Hid (wc.ownsRow mi 21 1 (.slice ax bn cx) bn ((bl g3.E ia).map i32)) := hxo
            clear keepA FINAL hb1 hb2 hb3 y3 hC5 hxo B5 HGk HG3 hbn3 HBN HH HRW HI HCW HU y5 y4 hian hian' hbn hG2 hia hib hrl hbl hp' e1 e2 hf2
            go_wp2
            go_region_law ((refine step_append_lies _ (by rfl) _ _ 49 (by rfl) mi 21 i21 (.int .i32 0) 1 4 Try.underlying49 hi21 z210 z211 z212 rfl (by omega) (.slice ax bn cx) bn ((bl g3.E ia).map i32) (by rfl) (by exact HXO.out.alloc _) ⟨wc.heap.size, 0, none⟩ 1 1 [.int .i32 ib] (by rfl) rfl (by exact news_one wc (.int .i32 ib) 21) (by simp [Value.oneCell']) (by omega) (by unfold maxLen; omega) (by omega) (by simp; omega) (wc.heap.size + 1) (by simp) ?_; intro q cq w4 hown4 hgrow4 hat4 hlt4; obtain ⟨t1, t2, t3⟩ := HKA.out w4 (by exact ⟨hgrow4.os, hgrow4.tape, hgrow4.output, hgrow4.size, hgrow4.block⟩); have HF4 := And.intro hown4 (And.intro hgrow4 hat4); clear hown4 hgrow4 hat4 hlt4; replace HF4 : Hid _ := HF4))
            all_goals
              go_wp2
              go_roundw
              case rel =>
                have R : ∃ (k' : Nat) (au' : Option Addr) (cu' : Nat), k' ≤ n ∧ Value.int .i64 ((k : Int) + 1) = .int .i64 (k' : Int) ∧ Value.slice ay g3.U.length cy = .slice au' (Gr.upto role (rcOf kd fs) k').U.length cu' ∧ CS (w4.setCell ⟨qb, ia, none⟩ (.slice (some ⟨q, 0, none⟩) (bn + 1) cq)) mi mi bi bb bg (Gr.upto role (rcOf kd fs) k') (.slice ay g3.U.length cy) ∧ Below mi w (w4.setCell ⟨qb, ia, none⟩ (.slice (some ⟨q, 0, none⟩) (bn + 1) cq)) :=
                  ⟨k + 1, ay, cy, by omega, by go_num, by rw [HUF.out], (HFIN.out q cq w4 HF4.out.1 (by have h := HF4.out.2.1; exact ⟨h.os, h.tape, h.output, h.size, h.block⟩) HF4.out.2.2).1, (HFIN.out q cq w4 HF4.out.1 (by have h := HF4.out.2.1; exact ⟨h.os, h.tape, h.output, h.size, h.block⟩) HF4.out.2.2).2⟩
                first | exact R | ((repeat apply Exists.intro); exact ⟨R, rfl⟩)
              case measure => simp [intOf]; omega
    · have hkn : k = n := by omega
      subst hkn
      have HCNT : Hid (∀ c : Nat, IsCnt (fun u => (Gr.upto role (rcOf kd fs) k).us[u]? = some true ∧ deepP (Gr.upto role (rcOf kd fs) k) u) c → CountIs k kd fs role (.returned (.int .i64 c))) := fun c hc => ⟨c, rfl, hc⟩
      generalize Gr.upto role (rcOf kd fs) k = g at *
      obtain ⟨wo, hwo⟩ : ∃ x, x = wr := ⟨_, rfl⟩
      subst hwo
      have HGA : Hid (GA wo bb bg g au) := hC.graph hI.lgr
      have hUl := hI.lenU
      have HI : Hid (Inv role g) := hI
      obtain ⟨ab, cb, hcb, hrb⟩ := hC.graph hI.lgr |>.below
      clear hrb
      have HB0 : Hid (Below mi w wo) := hBr
      have hmi0 : mi ≤ wo.heap.size := by have := hBr.size; omega
      obtain ⟨i21, hi21, z210, z211, z212⟩ := info_parts Try.info21
      clear HH hC hI hBr hmm
      generalize hNN : g.names.length = N at *
      go_wp2_with (at_make; refine wpList_make_full _ rfl _ _ 49 rfl wo.heap.size 21 i21 _ 1 Try.underlying49 hi21 z210 z211 _ _ _ _ N rfl rfl rfl rfl (by rw [z212]; omega) (by unfold maxLen; omega) (by omega) ?_)
      intro w2 hown hgrow
      have hMB0 : MB wo w2 wo.heap.size N (List.replicate N 0) none [] 0 none [] 0 := by
        refine ⟨(Below.refl _ _).grown hgrow (Nat.le_refl _) (by simp), (hown.lt _ rfl).2, ?_, World.ownsRow_nil _ _ _ _, World.ownsRow_nil _ _ _ _, fun b hb => by simp [Value.ownBlock] at hb⟩
        have e : (madeCells #[Value.int .i32 0] N).toList = (List.replicate N 0).map i32 := by
          rw [toList_madeCells_one, List.map_replicate]; rfl
        rw [e] at hown
        exact hown
      clear hown hgrow hcb
      go_wp2
      have hHo : Hid (mi ≤ wo.heap.size) := hmi0
      clear hmi0
      generalize hH2 : wo.heap.size = H2 at *
      have HH2 : Hid (wo.heap.size = H2) := hH2
      clear hH2
      go_loopw [14, 16, 17, 87] (fun dp lv nx i wr => ∃ (j c : Nat) (al : Option Addr) (L : List Nat) (cl : Nat) (an : Option Addr) (M : List Nat) (cn : Nat) (rs : List Nat), j ≤ g.U.length ∧ c ≤ j ∧ i = .int .i64 j ∧ dp = .int .i64 c ∧ lv = .slice al L.length cl ∧ nx = .slice an M.length cn ∧
          MB wo wr H2 N rs al L cl an M cn ∧ Hid (rs.length = N ∧ (∀ r, r ∈ rs → r < j + 1) ∧ IsCnt (fun u => (∃ j', j' < j ∧ g.U[j']? = some u) ∧ deepP g u) c)) (fun _ _ _ i _ => g.U.length - (intOf i).toNat)
      case atStart => exact ⟨0, 0, none, [], 0, none, [], 0, List.replicate N 0, by omega, by omega, rfl, rfl, rfl, rfl, hMB0, ⟨by simp, fun r hr => by have := List.eq_of_mem_replicate hr; omega, IsCnt.zero (fun u hu => by obtain ⟨⟨j', hj', _⟩, _⟩ := hu; omega)⟩⟩
      case round =>
        obtain ⟨j, c, al, L, cl, an, M, cn, rs, hj, hc, rfl, rfl, rfl, rfl, hMB, HX⟩ := hrel
        clear hMB0
        by_cases hjl : j < g.U.length
        · obtain ⟨u, hju⟩ : ∃ u, g.U[j]? = some u := ⟨g.U[j], List.getElem?_eq_getElem hjl⟩
          have huN : u < N := by
            have h1 := (HI.out.memU u).1 (List.mem_of_getElem? hju)
            have h2 := (List.getElem?_eq_some_iff.1 h1).1
            rw [HI.out.lus, hNN] at h2
            exact h2
          have hGAr : GA wr bb bg g au := HGA.out.below' (by rw [HH2.out]; exact hMB.bel)
          obtain ⟨qu, hau, hcu⟩ := hGAr.users j u hju
          subst hau
          have hcu' : wr.cell? ⟨qu, j, none⟩ = some (.int .i32 u) := hcu
          have hjl' : (j : Int) < g.U.length := by omega
          have huN' : (u : Int) < N := by omega
          obtain ⟨x0, hx0⟩ : ∃ x, wr.cell? ⟨H2, u, none⟩ = some x := by
            have hl : u < rs.length := by rw [HX.out.1]; exact huN
            exact ⟨i32 (rs[u]), by rw [hMB.rch.cellAt u (by omega)]; simp [hl]⟩
          have hfz := hMB.rch.frozenAt u
          have hcut := fun W => run_cut0 W al L.length cl (ownsRow_cut0 hMB.lev).2
          have HMB1 : Hid (MB wo (wr.setCell ⟨H2, u, none⟩ (i32 (j + 1))) H2 N (rs.set u (j + 1)) al [] cl an M cn) := (hMB.mark u (j + 1)).cutL
          have hlv1 : (wr.setCell ⟨H2, u, none⟩ (.int .i32 ((j : Int) + 1))).ownsRow (H2 + 1) 21 1 (.slice al 0 cl) 0 [] := HMB1.out.lev
          have hsz1 : (wr.setCell ⟨H2, u, none⟩ (.int .i32 ((j : Int) + 1))).heap.size = wr.heap.size := by simp [World.setCell]
          have hnw : ∀ (jj : Nat) (v : Value), ([.int .i32 u] : List Value)[jj]? = some v → ((wr.setCell ⟨H2, u, none⟩ (.int .i32 ((j : Int) + 1))).alloc (.cells #[.int .i32 u] 21)).cell? ((⟨wr.heap.size, 0, none⟩ : Addr).add jj) = some v := by
            have := news_one (wr.setCell ⟨H2, u, none⟩ (.int .i32 ((j : Int) + 1))) (.int .i32 u) 21
            rw [hsz1] at this
            exact this
          have hH2lt := hMB.hsz
          have HJU : Hid (g.U[j]? = some u) := hju
          clear hGAr hcu hMB hju
          go_wp2
          go_step3
          go_wp2_with (at_builtin; refine wpList_append_lies _ rfl _ _ 49 rfl (H2 + 1) 21 i21 (.int .i32 0) 1 4 Try.underlying49 hi21 z210 z211 z212 rfl (by omega) (.slice al 0 cl) 0 [] rfl (hlv1.alloc _) ⟨wr.heap.size, 0, none⟩ 1 1 [.int .i32 u] rfl rfl hnw (by simp [Value.oneCell']) (by omega) (by unfold maxLen; omega) (by omega) (by simp; omega) (wr.heap.size + 1) (by simp) ?_)
          intro q1 c1 wa hown1 hgrow1 hat1 hlt1
          have hMB2 : MB wo wa H2 N (rs.set u (j + 1)) (some ⟨q1, 0, none⟩) [u] c1 an M cn :=
            (HMB1.out.alloc (.cells #[.int .i32 u] 21)).appL (x := u) hown1 hgrow1 (hat1.imp id (fun h => by rw [h]; simp [World.setCell]))
          have HLV : Hid (Lev g u 0 (j + 1) [u] (rs.set u (j + 1)) ∧ um (rs.set u (j + 1)) (j + 1) + 1 ≤ N) :=
            ⟨Lev.start (by rw [HX.out.1, hNN]) (by rw [hNN]; exact huN) HX.out.2.1, by have := um_start (rs := rs) (u := u) (m := j + 1) (by rw [HX.out.1]; exact huN) HX.out.2.1; rw [HX.out.1] at this; exact this⟩
          have HCT : Hid (IsCnt (fun u => (∃ j', j' < j ∧ g.U[j']? = some u) ∧ deepP g u) c) := HX.out.2.2
          clear HMB1 hlv1 hsz1 hnw hown1 hgrow1 hat1 hlt1 hcut hx0 hfz hcu' HX
          go_wp2
          go_step3
          go_wp2
          go_loopw [14, 16, 17, 21] (fun dp lv nx lk wr => ∃ (t : Nat) (al : Option Addr) (L : List Nat) (cl : Nat) (an : Option Addr) (M : List Nat) (cn : Nat) (rs : List Nat), dp = .int .i64 c ∧ lv = .slice al L.length cl ∧ nx = .slice an M.length cn ∧ lk = .int .i64 ((t : Int) + 1) ∧ t ≤ N ∧
              MB wo wr H2 N rs al L cl an M cn ∧ Hid (Lev g u t (j + 1) L rs ∧ (L = [] → t + um rs (j + 1) ≤ N) ∧ (L ≠ [] → t + um rs (j + 1) + 1 ≤ N))) (fun _ _ _ lk _ => N + 2 - (intOf lk).toNat)
          case atStart => exact ⟨0, _, [u], _, an, M, cn, _, rfl, rfl, rfl, rfl, by omega, hMB2, ⟨HLV.out.1, fun h => by simp at h, fun _ => by have := HLV.out.2; omega⟩⟩
          case round =>
            clear hMB2 HLV
            obtain ⟨t, al, L, cl, an, M, cn, rs, rfl, rfl, rfl, rfl, htN, hMB, HL⟩ := hrel
            by_cases hL0 : L = []
            · subst hL0
              have HFI : Hid (rs.length = N ∧ (∀ r, r ∈ rs → r < j + 1 + 1) ∧ IsCnt (fun u => (∃ j', j' < j + 1 ∧ g.U[j']? = some u) ∧ deepP g u) c) := by
                refine ⟨by rw [HL.out.1.len, hNN], fun r hr => by have := HL.out.1.le r hr; omega, HCT.out.same (fun x => ?_)⟩
                constructor
                · rintro ⟨⟨j', h1, h2⟩, h3⟩
                  by_cases e : j' = j
                  · subst e
                    rw [HJU.out] at h2
                    obtain rfl := Option.some.inj h2
                    exact absurd h3 HL.out.1.done
                  · exact ⟨⟨j', by omega, h2⟩, h3⟩
                · rintro ⟨⟨j', h1, h2⟩, h3⟩
                  exact ⟨⟨j', by omega, h2⟩, h3⟩
              have HMX : Hid (MB wo wr H2 N rs al [] cl an M cn) := hMB
              clear hMB HL
              go_wp2
              rw [Exit.noGoto_normal]
              go_wp2
              go_roundw
              case rel => exact ⟨j + 1, c, al, [], cl, an, M, cn, rs, by omega, by omega, by go_num, rfl, rfl, rfl, HMX.out, HFI.out⟩
              case measure => simp [intOf]; omega
            · have hLl : 0 < L.length := List.length_pos_iff.2 hL0
              have hLl' : (0 : Int) < L.length := by omega
              have hcut := fun W => run_cut0 W an M.length cn (ownsRow_cut0 hMB.nxt).2
              have hMB3 : MB wo wr H2 N rs al L cl an [] cn := hMB.cutN
              have hLN : L.length ≤ maxLen := row_len_le hMB.lev
              have hLN' : L.length ≤ 9223372036854775807 := by unfold maxLen at hLN; omega
              clear hMB hLN
              go_wp2
              clear hcut
              go_loopw [14, 17, 113] (fun dp nx i wr => ∃ (p : Nat) (an : Option Addr) (M : List Nat) (cn : Nat) (rs' : List Nat), p ≤ L.length ∧ dp = .int .i64 c ∧ nx = .slice an M.length cn ∧ i = .int .i64 p ∧
                  MB wo wr H2 N rs' al L cl an M cn ∧ Hid (Mid g u t (j + 1) (fun r => ∃ n, n ∈ L.take p ∧ (n, r) ∈ g.E) M rs' (um rs (j + 1)))) (fun _ _ i _ => L.length - (intOf i).toNat)
              case atStart => exact ⟨0, an, [], cn, rs, by omega, rfl, rfl, rfl, hMB3, HL.out.1.mid.congr (fun r => by simp)⟩
              case round =>
                clear hMB3
                obtain ⟨p, an, M, cn, rs', hp, rfl, rfl, rfl, hMB, HM⟩ := hrel
                have HMB : Hid (MB wo wr H2 N rs' al L cl an M cn) := hMB
                have hbw : Below wo.heap.size wo wr := by rw [HH2.out]; exact hMB.bel
                by_cases hpl : p < L.length
                · obtain ⟨nn, hnn⟩ : ∃ x, L[p]? = some x := ⟨L[p], List.getElem?_eq_getElem hpl⟩
                  obtain ⟨ql, hal, hcl, _, _, _⟩ := own_cell hMB.lev (i := p) (v := i32 nn) (by simp [hnn])
                  subst hal
                  have hcl' : wr.cell? ⟨ql, p, none⟩ = some (.int .i32 nn) := hcl
                  have HNN : Hid (L[p]? = some nn) := hnn
                  have hnN : nn < N := by have := (HL.out.1.lev nn (List.mem_of_getElem? hnn)).2; omega
                  have hnN' : (nn : Int) < N := by omega
                  have hpl' : (p : Int) < L.length := by omega
                  obtain ⟨ab', cb', hb1, hb2⟩ := HGA.out.below
                  obtain ⟨qb, ax, cx, rfl, hb3, hb4⟩ := hb2 nn (by rw [hNN]; exact hnN)
                  rw [hNN] at hb1
                  have HB4 : Hid (∀ (j x : Nat), (bl g.E nn)[j]? = some x → ∃ qx, ax = some ⟨qx, 0, none⟩ ∧ wo.cell? ⟨qx, j, none⟩ = some (i32 x)) := hb4
                  have hb1' := cell_below hbw hb1
                  have hb3' := cell_below hbw hb3
                  have hBL : (bl g.E nn).length ≤ 512 := by have := bl_len_le g.E nn; omega
                  clear hcl hb2 hb4 hMB hb1 hb3 hbw hnn
                  go_wp2
                  clear hb1' hb3' hcl'
                  go_loopw [14, 17, 122] (fun dp nx i wr => ∃ (q : Nat) (an : Option Addr) (M : List Nat) (cn : Nat) (rs' : List Nat), q ≤ (bl g.E nn).length ∧ dp = .int .i64 c ∧ nx = .slice an M.length cn ∧ i = .int .i64 q ∧
                      MB wo wr H2 N rs' (some ⟨ql, 0, none⟩) L cl an M cn ∧ Hid (Mid g u t (j + 1) (fun r => (∃ n, n ∈ L.take p ∧ (n, r) ∈ g.E) ∨ ∃ q', q' < q ∧ (bl g.E nn)[q']? = some r) M rs' (um rs (j + 1)))) (fun _ _ i _ => (bl g.E nn).length - (intOf i).toNat)
                  case atStart => exact ⟨0, an, M, cn, rs', by omega, rfl, rfl, rfl, HMB.out, HM.out.congr (fun r => by simp)⟩
                  case round =>
                    clear HMB HM
                    obtain ⟨q, an, M, cn, rs', hq, rfl, rfl, rfl, hMB, HM⟩ := hrel
                    have HMB : Hid (MB wo wr H2 N rs' (some ⟨ql, 0, none⟩) L cl an M cn) := hMB
                    have hbw : Below wo.heap.size wo wr := by rw [HH2.out]; exact hMB.bel
                    by_cases hql : q < (bl g.E nn).length
                    · obtain ⟨r, hr⟩ : ∃ x, (bl g.E nn)[q]? = some x := ⟨(bl g.E nn)[q], List.getElem?_eq_getElem hql⟩
                      obtain ⟨qx, hax, hcx⟩ := HB4.out q r hr
                      have hcx' : wr.cell? ⟨qx, q, none⟩ = some (.int .i32 r) := cell_below hbw hcx
                      have hrE : (nn, r) ∈ g.E := mem_bl.1 (List.mem_of_getElem? hr)
                      have hrN : r < N := by have := (HI.out.e1 _ hrE).2; rw [hNN] at this; exact this
                      have hrN' : (r : Int) < N := by omega
                      have hql' : (q : Int) < (bl g.E nn).length := by omega
                      have hrl : rs'.length = N := by rw [HM.out.len, hNN]
                      obtain ⟨y, hy⟩ : ∃ y, rs'[r]? = some y := ⟨rs'[r], List.getElem?_eq_getElem (by omega)⟩
                      have hcy : wr.cell? ⟨H2, r, none⟩ = some (.int .i32 y) := by rw [hMB.rch.cellAt r (by omega)]; simp [hy, i32]
                      have hfy := hMB.rch.frozenAt r
                      have hnnL : nn ∈ L := List.mem_of_getElem? HNN.out
                      have HE : Hid (nn ∈ L ∧ (nn, r) ∈ g.E ∧ (bl g.E nn)[q]? = some r ∧ rs'[r]? = some y) := ⟨hnnL, hrE, hr, hy⟩
                      have hdn : ∀ x, ((∃ n, n ∈ L.take p ∧ (n, x) ∈ g.E) ∨ ∃ q', q' < q + 1 ∧ (bl g.E nn)[q']? = some x) ↔ (((∃ n, n ∈ L.take p ∧ (n, x) ∈ g.E) ∨ ∃ q', q' < q ∧ (bl g.E nn)[q']? = some x) ∨ x = r) := by
                        intro x
                        constructor
                        · rintro (a | ⟨q', h1, h2⟩)
                          · exact .inl (.inl a)
                          · by_cases e : q' = q
                            · subst e; rw [hr] at h2; exact .inr (Option.some.inj h2).symm
                            · exact .inl (.inr ⟨q', by omega, h2⟩)
                        · rintro ((a | ⟨q', h1, h2⟩) | a)
                          · exact .inl a
                          · exact .inr ⟨q', by omega, h2⟩
                          · subst a; exact .inr ⟨q, by omega, hr⟩
                      have HDN : Hid (∀ x, ((∃ n, n ∈ L.take p ∧ (n, x) ∈ g.E) ∨ ∃ q', q' < q + 1 ∧ (bl g.E nn)[q']? = some x) ↔ (((∃ n, n ∈ L.take p ∧ (n, x) ∈ g.E) ∨ ∃ q', q' < q ∧ (bl g.E nn)[q']? = some x) ∨ x = r)) := hdn
                      clear hcx hr hy hnnL hrE hdn
                      subst hax
                      by_cases hym : y = j + 1
                      · subst hym
                        have hyb : (((j + 1 : Nat) : Int) == (j : Int) + 1) = true := by simp
                        have HMN : Hid (Mid g u t (j + 1) (fun x => (∃ n, n ∈ L.take p ∧ (n, x) ∈ g.E) ∨ ∃ q', q' < q + 1 ∧ (bl g.E nn)[q']? = some x) M rs' (um rs (j + 1))) := HM.out.old HE.out.2.2.2 HDN.out
                        clear hMB hbw HM
                        go_wp2
                        go_roundw
                        case rel => exact ⟨q + 1, an, M, cn, rs', by omega, rfl, rfl, by go_num, HMB.out, HMN.out⟩
                        case measure => simp [intOf]; omega
                      · have hyb : ((y : Int) == (j : Int) + 1) = false := by rw [beq_eq_false_iff_ne]; omega
                        by_cases ht : 10 ≤ t
                        · have ht1 : (10 : Int) < (t : Int) + 1 := by omega
                          obtain ⟨ag, cg, hg1, hg2⟩ := HGA.out.granted
                          obtain ⟨bv, hbv⟩ : ∃ x, g.gr[r]? = some x := ⟨g.gr[r]'(by rw [HI.out.lgr, hNN]; exact hrN), List.getElem?_eq_getElem (by rw [HI.out.lgr, hNN]; exact hrN)⟩
                          obtain ⟨qg, rfl, hg3⟩ := hg2 r bv hbv
                          rw [hNN] at hg1
                          have hg1' := cell_below hbw hg1
                          have hg3' := cell_below hbw hg3
                          have HBV : Hid (g.gr[r]? = some bv) := hbv
                          clear hg1 hg2 hg3 hbv
                          cases bv with
                          | true =>
                            have HFI : Hid (rs'.length = N ∧ (∀ r, r ∈ rs' → r < j + 1 + 1) ∧ IsCnt (fun u => (∃ j', j' < j + 1 ∧ g.U[j']? = some u) ∧ deepP g u) (c + 1)) :=
                              ⟨hrl, fun r hr => by have := HM.out.le r hr; omega, cnt_deep HI.out.nodup HJU.out (Lev.deep HL.out.1 HM.out HE.out.1 HE.out.2.1 (by rw [hNN]; exact hrN) (by rw [HE.out.2.2.2]; exact fun e => hym (Option.some.inj e)) ht HBV.out) HCT.out⟩
                            clear hMB hbw HM
                            go_wp2
                            rw [Exit.noGoto_normal]
                            go_wp2
                            go_roundw
                            case rel => exact ⟨j + 1, c + 1, _, L, cl, an, M, cn, rs', by omega, by omega, by go_num, by go_num, rfl, rfl, HMB.out, HFI.out⟩
                            case measure => simp [intOf]; omega
                          | false =>
                            have HMB1 : Hid (MB wo (wr.setCell ⟨H2, r, none⟩ (i32 (j + 1))) H2 N (rs'.set r (j + 1)) (some ⟨ql, 0, none⟩) L cl an M cn) := hMB.mark r (j + 1)
                            have hnx1 : (wr.setCell ⟨H2, r, none⟩ (.int .i32 ((j : Int) + 1))).ownsRow (H2 + 1) 21 1 (.slice an M.length cn) M.length (M.map i32) := HMB1.out.nxt
                            have hsz1 : (wr.setCell ⟨H2, r, none⟩ (.int .i32 ((j : Int) + 1))).heap.size = wr.heap.size := by simp [World.setCell]
                            have hnw : ∀ (jj : Nat) (v : Value), ([.int .i32 r] : List Value)[jj]? = some v → ((wr.setCell ⟨H2, r, none⟩ (.int .i32 ((j : Int) + 1))).alloc (.cells #[.int .i32 r] 21)).cell? ((⟨wr.heap.size, 0, none⟩ : Addr).add jj) = some v := by
                              have := news_one (wr.setCell ⟨H2, r, none⟩ (.int .i32 ((j : Int) + 1))) (.int .i32 r) 21
                              rw [hsz1] at this
                              exact this
                            have hH2lt := hMB.hsz
                            have hML : M.length ≤ 1024 := by
                              have h1 := HM.out.cnt
                              have h2 := um_le rs (j + 1)
                              rw [HL.out.1.len, hNN] at h2
                              omega
                            have HMN : Hid (Mid g u t (j + 1) (fun x => (∃ n, n ∈ L.take p ∧ (n, x) ∈ g.E) ∨ ∃ q', q' < q + 1 ∧ (bl g.E nn)[q']? = some x) (M ++ [r]) (rs'.set r (j + 1)) (um rs (j + 1))) :=
                              HM.out.new (by rw [hNN]; exact hrN) (by rw [HE.out.2.2.2]; exact fun e => hym (Option.some.inj e)) (fun _ => by rw [HBV.out]; simp) HDN.out
                            clear hMB hbw HM
                            go_wp2_with (at_builtin; refine wpList_append_lies _ rfl _ _ 49 rfl (H2 + 1) 21 i21 (.int .i32 0) 1 4 Try.underlying49 hi21 z210 z211 z212 rfl (by omega) (.slice an M.length cn) M.length (M.map i32) rfl (hnx1.alloc _) ⟨wr.heap.size, 0, none⟩ 1 1 [.int .i32 r] rfl rfl hnw (by simp [Value.oneCell']) (by omega) (by unfold maxLen; omega) (by omega) (by simp; omega) (wr.heap.size + 1) (by simp) ?_)
                            intro q2 c2 wb hown2 hgrow2 hat2 hlt2
                            have HMB2 : Hid (MB wo wb H2 N (rs'.set r (j + 1)) (some ⟨ql, 0, none⟩) L cl (some ⟨q2, 0, none⟩) (M ++ [r]) c2) :=
                              (HMB1.out.alloc (.cells #[.int .i32 r] 21)).appN (x := r) hown2 hgrow2 (hat2.imp id (fun h => by rw [h]; simp [World.setCell]))
                            clear HMB1 hnx1 hsz1 hnw hown2 hgrow2 hat2 hlt2
                            go_wp2
                            go_roundw
                            case rel => exact ⟨q + 1, some ⟨q2, 0, none⟩, M ++ [r], c2, rs'.set r (j + 1), by omega, rfl, by simp, by go_num, HMB2.out, HMN.out⟩
                            case measure => simp [intOf]; omega
                        · have ht1 : ¬ (10 : Int) < (t : Int) + 1 := by omega
                          have HMB1 : Hid (MB wo (wr.setCell ⟨H2, r, none⟩ (i32 (j + 1))) H2 N (rs'.set r (j + 1)) (some ⟨ql, 0, none⟩) L cl an M cn) := hMB.mark r (j + 1)
                          have hnx1 : (wr.setCell ⟨H2, r, none⟩ (.int .i32 ((j : Int) + 1))).ownsRow (H2 + 1) 21 1 (.slice an M.length cn) M.length (M.map i32) := HMB1.out.nxt
                          have hsz1 : (wr.setCell ⟨H2, r, none⟩ (.int .i32 ((j : Int) + 1))).heap.size = wr.heap.size := by simp [World.setCell]
                          have hnw : ∀ (jj : Nat) (v : Value), ([.int .i32 r] : List Value)[jj]? = some v → ((wr.setCell ⟨H2, r, none⟩ (.int .i32 ((j : Int) + 1))).alloc (.cells #[.int .i32 r] 21)).cell? ((⟨wr.heap.size, 0, none⟩ : Addr).add jj) = some v := by
                            have := news_one (wr.setCell ⟨H2, r, none⟩ (.int .i32 ((j : Int) + 1))) (.int .i32 r) 21
                            rw [hsz1] at this
                            exact this
                          have hH2lt := hMB.hsz
                          have hML : M.length ≤ 1024 := by
                            have h1 := HM.out.cnt
                            have h2 := um_le rs (j + 1)
                            rw [HL.out.1.len, hNN] at h2
                            omega
                          have HMN : Hid (Mid g u t (j + 1) (fun x => (∃ n, n ∈ L.take p ∧ (n, x) ∈ g.E) ∨ ∃ q', q' < q + 1 ∧ (bl g.E nn)[q']? = some x) (M ++ [r]) (rs'.set r (j + 1)) (um rs (j + 1))) :=
                            HM.out.new (by rw [hNN]; exact hrN) (by rw [HE.out.2.2.2]; exact fun e => hym (Option.some.inj e)) (fun h => absurd h ht) HDN.out
                          clear hMB hbw HM
                          go_wp2_with (at_builtin; refine wpList_append_lies _ rfl _ _ 49 rfl (H2 + 1) 21 i21 (.int .i32 0) 1 4 Try.underlying49 hi21 z210 z211 z212 rfl (by omega) (.slice an M.length cn) M.length (M.map i32) rfl (hnx1.alloc _) ⟨wr.heap.size, 0, none⟩ 1 1 [.int .i32 r] rfl rfl hnw (by simp [Value.oneCell']) (by omega) (by unfold maxLen; omega) (by omega) (by simp; omega) (wr.heap.size + 1) (by simp) ?_)
                          intro q2 c2 wb hown2 hgrow2 hat2 hlt2
                          have HMB2 : Hid (MB wo wb H2 N (rs'.set r (j + 1)) (some ⟨ql, 0, none⟩) L cl (some ⟨q2, 0, none⟩) (M ++ [r]) c2) :=
                            (HMB1.out.alloc (.cells #[.int .i32 r] 21)).appN (x := r) hown2 hgrow2 (hat2.imp id (fun h => by rw [h]; simp [World.setCell]))
                          clear HMB1 hnx1 hsz1 hnw hown2 hgrow2 hat2 hlt2
                          go_wp2
                          go_roundw
                          case rel => exact ⟨q + 1, some ⟨q2, 0, none⟩, M ++ [r], c2, rs'.set r (j + 1), by omega, rfl, by simp, by go_num, HMB2.out, HMN.out⟩
                          case measure => simp [intOf]; omega
                    · have hqe : q = (bl g.E nn).length := by omega
                      subst hqe
                      have HMN : Hid (Mid g u t (j + 1) (fun r => ∃ n, n ∈ L.take (p + 1) ∧ (n, r) ∈ g.E) M rs' (um rs (j + 1))) := by
                        refine HM.out.congr (fun r => ?_)
                        have hpL : p < L.length := hpl
                        rw [List.take_add_one, HNN.out]
                        constructor
                        · rintro ⟨n, h1, h2⟩
                          rcases List.mem_append.1 h1 with h | h
                          · exact .inl ⟨n, h, h2⟩
                          · simp at h
                            subst h
                            obtain ⟨q', h3, h4⟩ := List.getElem_of_mem (mem_bl.2 h2)
                            exact .inr ⟨q', h3, by rw [List.getElem?_eq_getElem h3, h4]⟩
                        · rintro (⟨n, h1, h2⟩ | ⟨q', h1, h2⟩)
                          · exact ⟨n, List.mem_append.2 (.inl h1), h2⟩
                          · exact ⟨nn, List.mem_append.2 (.inr (by simp)), mem_bl.1 (List.mem_of_getElem? h2)⟩
                      clear hMB hbw HM
                      go_wp2
                      go_roundw
                      case rel => exact ⟨p + 1, an, M, cn, rs', by omega, rfl, rfl, by go_num, HMB.out, HMN.out⟩
                      case measure => simp [intOf]; omega
                · have hpe : p = L.length := by omega
                  subst hpe
                  have HMX : Hid (MB wo wr H2 N rs' an M cn al L cl) := HMB.out.swap
                  have HLX : Hid (Lev g u (t + 1) (j + 1) M rs' ∧ (M = [] → t + 1 + um rs' (j + 1) ≤ N) ∧ (M ≠ [] → t + 1 + um rs' (j + 1) + 1 ≤ N)) := by
                    have hc := HM.out.cnt
                    have h1 := HL.out.2.2 hL0
                    refine ⟨Mid.next HL.out.1 (HM.out.congr (fun r => by rw [List.take_length])) (fun e he => (HI.out.e1 e he).2), fun _ => by omega, fun h => ?_⟩
                    have := List.length_pos_iff.2 h
                    omega
                  have htt : t + 1 ≤ N := by have h1 := HL.out.2.2 hL0; omega
                  clear hMB hbw
                  go_wp2
                  go_roundw
                  case rel => exact ⟨t + 1, an, M, cn, al, L, cl, rs', rfl, rfl, rfl, by go_num, htt, HMX.out, HLX.out⟩
                  case measure => simp [intOf]; omega
        · have hje : j = g.U.length := by omega
          have HFIN : Hid (CountIs k kd fs role (.returned (.int .i64 c))) := by
            refine HCNT.out c (HX.out.2.2.same (fun u => ?_))
            rw [← HI.out.memU u, hje]
            constructor
            · rintro ⟨hm, hd⟩
              obtain ⟨i', hi', hg'⟩ := List.getElem_of_mem hm
              exact ⟨⟨i', hi', by rw [List.getElem?_eq_getElem hi', hg']⟩, hd⟩
            · rintro ⟨⟨j', hj', hg'⟩, hd⟩
              exact ⟨List.mem_of_getElem? hg', hd⟩
          have HB9 : Hid (Below w.heap.size w wr) := by
            show Below w.heap.size w wr
            rw [hmi]
            exact HB0.out.trans (hMB.bel.mono hHo.out)
          clear hMB hje HX
          go_wp2
          go_ret
          exact ⟨HFIN.out, HB9.out⟩
end Go.Proofs.Qxb6601564a

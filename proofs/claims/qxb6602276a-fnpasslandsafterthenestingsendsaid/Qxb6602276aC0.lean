import Derived.Test.Qxb6602276aA4
import Derived.Test.Qxb6602276aA8
import Derived.Test.Qxb6602276aB5
import Derived.Test.Qxb6602276aB6
import Derived.Deep.DeepCutAuto
namespace Go.Proofs.Qxb6602276a
open Go.RowKit
set_option linter.unusedVariables false

/-- A clone, in one form. -/
def CloneRet (w : World) (n : Nat) (f : Nat → Int) (e : Ending) (w' : World) : Prop :=
  Below w.heap.size w w' ∧ ∃ (a : Option Addr) (c b : Nat), e = .returned (.slice a n c) ∧ (0 < n → a = some ⟨b, 0, none⟩) ∧ ∀ i, i < n → w'.cell? ⟨b, i, none⟩ = some (.int .i64 (f i))
theorem clone_ret (a : Option Addr) (n cap : Nat) (f : Nat → Int) (b off : Nat) (w : World) (hn : n ≤ 1048576) (hnil : a = none → n = 0) (H : Row w a n f b off) :
    Calls Try.prog 6 #[.slice a n cap] w fun e w' => CloneRet w n f e w' := by
  refine (clone_any a n cap f b off w hn hnil H).mono ?_
  rintro e w' ⟨hB, ⟨rfl, rfl⟩ | ⟨b', rfl, hc⟩⟩
  · exact ⟨hB, none, 0, 0, rfl, fun h => by omega, fun i hi => by omega⟩
  · exact ⟨hB, _, _, b', rfl, fun _ => rfl, hc⟩

set_option maxRecDepth 100000 in
set_option maxHeartbeats 6400000 in
theorem top_any (s t : ByteArray) (a1 a2 a3 a4 : Option Addr) (n1 n2 n3 n4 c1 c2 c3 c4 : Nat) (f1 f2 f3 f4 : Nat → Int) (b1 b2 b3 b4 o1 o2 o3 o4 : Nat) (tok txt skip : Int) (w : World)
    (hs : s.size ≤ maxLen) (ht : t.size ≤ maxLen) (h1 : n1 ≤ maxLen) (h2 : n2 ≤ maxLen) (h3 : n3 ≤ maxLen) (h4 : n4 ≤ maxLen)
    (N1 : a1 = none → n1 = 0) (N2 : a2 = none → n2 = 0) (N3 : a3 = none → n3 = 0) (N4 : a4 = none → n4 = 0)
    (H1 : Row w a1 n1 f1 b1 o1) (H2 : Row w a2 n2 f2 b2 o2) (H3 : Row w a3 n3 f3 b3 o3) (H4 : Row w a4 n4 f4 b4 o4) :
    Calls Try.prog 3 #[.string s, .string t, .slice a1 n1 c1, .slice a2 n2 c2, .slice a3 n3 c3, .slice a4 n4 c4, .int .i64 tok, .int .i64 txt, .int .i64 skip] w fun e w' => e = .returned (.bool true) ∧ Below w.heap.size w w' := by
  have HBY : Hid (Calls Try.prog 5 #[.string s, .string t, .slice a1 n1 c1, .slice a2 n2 c2, .slice a3 n3 c3, .slice a4 n4 c4, .int .i64 tok, .int .i64 txt, .int .i64 skip] w fun e w' => RetB e ∧ w = w') := bytes_any s t a1 a2 a3 a4 n1 n2 n3 n4 c1 c2 c3 c4 tok txt skip w hs ht h1 h2 h3 h4
  have HN : Hid ((a1 = none → n1 = 0) ∧ (a2 = none → n2 = 0) ∧ (a3 = none → n3 = 0) ∧ (a4 = none → n4 = 0)) := ⟨N1, N2, N3, N4⟩
  have HR : Hid (Row w a1 n1 f1 b1 o1 ∧ Row w a2 n2 f2 b2 o2 ∧ Row w a3 n3 f3 b3 o3 ∧ Row w a4 n4 f4 b4 o4) := ⟨H1, H2, H3, H4⟩
  clear N1 N2 N3 N4 H1 H2 H3 H4
  unfold maxLen at hs ht h1 h2 h3 h4
  by_cases hsm : s.size ≤ 1048576 ∧ t.size ≤ 1048576 ∧ n1 ≤ 131072 ∧ n2 ≤ 131072 ∧ n3 ≤ 131072 ∧ n4 ≤ 131072
  · obtain ⟨ks, kt, q1, q2, q3, q4⟩ := hsm
    by_cases hsum : (s.size : Int) + t.size + 8 * ((n1 : Int) + n2 + n3 + n4) ≤ 1048576
    · have HLAY : Hid (∀ w : World, Calls Try.prog 10 #[.string s, .int .i64 (t.size : Int)] w fun e w' => LayRet w s (t.size : Int) e w') := fun w => layout_dev s (t.size : Int) w ks (by omega) (by omega)
      go_enter Try.func3, Try.ntmps3
      go_upto_region 7 with ((go_at_call 5; refine HBY.out.mono ?_; rintro e w' ⟨⟨d, rfl⟩, rfl⟩))
      · go_ret
        exact ⟨rfl, Below.refl _ _⟩
      clear hs ht h1 h2 h3 h4
      go_upto_region 8 with ((go_at_call 6; refine (clone_ret a1 n1 c1 f1 b1 o1 w (by omega) HN.out.1 HR.out.1).mono ?_; rintro e wA ⟨hB, p1, k1, d1, rfl, hp, hq⟩; have A1 : Hid (0 < n1 → p1 = some ⟨d1, 0, none⟩) := hp; have R10 : Hid (∀ i, i < n1 → wA.cell? ⟨d1, i, none⟩ = some (.int .i64 (f1 i))) := hq; have BB1 : Hid (Below w.heap.size w wA) := hB; clear hB hp hq))
      have B1 : Hid (Below w.heap.size w wA) := BB1.out
      go_upto_region 9 with ((go_at_call 6; refine (clone_ret a2 n2 c2 f2 b2 o2 wA (by omega) HN.out.2.1 (HR.out.2.1.below B1.out)).mono ?_; rintro e wB ⟨hB, p2, k2, d2, rfl, hp, hq⟩; have A2 : Hid (0 < n2 → p2 = some ⟨d2, 0, none⟩) := hp; have R20 : Hid (∀ i, i < n2 → wB.cell? ⟨d2, i, none⟩ = some (.int .i64 (f2 i))) := hq; have BB2 : Hid (Below wA.heap.size wA wB) := hB; clear hB hp hq))
      have B2 : Hid (Below w.heap.size w wB) := B1.out.trans (BB2.out.mono B1.out.size)
      go_upto_region 10 with ((go_at_call 6; refine (clone_ret a3 n3 c3 f3 b3 o3 wB (by omega) HN.out.2.2.1 (HR.out.2.2.1.below B2.out)).mono ?_; rintro e wC ⟨hB, p3, k3, d3, rfl, hp, hq⟩; have A3 : Hid (0 < n3 → p3 = some ⟨d3, 0, none⟩) := hp; have R30 : Hid (∀ i, i < n3 → wC.cell? ⟨d3, i, none⟩ = some (.int .i64 (f3 i))) := hq; have BB3 : Hid (Below wB.heap.size wB wC) := hB; clear hB hp hq))
      have B3 : Hid (Below w.heap.size w wC) := B2.out.trans (BB3.out.mono B2.out.size)
      go_upto_region 11 with ((go_at_call 6; refine (clone_ret a4 n4 c4 f4 b4 o4 wC (by omega) HN.out.2.2.2 (HR.out.2.2.2.below B3.out)).mono ?_; rintro e wD ⟨hB, p4, k4, d4, rfl, hp, hq⟩; have A4 : Hid (0 < n4 → p4 = some ⟨d4, 0, none⟩) := hp; have R40 : Hid (∀ i, i < n4 → wD.cell? ⟨d4, i, none⟩ = some (.int .i64 (f4 i))) := hq; have BB4 : Hid (Below wC.heap.size wC wD) := hB; clear hB hp hq))
      have B4 : Hid (Below w.heap.size w wD) := B3.out.trans (BB4.out.mono B3.out.size)
      have R3 : Hid (∀ i, i < n3 → wD.cell? ⟨d3, i, none⟩ = some (.int .i64 (f3 i))) := fun i hi => cell_below BB4.out (R30.out i hi)
      have R2 : Hid (∀ i, i < n2 → wD.cell? ⟨d2, i, none⟩ = some (.int .i64 (f2 i))) := fun i hi => cell_below BB4.out (cell_below BB3.out (R20.out i hi))
      have R1 : Hid (∀ i, i < n1 → wD.cell? ⟨d1, i, none⟩ = some (.int .i64 (f1 i))) := fun i hi => cell_below BB4.out (cell_below BB3.out (cell_below BB2.out (R10.out i hi)))
      have R4 := R40
      clear R10 R20 R30 R40 BB1 BB2 BB3 BB4 B1 B2 B3 HN HR HBY
      go_upto_region 12 with ((go_at_call 7; refine (domain_any s t p1 p2 p3 p4 n1 n2 n3 n4 k1 k2 k3 k4 f1 f2 f3 f4 d1 d2 d3 d4 tok txt skip wD HLAY ks kt q1 q2 q3 q4 A1 A2 A3 A4 R1 R2 R3 R4).mono ?_; rintro e wE ⟨hBE, d', g0, g1, g2, g3, g4, v, rfl, hd⟩; have HBE : Hid (Below wD.heap.size wD wE) := hBE; have HDD : Hid _ := hd; clear hBE hd; unfold fiveS))
      have hF := heap_alloc_new wE (.cells (fiveS (s.size + 1) g0 g1 g2 g3 g4) 27)
      have hBF : Below wE.heap.size wE (wE.alloc (.cells (fiveS (s.size + 1) g0 g1 g2 g3 g4) 27)) := (Below.refl _ _).alloc (Nat.le_refl _) _
      unfold fiveS at hF hBF
      generalize wE.alloc (.cells #[.slice (some ⟨g0, 0, none⟩) (s.size + 1) (s.size + 1), .slice (some ⟨g1, 0, none⟩) (s.size + 1) (s.size + 1), .slice (some ⟨g2, 0, none⟩) (s.size + 1) (s.size + 1), .slice (some ⟨g3, 0, none⟩) (s.size + 1) (s.size + 1), .slice (some ⟨g4, 0, none⟩) (s.size + 1) (s.size + 1)] 27) = wF at hF hBF ⊢
      have HBF : Hid (Below wE.heap.size wE wF) := hBF
      have HBW : Hid (Below w.heap.size w wF) := (B4.out.trans (HBE.out.mono B4.out.size)).trans (HBF.out.mono (Nat.le_trans B4.out.size HBE.out.size))
      have C3 : Hid (wF.cell? ⟨wE.heap.size, 3, none⟩ = some (.slice (some ⟨g3, 0, none⟩) (s.size + 1) (s.size + 1))) := by show _ = _; simp [World.cell?, hF]
      have C4 : Hid (wF.cell? ⟨wE.heap.size, 4, none⟩ = some (.slice (some ⟨g4, 0, none⟩) (s.size + 1) (s.size + 1))) := by show _ = _; simp [World.cell?, hF]
      clear hF hBF
      cases d' with
      | false =>
        go_wp2
        go_ret
        exact ⟨rfl, HBW.out⟩
      | true =>
        obtain ⟨rfl, rfl, rfl, gb, rfl, M, st, kd, tx, af, ta, bf, hDom, hcl⟩ := HDD.out rfl
        have HDom : Hid (Dom s (t.size : Int) M st kd tx af ta n4 f1 f2 f3 f4 bf tok txt skip) := hDom
        obtain ⟨k0, hk0, rfl, hkd0, rfl, rfl⟩ := hDom.at0
        obtain ⟨e0, he0, hCl, haf, hta⟩ := hDom.lay.cl k0 hk0 hkd0
        have hPk := hDom.P_size (k := k0) (by omega)
        have hPe := hDom.P_size he0
        have HCl : Hid (Closed s k0 e0) := hCl
        have HAPP : Hid (∀ (W : World) (H tb : Nat) (q : Nat), H ≤ W.heap.size → q < 131072 → LS W H tb s t q (FF f1 f2 f3 f4) → Calls Try.prog 11 #[.pointer (some ⟨tb, 2, none⟩), .agg #[.int .i64 (f1 q), .int .i64 (f2 q), .int .i64 (f3 q), .int .i64 (f4 q)]] W fun e w' => e = .returned (.tuple #[]) ∧ LS w' H tb s t (q + 1) (FF f1 f2 f3 f4) ∧ Below H W w') := fun W H tb q hH hq hLS => append_any W H tb s t q (FF f1 f2 f3 f4) hH hq hLS
        have HDF : Hid (Below wD.heap.size wD wF) := HBE.out.trans (HBF.out.mono HBE.out.size)
        have S1 : Hid (∀ i, i < n4 → wF.cell? ⟨d1, i, none⟩ = some (.int .i64 (f1 i))) := fun i hi => cell_below HDF.out (R1.out i hi)
        have S2 : Hid (∀ i, i < n4 → wF.cell? ⟨d2, i, none⟩ = some (.int .i64 (f2 i))) := fun i hi => cell_below HDF.out (R2.out i hi)
        have S3 : Hid (∀ i, i < n4 → wF.cell? ⟨d3, i, none⟩ = some (.int .i64 (f3 i))) := fun i hi => cell_below HDF.out (R3.out i hi)
        have S4 : Hid (∀ i, i < n4 → wF.cell? ⟨d4, i, none⟩ = some (.int .i64 (f4 i))) := fun i hi => cell_below HDF.out (R4.out i hi)
        obtain ⟨x3, x4, _⟩ := hcl (P s k0) hPk
        obtain ⟨_, _, xb⟩ := hcl (P s e0) hPe
        rw [haf] at x3
        rw [hta] at x4
        have X3 : Hid (wF.cell? ⟨g3, P s k0, none⟩ = some (.int .i64 (P s e0 : Int))) := cell_below HBF.out x3
        have X4 : Hid (wF.cell? ⟨g4, P s k0, none⟩ = some (.int .i64 (TX s e0))) := cell_below HBF.out x4
        have XB : Hid (wF.cell? ⟨gb, P s e0, none⟩ = some (.int .i64 (bf (P s e0) : Int))) := cell_below HBF.out xb
        have hPkI : (P s k0 : Int) < s.size + 1 := by omega
        have hPeI : (P s e0 : Int) < s.size + 1 := by omega
        clear hDom hcl haf hta x3 x4 xb hCl HDD R1 R2 R3 R4 HBE B4 HDF hkd0 hsum
        go_wp2_with (first | (go_at_call 8; refine (zzpass_any s t (t.size : Int) M st kd tx af ta n4 k1 k2 k3 k4 f1 f2 f3 f4 bf (P s k0 : Int) (TX s k0) (bf (P s k0) : Int) wF p1 p2 p3 p4 d1 d2 d3 d4 k0 e0 HAPP ks (by omega) q4 HDom.out HCl.out he0 A1 A2 A3 A4 S1 S2 S3 S4).mono ?_; rintro e wG ⟨rfl, hBG⟩; have c3 := cell_below hBG C3.out; have c4 := cell_below hBG C4.out; have y3 := cell_below hBG X3.out; have y4 := cell_below hBG X4.out; have yb := cell_below hBG XB.out))
        go_ret
        exact ⟨rfl, HBW.out.trans (hBG.mono HBW.out.size)⟩
    · go_enter Try.func3, Try.ntmps3
      go_wp2_with (first | (go_at_call 5; refine HBY.out.mono ?_; rintro e w' ⟨⟨d, rfl⟩, rfl⟩))
      all_goals
        go_ret
        exact ⟨rfl, Below.refl _ _⟩
  · have hsm' : (1048576 : Int) < s.size ∨ (1048576 : Int) < t.size ∨ (131072 : Int) < n1 ∨ (131072 : Int) < n2 ∨ (131072 : Int) < n3 ∨ (131072 : Int) < n4 := by omega
    clear hsm
    go_enter Try.func3, Try.ntmps3
    go_wp2_with (first | (go_at_call 5; refine HBY.out.mono ?_; rintro e w' ⟨⟨d, rfl⟩, rfl⟩))
    all_goals
      go_ret
      exact ⟨rfl, Below.refl _ _⟩
end Go.Proofs.Qxb6602276a

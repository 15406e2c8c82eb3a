import Derived.Test.Qxb6602276aB4
import Derived.Test.Qxb6602276aB2
namespace Go.Proofs.Qxb6602276a
open Go.RowKit
set_option linter.unusedVariables false

theorem LS.congr {w w' : World} {H tb : Nat} {s t : ByteArray} {q : Nat} {F : Nat → Nat → Int} (h : LS w H tb s t q F) (hk : ∀ k, k < w.heap.size → w'.heap[k]? = w.heap[k]?) : LS w' H tb s t q F := by
  obtain ⟨a, cp, rows, ln, X, h1, h2⟩ := h
  exact ⟨a, cp, rows, ln, X, h1.congr hk, h2⟩
theorem LS.start (w : World) (s t : ByteArray) (F : Nat → Nat → Int) : LS (w.alloc (.cells #[.string s, .string t, .slice none 0 0] 39)) w.heap.size w.heap.size s t 0 F :=
  ⟨none, 0, [], fun _ => 0, fun _ => [], ⟨heap_alloc_new w _, Nat.le_refl _, World.ownsRow_nil _ _ _ _, fun c v hv => by simp at hv, fun c c' v v' b _ hv => by simp at hv⟩, by simp, fun c hc => by simp at hc⟩

set_option maxRecDepth 100000 in
set_option maxHeartbeats 6400000 in
theorem zzpass_any (s t : ByteArray) (T : Int) (M : Nat) (st : Nat → Bool) (kd tx af ta : Nat → Int) (n k1 k2 k3 k4 : Nat) (f1 f2 f3 f4 : Nat → Int) (bf : Nat → Nat) (tok txt skip : Int) (w : World) (a1 a2 a3 a4 : Option Addr) (b1 b2 b3 b4 : Nat) (k0 e0 : Nat)
    (HAPP : Hid (∀ (W : World) (H tb : Nat) (q : Nat), H ≤ W.heap.size → q < 131072 → LS W H tb s t q (FF f1 f2 f3 f4) → Calls Try.prog 11 #[.pointer (some ⟨tb, 2, none⟩), .agg #[.int .i64 (f1 q), .int .i64 (f2 q), .int .i64 (f3 q), .int .i64 (f4 q)]] W fun e w' => e = .returned (.tuple #[]) ∧ LS w' H tb s t (q + 1) (FF f1 f2 f3 f4) ∧ Below H W w'))
    (hs : s.size ≤ 1048576) (hT : T ≤ 1048576) (hn : n ≤ 131072) (hD : Dom s T M st kd tx af ta n f1 f2 f3 f4 bf tok txt skip) (hc : Closed s k0 e0) (he : e0 ≤ M)
    (A1 : Hid (0 < n → a1 = some ⟨b1, 0, none⟩)) (A2 : Hid (0 < n → a2 = some ⟨b2, 0, none⟩)) (A3 : Hid (0 < n → a3 = some ⟨b3, 0, none⟩)) (A4 : Hid (0 < n → a4 = some ⟨b4, 0, none⟩))
    (R1 : Hid (∀ i, i < n → w.cell? ⟨b1, i, none⟩ = some (.int .i64 (f1 i)))) (R2 : Hid (∀ i, i < n → w.cell? ⟨b2, i, none⟩ = some (.int .i64 (f2 i)))) (R3 : Hid (∀ i, i < n → w.cell? ⟨b3, i, none⟩ = some (.int .i64 (f3 i)))) (R4 : Hid (∀ i, i < n → w.cell? ⟨b4, i, none⟩ = some (.int .i64 (f4 i)))) :
    Calls Try.prog 8 #[.string s, .string t, .slice a1 n k1, .slice a2 n k2, .slice a3 n k3, .slice a4 n k4, .int .i64 (P s k0 : Int), .int .i64 (TX s k0), .int .i64 (bf (P s k0) : Int)] w fun e w' => e = .returned (.tuple #[.int .i64 (P s e0 : Int), .int .i64 (TX s e0), .int .i64 (bf (P s e0) : Int)]) ∧ Below w.heap.size w w' := by
  have HD : Hid (Dom s T M st kd tx af ta n f1 f2 f3 f4 bf tok txt skip) := hD
  have HC : Hid (Closed s k0 e0) := hc
  have HL0 : Hid (LS (w.alloc (.cells #[.string s, .string t, .slice none 0 0] 39)) w.heap.size w.heap.size s t 0 (FF f1 f2 f3 f4)) := LS.start w s t _
  have HB0 : Hid (Below w.heap.size w (w.alloc (.cells #[.string s, .string t, .slice none 0 0] 39))) := (Below.refl _ _).alloc (Nat.le_refl _) _
  clear hD hc
  go_enter Try.func8, Try.ntmps8
  go_wp2
  go_loopw [29] (fun vi wr => ∃ k : Nat, k ≤ n ∧ vi = .int .i64 (k : Int) ∧ Hid (LS wr w.heap.size w.heap.size s t k (FF f1 f2 f3 f4)) ∧ Hid (Below w.heap.size w wr)) (fun vi _ => n - (intOf vi).toNat)
  case atStart => exact ⟨0, by omega, rfl, HL0, HB0⟩
  case round =>
    clear HL0 HB0
    obtain ⟨k, hk, rfl, HL, HB⟩ := hrel
    by_cases hlt : k < n
    · obtain rfl := A1.out (by omega)
      obtain rfl := A2.out (by omega)
      obtain rfl := A3.out (by omega)
      obtain rfl := A4.out (by omega)
      have hltI : (k : Int) < n := by omega
      have x1 := cell_below HB.out (R1.out k hlt)
      have x2 := cell_below HB.out (R2.out k hlt)
      have x3 := cell_below HB.out (R3.out k hlt)
      have x4 := cell_below HB.out (R4.out k hlt)
      have HSZ : Hid (w.heap.size ≤ wr.heap.size) := HB.out.size
      have HS : Hid (∀ w' : World, Below w.heap.size wr w' → (w'.cell? ⟨b1, k, none⟩ = some (.int .i64 (f1 k)) ∧ w'.cell? ⟨b2, k, none⟩ = some (.int .i64 (f2 k)) ∧ w'.cell? ⟨b3, k, none⟩ = some (.int .i64 (f3 k)) ∧ w'.cell? ⟨b4, k, none⟩ = some (.int .i64 (f4 k)))) := fun w' hw' =>
        ⟨cell_below (HB.out.trans hw') (R1.out k hlt), cell_below (HB.out.trans hw') (R2.out k hlt), cell_below (HB.out.trans hw') (R3.out k hlt), cell_below (HB.out.trans hw') (R4.out k hlt)⟩
      have HLD : Hid (∀ w' : World, w'.heap = wr.heap → LS w' w.heap.size w.heap.size s t k (FF f1 f2 f3 f4)) := fun w' e => HL.out.congr (fun j _ => by rw [e])
      go_wp2
      go_region_held3 (fun w' => w'.cell? ⟨b1, k, none⟩ = some (.int .i64 (f1 k)) ∧ w'.cell? ⟨b2, k, none⟩ = some (.int .i64 (f2 k)) ∧ w'.cell? ⟨b3, k, none⟩ = some (.int .i64 (f3 k)) ∧ w'.cell? ⟨b4, k, none⟩ = some (.int .i64 (f4 k))) (go_keep)
        (first | (go_at_call 11; refine (HAPP.out wr.drew w.heap.size w.heap.size k (by exact HSZ.out) (by omega) (HLD.out wr.drew rfl)).mono ?_; rintro e w' ⟨rfl, hLS, hBW⟩; obtain ⟨s0, s1, s2, s3⟩ := HS.out w' ⟨hBW.os, hBW.tape, hBW.output, hBW.size, hBW.block⟩))
      have HLN : Hid (LS w' w.heap.size w.heap.size s t (k + 1) (FF f1 f2 f3 f4)) := hLS
      have HBN : Hid (Below w.heap.size w w') := HB.out.trans ⟨hBW.os, hBW.tape, hBW.output, hBW.size, hBW.block⟩
      clear s0 s1 s2 s3 x1 x2 x3 x4 hLS hBW
      go_wp2
      go_roundw
      case rel => exact ⟨k + 1, by omega, by go_num, HLN, HBN⟩
      case measure => simp [intOf]; omega
    · have hkn : k = n := by omega
      subst hkn
      obtain ⟨ar, nc, cp, cb, G, C, hRS⟩ := HL.out.rs
      have HRS : Hid (RS wr w.heap.size s k (FF f1 f2 f3 f4) ar nc cp cb G C) := hRS
      clear hRS
      go_wp2_with (first | (go_at_call 12; refine (pass_any s T M st kd tx af ta k f1 f2 f3 f4 bf tok txt skip _ w.heap.size ar nc cp cb G C k0 e0 hs hT hn HD.out HRS.out HC.out he).mono ?_; rintro e w2 ⟨rfl, hB2⟩))
      go_ret3
      exact ⟨rfl, HB.out.trans (hB2.mono HB.out.size)⟩
end Go.Proofs.Qxb6602276a

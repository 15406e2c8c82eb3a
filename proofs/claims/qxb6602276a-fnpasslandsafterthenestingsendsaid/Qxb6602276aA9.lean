import Derived.Test.Qxb6602276aA7
namespace Go.Proofs.Qxb6602276a
open Go.RowKit
set_option linter.unusedVariables false

/-! ### The list of skips, as it is read -/
/-- q skips; F i f: the f-th field of the i-th. -/
structure RS (w : World) (tb : Nat) (s : ByteArray) (q : Nat) (F : Nat → Nat → Int) (a : Option Addr) (nc cp cb : Nat) (G C : Nat → Nat) : Prop where
  tok : w.cell? ⟨tb, 0, none⟩ = some (.string s)
  sl : w.cell? ⟨tb, 2, none⟩ = some (.slice a nc cp)
  nce : nc = (q + 1023) / 1024
  addr : 0 < nc → a = some ⟨cb, 0, none⟩
  row : ∀ c, c < nc → w.cell? ⟨cb, c, none⟩ = some (.slice (some ⟨G c, 0, none⟩) (min 1024 (q - 1024 * c)) (C c))
  el : ∀ i f, i < q → f < 4 → w.cell? ⟨G (i / 1024), i % 1024 * 4 + f, none⟩ = some (.int .i64 (F i f))
theorem RS.below {w w' : World} {tb : Nat} {s : ByteArray} {q : Nat} {F : Nat → Nat → Int} {a : Option Addr} {nc cp cb : Nat} {G C : Nat → Nat} (h : RS w tb s q F a nc cp cb G C) (hb : Below w.heap.size w w') : RS w' tb s q F a nc cp cb G C :=
  ⟨cell_below hb h.tok, cell_below hb h.sl, h.nce, h.addr, fun c hc => cell_below hb (h.row c hc), fun i f hi hf => cell_below hb (h.el i f hi hf)⟩

set_option maxRecDepth 100000 in
set_option maxHeartbeats 1600000 in
theorem len_any (w : World) (tb : Nat) (s : ByteArray) (q : Nat) (F : Nat → Nat → Int) (a : Option Addr) (nc cp cb : Nat) (G C : Nat → Nat) (hq : q ≤ 131072) (h : RS w tb s q F a nc cp cb G C) :
    Calls Try.prog 16 #[.pointer (some ⟨tb, 2, none⟩)] w fun e w' => e = .returned (.int .i64 (q : Int)) ∧ Below w.heap.size w w' := by
  have hsl := h.sl
  have hnc := h.nce
  by_cases h0 : q = 0
  · subst h0
    obtain rfl : nc = 0 := by omega
    clear h hnc hq
    go_enter Try.func16, Try.ntmps16
    go_wp2
    go_ret
    exact ⟨rfl, Below.refl _ _⟩
  · obtain rfl := h.addr (by omega)
    obtain ⟨m, rfl⟩ : ∃ m, nc = m + 1 := ⟨nc - 1, by omega⟩
    have hrow := h.row m (by omega)
    have hmin : min 1024 (q - 1024 * m) = q - 1024 * m := by omega
    rw [hmin] at hrow
    obtain ⟨r, hr⟩ : ∃ r, r = q - 1024 * m := ⟨_, rfl⟩
    rw [← hr] at hrow
    have HQ : Hid (q = m * 1024 + r) := by show _ = _; omega
    have hm : m ≤ 128 := by omega
    have hr2 : r ≤ 1024 := by omega
    clear h hmin hr hnc h0
    go_enter Try.func16, Try.ntmps16
    go_wp2
    go_quiet (fail)
    go_wp2
    go_ret
    refine ⟨?_, below_drewN _ _ _⟩
    rw [HQ.out]
    exact ret_int (by omega)

/-- At's answer: where skip i lies. -/
def AtRet (w : World) (F : Nat → Nat → Int) (i : Nat) (e : Ending) : Prop := ∃ g o : Nat, e = .returned (.pointer (some ⟨g, o, none⟩)) ∧ ∀ f, f < 4 → w.cell? ⟨g, o + f, none⟩ = some (.int .i64 (F i f))
set_option maxRecDepth 100000 in
set_option maxHeartbeats 1600000 in
theorem at_any (w : World) (tb : Nat) (s : ByteArray) (q : Nat) (F : Nat → Nat → Int) (a : Option Addr) (nc cp cb : Nat) (G C : Nat → Nat) (i : Nat) (hq : q ≤ 131072) (hi : i < q) (h : RS w tb s q F a nc cp cb G C) :
    Calls Try.prog 14 #[.pointer (some ⟨tb, 2, none⟩), .int .i64 (i : Int)] w fun e w' => AtRet w F i e ∧ w = w' := by
  have hsl := h.sl
  have hnc := h.nce
  obtain rfl := h.addr (by omega)
  have hrow := h.row (i / 1024) (by omega)
  obtain ⟨L, hL⟩ : ∃ L, L = min 1024 (q - 1024 * (i / 1024)) := ⟨_, rfl⟩
  rw [← hL] at hrow
  have HEL : Hid (∀ f, f < 4 → w.cell? ⟨G (i / 1024), i % 1024 * 4 + f, none⟩ = some (.int .i64 (F i f))) := fun f hf => h.el i f hi hf
  have hd : (i / 1024 : Nat) < nc := by omega
  have hd' : ((i : Int) / 1024) < nc := by omega
  have hm : i % 1024 < L := by omega
  have hm' : ((i : Int) % 1024) < L := by omega
  have ht1 : Int.tdiv (i : Int) 1024 = (i : Int) / 1024 := Int.tdiv_eq_ediv_of_nonneg (by omega)
  have ht2 : Int.tmod (i : Int) 1024 = (i : Int) % 1024 := Int.tmod_eq_emod_of_nonneg (by omega)
  have ht3 : ((i : Int) / 1024).toNat = i / 1024 := by omega
  have ht4 : ((i : Int) % 1024).toNat = i % 1024 := by omega
  clear h hL hnc
  go_enter Try.func14, Try.ntmps14
  go_wp2
  go_ret
  refine ⟨⟨_, _, rfl, ?_⟩, rfl⟩
  exact HEL.out

/-! ### skipAt (13) -/
set_option maxRecDepth 100000 in
set_option maxHeartbeats 1600000 in
theorem skipAt_out (w : World) (tb : Nat) (s : ByteArray) (q : Nat) (F : Nat → Nat → Int) (a : Option Addr) (nc cp cb : Nat) (G C : Nat → Nat) (k : Int) (i : Nat) (hq : q ≤ 131072) (hi : ¬ i < q) (h : RS w tb s q F a nc cp cb G C) :
    Calls Try.prog 13 #[.pointer (some ⟨tb, 0, none⟩), .int .i64 k, .int .i64 (i : Int)] w fun e w' => e = .returned (.bool false) ∧ Below w.heap.size w w' := by
  have H : Hid (RS w tb s q F a nc cp cb G C) := h
  have hiI : ¬ (i : Int) < q := by omega
  clear h
  go_enter Try.func13, Try.ntmps13
  go_wp2_with (first | (go_at_call 16; refine (len_any _ tb s q F a nc cp cb G C hq H.out).mono ?_; rintro e w2 ⟨rfl, hB2⟩))
  go_ret
  exact ⟨rfl, hB2⟩
set_option maxRecDepth 100000 in
set_option maxHeartbeats 1600000 in
theorem skipAt_in (w : World) (tb : Nat) (s : ByteArray) (q : Nat) (F : Nat → Nat → Int) (a : Option Addr) (nc cp cb : Nat) (G C : Nat → Nat) (k : Int) (i : Nat) (hq : q ≤ 131072) (hi : i < q) (h : RS w tb s q F a nc cp cb G C) :
    Calls Try.prog 13 #[.pointer (some ⟨tb, 0, none⟩), .int .i64 k, .int .i64 (i : Int)] w fun e w' => e = .returned (.bool (F i 0 == k)) ∧ Below w.heap.size w w' := by
  have H : Hid (RS w tb s q F a nc cp cb G C) := h
  have hiI : (i : Int) < q := by omega
  clear h
  go_enter Try.func13, Try.ntmps13
  go_wp2_with (first | (go_at_call 16; refine (len_any _ tb s q F a nc cp cb G C hq H.out).mono ?_; rintro e w2 ⟨rfl, hB2⟩) | (go_at_call 14; refine (at_any _ tb s q F a nc cp cb G C i hq hi (H.out.below hB2)).mono ?_; rintro e w3 ⟨⟨g, o, rfl, hel⟩, rfl⟩; have hel0 := hel 0 (by omega); rw [Nat.add_zero] at hel0; clear hel))
  go_ret
  exact ⟨rfl, hB2⟩
end Go.Proofs.Qxb6602276a

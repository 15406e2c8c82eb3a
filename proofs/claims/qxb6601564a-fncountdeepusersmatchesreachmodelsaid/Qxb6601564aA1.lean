import Derived.Test.Qxb6601564aProg
import Derived.Test.Qxb6601564aP1
import Derived.WalkKit
import Derived.Deep.QuietTactic
import Derived.BigQuiet
import Derived.Deep.RegionHeld3
import Derived.KernelRfl
namespace Go.Proofs.Qxb6601564a
open Go.RowKit
set_option linter.unusedVariables false

theorem ret_int {k : IntKind} {a b : Int} (h : a = b) : Ending.returned (.int k a) = .returned (.int k b) := by rw [h]
theorem toList_beq_true {s t : ByteArray} (h : s = t) : (s.toList == t.toList) = true := by rw [h]; exact beq_self_eq_true _
theorem toList_beq_false {s t : ByteArray} (h : ¬ s = t) : (s.toList == t.toList) = false := by
  rw [beq_eq_false_iff_ne]; exact fun e => h (toList_inj e)
theorem below_drewN (B : Nat) (w : World) (m : Nat) : Below B w (w.drewN m) := ⟨rfl, rfl, rfl, Nat.le_refl _, fun _ _ => rfl⟩
theorem cell_below {w w' : World} (hb : Below w.heap.size w w') {a : Addr} {v : Value} (h : w.cell? a = some v) : w'.cell? a = some v := by
  rw [hb.cell (p := a) (World.block_lt_of_cell? w _ h)]; exact h
theorem frozen_alloc_lt (w : World) (o : Obj) (a : Addr) (h : w.frozen? a = false) (hne : w.heap.size ≠ a.block) : (w.alloc o).frozen? a = false := by
  have : (w.alloc o).heap[a.block]? = w.heap[a.block]? := by
    show (w.heap.push o)[a.block]? = _
    rw [Array.getElem?_push, if_neg (by omega)]
  rw [World.frozen?_of_block this]; exact h

/-- A slice value (address a) of n elements of one cell each: its cells, from ⟨b, off⟩ on, hold f 0, f 1, .. -/
structure Row (w : World) (a : Option Addr) (n : Nat) (f : Nat → Value) (b off : Nat) : Prop where
  addr : 0 < n → a = some ⟨b, off, none⟩
  cell : ∀ i, i < n → w.cell? ⟨b, off + i, none⟩ = some (f i)
theorem Row.below {w w' : World} {a : Option Addr} {n : Nat} {f : Nat → Value} {b off : Nat} (h : Row w a n f b off) (hb : Below w.heap.size w w') : Row w' a n f b off :=
  ⟨h.addr, fun i hi => cell_below hb (h.cell i hi)⟩

/-- One record's three cells, from ⟨b, o⟩ on, and its fields. -/
def RecAt (w : World) (b o : Nat) (kd : ByteArray) (fl : Nat) (fs : Nat → ByteArray) : Prop :=
  ∃ (line : Int) (fa : Option Addr) (fc fb fo : Nat), w.cell? ⟨b, o, none⟩ = some (.int .i64 line) ∧ w.cell? ⟨b, o + 1, none⟩ = some (.string kd) ∧ w.cell? ⟨b, o + 2, none⟩ = some (.slice fa fl fc) ∧
    Row w fa fl (fun j => .string (fs j)) fb fo ∧ (fa = none → fl = 0)
theorem RecAt.below {w w' : World} {b o : Nat} {kd : ByteArray} {fl : Nat} {fs : Nat → ByteArray} (h : RecAt w b o kd fl fs) (hb : Below w.heap.size w w') : RecAt w' b o kd fl fs := by
  obtain ⟨line, fa, fc, fb, fo, h0, h1, h2, h3, h4⟩ := h
  exact ⟨line, fa, fc, fb, fo, cell_below hb h0, cell_below hb h1, cell_below hb h2, h3.below hb, h4⟩
/-- n records. -/
structure RecsAt (w : World) (a : Option Addr) (n : Nat) (kd : Nat → ByteArray) (fl : Nat → Nat) (fs : Nat → Nat → ByteArray) (b off : Nat) : Prop where
  addr : 0 < n → a = some ⟨b, off, none⟩
  recs : ∀ i, i < n → RecAt w b (off + i * 3) (kd i) (fl i) (fs i)
theorem RecsAt.below {w w' : World} {a : Option Addr} {n : Nat} {kd : Nat → ByteArray} {fl : Nat → Nat} {fs : Nat → Nat → ByteArray} {b off : Nat} (h : RecsAt w a n kd fl fs b off) (hb : Below w.heap.size w w') : RecsAt w' a n kd fl fs b off :=
  ⟨h.addr, fun i hi => (h.recs i hi).below hb⟩
/-- What the reader says of the texts. -/
structure RecsOk (n : Nat) (kd : Nat → ByteArray) (fl : Nat → Nat) (fs : Nat → Nat → ByteArray) : Prop where
  hk : ∀ i, i < n → (kd i).size ≤ maxLen
  hf : ∀ i, i < n → fl i ≤ maxLen
  hs : ∀ i, i < n → ∀ j, j < fl i → (fs i j).size ≤ maxLen

theorem run_eqnil {P : Program} (w : World) (t e : TypeId) (a : Option Addr) (l c : Nat) (h : P.underlying t = some (.slice e)) : (binOp .eql t (.slice a l c) (.slice none 0 0)).run P w = .ok (.bool a.isNone) w := by
  have h' : ∀ d : Nat, (Op.equalIn (d + 1) t (.slice a l c) (.slice none 0 0)).run P w = .ok a.isNone w := fun d => by
    cases a <;> simp [Op.equalIn, run_underlying h]
  simp only [binOp]
  simp [Op.equal, Op.maxDepth, h' 9999]

theorem Try.info3 : (Try.prog.info? 3).map (fun i => (i.zero, i.size, i.bytes)) = some (some (.int .i64 0), 1, 8) := by kernel_rfl
theorem Try.info4 : (Try.prog.info? 4).map (fun i => (i.zero, i.size, i.bytes)) = some (some (.bool false), 1, 1) := by kernel_rfl
theorem Try.info9 : (Try.prog.info? 9).map (fun i => (i.zero, i.size, i.bytes)) = some (some (.string ByteArray.empty), 1, 16) := by kernel_rfl
theorem Try.info21 : (Try.prog.info? 21).map (fun i => (i.zero, i.size, i.bytes)) = some (some (.int .i32 0), 1, 4) := by kernel_rfl
theorem Try.info29 : (Try.prog.info? 29).map (fun i => (i.zero, i.size, i.bytes)) = some (some (.slice none 0 0), 1, 24) := by kernel_rfl
theorem Try.info49 : (Try.prog.info? 49).map (fun i => (i.zero, i.size, i.bytes)) = some (some (.slice none 0 0), 1, 24) := by kernel_rfl
theorem Try.info31 : (Try.prog.info? 31).map (fun i => (i.zero, i.size, i.bytes)) = some (some (.agg #[.int .i64 0, .string ByteArray.empty, .slice none 0 0]), 3, 48) := by kernel_rfl
theorem Try.info43 : (Try.prog.info? 43).map (fun i => (i.zero, i.size, i.bytes)) = some (some (.agg #[.int .i64 0, .string ByteArray.empty, .slice none 0 0]), 3, 48) := by kernel_rfl

/-! ### nameIndex -/
def nmIx (names : List ByteArray) (s : ByteArray) : Int := if ix names s < names.length then (ix names s : Int) else -1
set_option maxHeartbeats 400000 in
theorem nameIndex_any (a : Option Addr) (n cap : Nat) (names : List ByteArray) (s : ByteArray) (b off : Nat) (w : World) (hl : names.length = n) (hn : n ≤ 4096) (H : Row w a n (fun i => .string (names.getD i ByteArray.empty)) b off) :
    Calls Try.prog 14 #[.slice a n cap, .string s] w fun e w' => e = .returned (.int .i64 (nmIx names s)) ∧ w = w' := by
  obtain ⟨ha, hc⟩ := H
  by_cases h0 : n = 0
  · have hq : Hid (nmIx names s = -1) := by
      show (if ix names s < names.length then (ix names s : Int) else -1) = -1
      rw [if_neg (by omega)]
    subst h0
    go_enter Try.func14, Try.ntmps14
    go_wp2
    refine wp_loop_rounds 1 ?_
    rw [rounds_succ]
    go_wp2
    go_ret
    exact ⟨ret_int hq.out.symm, rfl⟩
  · obtain rfl := ha (by omega)
    have HL : Hid (names.length = n) := hl
    clear ha hl
    go_enter Try.func14, Try.ntmps14
    go_wp2
    go_loop [5] (fun i => ∃ k : Nat, k ≤ n ∧ k ≤ ix names s ∧ i = .int .i64 k) (fun i => n - (intOf i).toNat)
    case atStart => exact ⟨0, by omega, by omega, rfl⟩
    case round =>
      obtain ⟨k, hk, hki, rfl⟩ := hrel
      by_cases hlt : k < n
      · have hck := hc k hlt
        have hg : names[k]? = some (names.getD k ByteArray.empty) := by rw [List.getD_eq_getElem?_getD, List.getElem?_eq_getElem (by rw [HL.out]; exact hlt)]; rfl
        have HG : Hid (names[k]? = some (names.getD k ByteArray.empty)) := hg
        clear hc hg
        generalize hx : names.getD k ByteArray.empty = x at hck
        have HX : Hid (names.getD k ByteArray.empty = x) := hx
        clear hx
        by_cases he : x = s
        · have he' := toList_beq_true he
          have HE : Hid (x = s) := he
          clear he
          go_wp2
          go_ret
          have hg2 : names[k]? = some s := by rw [HG.out, HX.out, HE.out]
          have h3 := ix_lt_of_get hg2
          refine ⟨ret_int ?_, rfl⟩
          have e3 : ix names s = k := by omega
          unfold nmIx
          rw [if_pos h3.2, e3]
        · have he' := toList_beq_false he
          have HE : Hid (¬ x = s) := he
          clear he
          go_wp2
          go_round
          case rel =>
            refine ⟨k + 1, by omega, ?_, by go_num⟩
            by_cases e : ix names s = k
            · exfalso
              have h4 := ix_get (names := names) (s := s) (by rw [HL.out]; omega)
              rw [e, HG.out, HX.out] at h4
              exact HE.out (Option.some.inj h4)
            · omega
          case measure => simp [intOf]; omega
      · clear hc
        go_wp2
        go_ret
        refine ⟨ret_int ?_, rfl⟩
        unfold nmIx
        rw [if_neg (by rw [HL.out]; omega)]
end Go.Proofs.Qxb6601564a

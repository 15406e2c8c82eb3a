import Derived.Test.Qxb6601564aA2
namespace Go.Proofs.Qxb6601564a
open Go.RowKit
set_option linter.unusedVariables false

def RetBytes (n : Nat) (fl : Nat → Nat) (e : Ending) : Prop := ∃ t : Int, e = .returned (.int .i64 t) ∧ 0 ≤ t ∧ (t ≤ 1048576 → ∀ i, i < n → 16 * fl i ≤ 1048576)

set_option maxHeartbeats 800000 in
theorem recsBytes_any (a : Option Addr) (n cap : Nat) (kd : Nat → ByteArray) (fl : Nat → Nat) (fs : Nat → Nat → ByteArray) (b off : Nat) (w : World) (hn : n ≤ 512) (H : RecsAt w a n kd fl fs b off) (hok : RecsOk n kd fl fs) :
    Calls Try.prog 6 #[.slice a n cap] w fun e w' => RetBytes n fl e ∧ Below w.heap.size w w' := by
  obtain ⟨ha, hc⟩ := H
  by_cases h0 : n = 0
  · subst h0
    go_enter Try.func6, Try.ntmps6
    go_wp2
    refine wp_loop_rounds 1 ?_
    rw [rounds_succ]
    go_wp2
    go_ret
    exact ⟨⟨_, rfl, by omega, fun _ i hi => by omega⟩, Below.refl _ _⟩
  · obtain rfl := ha (by omega)
    have HC : Hid (∀ i, i < n → RecAt w b (off + i * 3) (kd i) (fl i) (fs i)) := hc
    have HO : Hid (RecsOk n kd fl fs) := hok
    clear ha hc hok
    go_enter Try.func6, Try.ntmps6
    go_wp2
    go_loopw [3, 4] (fun t i wr => ∃ (k : Nat) (x : Int), k ≤ n ∧ 0 ≤ x ∧ x ≤ 1048576 ∧ i = .int .i64 k ∧ t = .int .i64 x ∧ Below w.heap.size w wr ∧ Hid (∀ j, j < k → 16 * fl j ≤ 1048576)) (fun _ i _ => n - (intOf i).toNat)
    case atStart => exact ⟨0, 0, by omega, by omega, by omega, rfl, rfl, Below.refl _ _, fun j hj => by omega⟩
    case round =>
      obtain ⟨k, x, hk, hx0, hx1, rfl, rfl, hB, HF⟩ := hrel
      by_cases hlt : k < n
      · obtain ⟨line, fa, fc, fb, fo, c0, c1, c2, hrow, hnil⟩ := (HC.out k hlt).below hB
        have HRW : Hid (Row wr fa (fl k) (fun j => .string (fs k j)) fb fo) := hrow
        clear hrow hnil
        go_wp2_with fail
        refine (recBytes_any line (kd k) fa (fl k) fc (fs k) fb fo _ (HO.out.hk k hlt) (HO.out.hf k hlt) (HO.out.hs k hlt) HRW.out).mono ?_
        rintro e w1 ⟨⟨t, rfl, ht0, ht1, ht2⟩, hB1⟩
        have B1 : Below w.heap.size w w1 := hB.trans (hB1.mono hB.size)
        have HT : Hid (t ≤ 1048576 → 16 * fl k ≤ 1048576) := ht2
        clear hB hB1 c0 c1 c2 ht2
        go_wp2
        · go_ret
          exact ⟨⟨_, rfl, by omega, fun h => by omega⟩, B1⟩
        · go_roundw
          case rel =>
            refine ⟨k + 1, x + t, by omega, by omega, by omega, by go_num, by go_num, B1, fun j hj => ?_⟩
            by_cases e : j = k
            · subst e; exact HT.out (by omega)
            · exact HF.out j (by omega)
          case measure => simp [intOf]; omega
      · go_wp2
        go_ret
        exact ⟨⟨_, rfl, by omega, fun _ i hi => HF.out i (by omega)⟩, hB⟩

/-- Is the kind the text p? -/
def isP (kd : ByteArray) : Bool := kd.toList == [112]
def RetForm (n : Nat) (kd : Nat → ByteArray) (fl : Nat → Nat) (e : Ending) : Prop := ∃ d : Bool, e = .returned (.bool d) ∧ (d = true → ∀ i, i < n → 1 ≤ fl i ∧ (isP (kd i) = false → 2 ≤ fl i))

set_option maxHeartbeats 800000 in
theorem wellFormed_any (a : Option Addr) (n cap : Nat) (kd : Nat → ByteArray) (fl : Nat → Nat) (fs : Nat → Nat → ByteArray) (b off : Nat) (w : World) (hn : n ≤ 512) (H : RecsAt w a n kd fl fs b off) :
    Calls Try.prog 7 #[.slice a n cap] w fun e w' => RetForm n kd fl e ∧ w = w' := by
  obtain ⟨ha, hc⟩ := H
  by_cases h0 : n = 0
  · subst h0
    go_enter Try.func7, Try.ntmps7
    go_wp2
    refine wp_loop_rounds 1 ?_
    rw [rounds_succ]
    go_wp2
    go_ret
    exact ⟨⟨_, rfl, fun _ i hi => by omega⟩, rfl⟩
  · obtain rfl := ha (by omega)
    have HC : Hid (∀ i, i < n → RecAt w b (off + i * 3) (kd i) (fl i) (fs i)) := hc
    clear ha hc
    go_enter Try.func7, Try.ntmps7
    go_wp2
    go_loop [3] (fun i => ∃ (k : Nat), k ≤ n ∧ i = .int .i64 k ∧ Hid (∀ j, j < k → 1 ≤ fl j ∧ (isP (kd j) = false → 2 ≤ fl j))) (fun i => n - (intOf i).toNat)
    case atStart => exact ⟨0, by omega, rfl, fun j hj => by omega⟩
    case round =>
      obtain ⟨k, hk, rfl, HF⟩ := hrel
      by_cases hlt : k < n
      · obtain ⟨line, fa, fc, fb, fo, c0, c1, c2, hrow, hnil⟩ := HC.out k hlt
        clear hrow hnil
        by_cases f1 : fl k < 1
        · have f1' : (fl k : Int) < 1 := by omega
          go_wp2
          go_ret
          exact ⟨⟨_, rfl, fun h => by cases h⟩, rfl⟩
        · have f1' : (1 : Int) ≤ fl k := by omega
          cases hp : isP (kd k) with
          | true =>
            have hp' : ((kd k).toList == [112]) = true := hp
            have HP : Hid (isP (kd k) = true) := hp
            clear hp
            go_wp2
            go_round
            case rel =>
              refine ⟨k + 1, by omega, by go_num, fun j hj => ?_⟩
              by_cases e : j = k
              · subst e; exact ⟨by omega, fun h => by rw [HP.out] at h; cases h⟩
              · exact HF.out j (by omega)
            case measure => simp [intOf]; omega
          | false =>
            have hp' : ((kd k).toList == [112]) = false := hp
            have HP : Hid (isP (kd k) = false) := hp
            clear hp
            by_cases f2 : fl k < 2
            · have f2' : (fl k : Int) < 2 := by omega
              go_wp2
              go_ret
              exact ⟨⟨_, rfl, fun h => by cases h⟩, rfl⟩
            · have f2' : (2 : Int) ≤ fl k := by omega
              go_wp2
              go_round
              case rel =>
                refine ⟨k + 1, by omega, by go_num, fun j hj => ?_⟩
                by_cases e : j = k
                · subst e; exact ⟨by omega, fun h => by omega⟩
                · exact HF.out j (by omega)
              case measure => simp [intOf]; omega
      · go_wp2
        go_ret
        exact ⟨⟨_, rfl, fun _ i hi => HF.out i (by omega)⟩, rfl⟩
end Go.Proofs.Qxb6601564a

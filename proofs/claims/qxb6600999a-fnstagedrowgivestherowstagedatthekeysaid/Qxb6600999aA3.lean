import Derived.Test.Qxb6600999aA2
namespace Go.Proofs.Qxb6600999a
open Go.RowKit
set_option linter.unusedVariables false

/-- Two places bear one key. -/
def sameAt (K I : Nat → Int) (S : Nat → ByteArray) (i j : Nat) : Prop := K i = K j ∧ I i = I j ∧ S i = S j
def Distinct (K I : Nat → Int) (S : Nat → ByteArray) (n : Nat) : Prop := ∀ i j, i < j → j < n → ¬ sameAt K I S i j

theorem below_drewN (B : Nat) (w : World) (m : Nat) : Below B w (w.drewN m) := ⟨rfl, rfl, rfl, Nat.le_refl _, fun _ _ => rfl⟩
theorem toList_inj {s t : ByteArray} (h : s.toList = t.toList) : s = t := by
  rw [ByteArray.toList_eq, ByteArray.toList_eq] at h
  cases s; cases t; congr 1; exact Array.ext' h
theorem toList_beq_true {s t : ByteArray} (h : s = t) : (s.toList == t.toList) = true := by rw [h]; exact beq_self_eq_true _
theorem toList_beq_false {s t : ByteArray} (h : ¬ s = t) : (s.toList == t.toList) = false := by
  rw [beq_eq_false_iff_ne]; exact fun e => h (toList_inj e)

set_option maxHeartbeats 800000 in
theorem distinct_any (a0 : Option Addr) (n0 c0 : Nat) (a1 : Option Addr) (n1 c1 : Nat) (a2 : Option Addr) (n2 c2 : Nat) (K I : Nat → Int) (S : Nat → ByteArray) (b0 o0 b1 o1 b2 o2 n : Nat) (w : World)
    (hn : n ≤ 4096) (h0 : n ≤ n0) (h1 : n ≤ n1) (h2 : n ≤ n2)
    (H0 : Row w a0 n0 (fun i => .int .u8 (K i)) b0 o0) (H1 : Row w a1 n1 (fun i => .int .i64 (I i)) b1 o1) (H2 : Row w a2 n2 (fun i => .string (S i)) b2 o2) :
    Calls Try.prog 21 #[.slice a0 n0 c0, .slice a1 n1 c1, .slice a2 n2 c2, .int .i64 n] w fun e w' => (∃ d : Bool, e = .returned (.bool d) ∧ (d = true → Distinct K I S n)) ∧ Below w.heap.size w w' := by
  by_cases hz : n = 0
  · subst hz
    go_enter Try.func21, Try.ntmps21
    go_wp2
    refine wp_loop_rounds 1 ?_
    rw [rounds_succ]
    go_wp2
    go_ret
    exact ⟨⟨true, rfl, fun _ i j _ hj => by omega⟩, Below.refl _ _⟩
  · obtain ⟨ha0, hc0⟩ := H0
    obtain ⟨ha1, hc1⟩ := H1
    obtain ⟨ha2, hc2⟩ := H2
    obtain rfl := ha0 (by omega)
    obtain rfl := ha1 (by omega)
    obtain rfl := ha2 (by omega)
    clear ha0 ha1 ha2
    go_enter Try.func21, Try.ntmps21
    go_wp2
    go_loopw [9, 10] (fun i _ wr => ∃ (k m : Nat), k ≤ n ∧ i = .int .i64 k ∧ wr = w.drewN m ∧ (∀ i j, i < j → j < n → i < k → ¬ sameAt K I S i j)) (fun i _ _ => n - (intOf i).toNat)
    case atStart => exact ⟨0, 0, by omega, rfl, rfl, fun i j _ _ h => by omega⟩
    case round =>
      obtain ⟨k, m, hk, rfl, rfl, hd⟩ := hrel
      have HD : Hid _ := hd
      clear hd
      by_cases hlt : k < n
      · go_wp2
        go_loopw [10] (fun i wr => ∃ (l m : Nat), k < l ∧ l ≤ n ∧ i = .int .i64 l ∧ wr = w.drewN m ∧ (∀ j, k < j → j < l → ¬ sameAt K I S k j)) (fun i _ => n - (intOf i).toNat)
        case atStart => exact ⟨k + 1, m, by omega, by omega, by go_num, rfl, fun j _ h => by omega⟩
        case round =>
          obtain ⟨l, m', hl1, hl2, rfl, rfl, hd⟩ := hrel
          have HE : Hid _ := hd
          clear hd
          by_cases hll : l < n
          · have c0k := hc0 k (by omega)
            have c0l := hc0 l (by omega)
            have c1k := hc1 k (by omega)
            have c1l := hc1 l (by omega)
            have c2k := hc2 k (by omega)
            have c2l := hc2 l (by omega)
            have e0 : (k : Int) < n0 := by omega
            have e1 : (l : Int) < n0 := by omega
            have e2 : (k : Int) < n1 := by omega
            have e3 : (l : Int) < n1 := by omega
            have e4 : (k : Int) < n2 := by omega
            have e5 : (l : Int) < n2 := by omega
            clear hc0 hc1 hc2
            by_cases q0 : K k = K l
            · have Q0 : Hid (K k = K l) := q0
              have q0' : (K k == K l) = true := by simpa using q0
              clear q0
              by_cases q1 : I k = I l
              · have Q1 : Hid (I k = I l) := q1
                have q1' : (I k == I l) = true := by simpa using q1
                clear q1
                by_cases q2 : S k = S l
                · have q2' := toList_beq_true q2
                  clear q2
                  go_wp2
                  go_quiet (fail)
                  go_wp2
                  go_ret
                  exact ⟨⟨false, rfl, fun h => by cases h⟩, (below_drewN _ _ _).trans (below_drewN _ _ _)⟩
                · have Q2 : Hid (¬ S k = S l) := q2
                  have q2' := toList_beq_false q2
                  clear q2
                  go_wp2
                  go_quiet (fail)
                  go_wp2
                  go_roundw
                  case rel => exact ⟨l + 1, _, by omega, by omega, by go_num, rfl, fun j h1 h2 => by
                    by_cases e : j = l
                    · subst e; exact fun h => Q2.out h.2.2
                    · exact HE.out j h1 (by omega)⟩
                  case measure => simp [intOf]; omega
              · have Q1 : Hid (¬ I k = I l) := q1
                have q1' : (I k == I l) = false := by simpa using q1
                clear q1
                go_wp2
                go_quiet (fail)
                go_wp2
                go_roundw
                case rel => exact ⟨l + 1, _, by omega, by omega, by go_num, rfl, fun j h1 h2 => by
                  by_cases e : j = l
                  · subst e; exact fun h => Q1.out h.2.1
                  · exact HE.out j h1 (by omega)⟩
                case measure => simp [intOf]; omega
            · have Q0 : Hid (¬ K k = K l) := q0
              have q0' : (K k == K l) = false := by simpa using q0
              clear q0
              go_wp2
              go_quiet (fail)
              go_wp2
              go_roundw
              case rel => exact ⟨l + 1, _, by omega, by omega, by go_num, rfl, fun j h1 h2 => by
                by_cases e : j = l
                · subst e; exact fun h => Q0.out h.1
                · exact HE.out j h1 (by omega)⟩
              case measure => simp [intOf]; omega
          · clear hc0 hc1 hc2
            go_wp2
            go_roundw
            case rel => exact ⟨k + 1, m', by omega, by go_num, rfl, fun i j hij hj hi => by
              by_cases e : i = k
              · subst e; exact HE.out j hij (by omega)
              · exact HD.out i j hij hj (by omega)⟩
            case measure => simp [intOf]; omega
      · clear hc0 hc1 hc2
        go_wp2
        go_ret
        exact ⟨⟨true, rfl, fun _ i j hij hj => HD.out i j hij hj (by omega)⟩, below_drewN _ _ _⟩
end Go.Proofs.Qxb6600999a

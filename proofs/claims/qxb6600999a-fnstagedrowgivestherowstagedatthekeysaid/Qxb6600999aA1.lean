import Derived.Test.Qxb6600999aProg
import Derived.WalkKit
namespace Go.Proofs.Qxb6600999a
open Go.RowKit
set_option linter.unusedVariables false

theorem ret_int {k : IntKind} {a b : Int} (h : a = b) : Ending.returned (.int k a) = .returned (.int k b) := by rw [h]

theorem min_any (a b : Nat) (w : World) :
    Calls Try.prog 20 #[.int .i64 a, .int .i64 b] w fun e w' => e = .returned (.int .i64 (Min.min a b : Nat)) ∧ w' = w := by
  by_cases h : (a : Int) < b
  · have hm : Hid (Min.min a b = a) := by show Min.min a b = a; omega
    go_enter Try.func20, Try.ntmps20
    go_wp2
    go_ret
    exact ⟨ret_int (by rw [hm.out]), rfl⟩
  · have hm : Hid (Min.min a b = b) := by show Min.min a b = b; omega
    go_enter Try.func20, Try.ntmps20
    go_wp2
    go_ret
    exact ⟨ret_int (by rw [hm.out]), rfl⟩

/-- A slice value of n elements whose cells (from ⟨b, off⟩ on) hold the strings ss. -/
structure StrRow (w : World) (a : Option Addr) (n : Nat) (ss : List ByteArray) (b off : Nat) : Prop where
  addr : 0 < n → a = some ⟨b, off, none⟩
  cell : ∀ i, i < n → w.cell? ⟨b, off + i, none⟩ = some (.string (ss.getD i ByteArray.empty))
  size : ∀ i, i < n → (ss.getD i ByteArray.empty).size ≤ maxLen

set_option maxHeartbeats 400000 in
theorem strsBytes_any (a : Option Addr) (n cap : Nat) (ss : List ByteArray) (b off : Nat) (w : World) (hn : n ≤ 4096) (H : StrRow w a n ss b off) :
    Calls Try.prog 19 #[.slice a n cap] w fun e w' => (∃ t : Int, 0 ≤ t ∧ t ≤ 2097152 ∧ e = .returned (.int .i64 t)) ∧ w' = w := by
  obtain ⟨ha, hc, hs⟩ := H
  by_cases h0 : n = 0
  · subst h0
    go_enter Try.func19, Try.ntmps19
    go_wp2
    refine wp_loop_rounds 1 ?_
    rw [rounds_succ]
    go_wp2
    go_ret
    exact ⟨⟨0, by omega, by omega, rfl⟩, rfl⟩
  · obtain rfl := ha (by omega)
    go_enter Try.func19, Try.ntmps19
    go_wp2
    go_loop [3, 4] (fun t i => ∃ (k : Nat) (x : Int), k ≤ n ∧ 0 ≤ x ∧ x ≤ 1048576 ∧ i = .int .i64 k ∧ t = .int .i64 x) (fun _ i => n - (intOf i).toNat)
    case atStart => exact ⟨0, 16 * n, by omega, by omega, by omega, rfl, by go_num⟩
    case round =>
      obtain ⟨k, x, hk, hx0, hx1, rfl, rfl⟩ := hrel
      by_cases hlt : k < n
      · have hck := hc k hlt
        have hsk := hs k hlt
        unfold maxLen at hsk
        generalize ss.getD k ByteArray.empty = s at hck hsk
        clear hc hs
        go_wp2
        · go_ret
          exact ⟨⟨_, by omega, by omega, rfl⟩, rfl⟩
        · go_ret
          exact ⟨⟨_, by omega, by omega, rfl⟩, rfl⟩
        · go_round
          case rel => exact ⟨k + 1, x + s.size, by omega, by omega, by omega, by go_num, by go_num⟩
          case measure => simp [intOf]; omega
      · clear hc hs
        go_wp2
        go_ret
        exact ⟨⟨_, by omega, by omega, rfl⟩, rfl⟩

/-- The call answers some bool. -/
def RetBool (e : Ending) : Prop := ∃ t : Bool, e = .returned (.bool t)
theorem RetBool.mk (t : Bool) : RetBool (.returned (.bool t)) := ⟨t, rfl⟩

set_option maxHeartbeats 800000 in
theorem bytes_any (a0 : Option Addr) (n0 c0 : Nat) (a1 : Option Addr) (n1 c1 : Nat) (a2 : Option Addr) (n2 c2 : Nat) (ss : List ByteArray) (b off : Nat) (p q : Bool) (qk qi : Int) (qs : ByteArray) (w : World)
    (h0 : n0 ≤ maxLen) (h1 : n1 ≤ maxLen) (h2 : n2 ≤ maxLen) (hq : qs.size ≤ maxLen) (H : StrRow w a2 n2 ss b off) :
    Calls Try.prog 18 #[.slice a0 n0 c0, .slice a1 n1 c1, .slice a2 n2 c2, .bool p, .bool q, .int .u8 qk, .int .i64 qi, .string qs] w fun e w' => RetBool e ∧ w' = w := by
  obtain ⟨ha, hc, hs⟩ := H
  unfold maxLen at h0 h1 h2 hq
  by_cases g0 : n2 = 0
  · subst g0
    go_enter Try.func18, Try.ntmps18
    go_wp2
    all_goals first
      | (go_ret; exact ⟨RetBool.mk _, rfl⟩)
      | skip
    refine wp_loop_rounds 1 ?_
    rw [rounds_succ]
    go_wp2
    all_goals (go_ret; exact ⟨RetBool.mk _, rfl⟩)
  · obtain rfl := ha (by omega)
    go_enter Try.func18, Try.ntmps18
    go_wp2
    all_goals first
      | (go_ret; exact ⟨RetBool.mk _, rfl⟩)
      | skip
    go_loop [17, 18] (fun t i => ∃ (k : Nat) (x : Int), k ≤ n2 ∧ 0 ≤ x ∧ x ≤ 1048576 ∧ i = .int .i64 k ∧ t = .int .i64 x) (fun _ i => n2 - (intOf i).toNat)
    case atStart => exact ⟨0, n0 + n1 + n2, by omega, by omega, by omega, rfl, by go_num⟩
    case round =>
      obtain ⟨k, x, hk, hx0, hx1, rfl, rfl⟩ := hrel
      by_cases hlt : k < n2
      · have hck := hc k hlt
        have hsk := hs k hlt
        unfold maxLen at hsk
        generalize ss.getD k ByteArray.empty = s at hck hsk
        clear hc hs
        go_wp2
        · go_ret
          exact ⟨RetBool.mk _, rfl⟩
        · go_ret
          exact ⟨RetBool.mk _, rfl⟩
        · go_round
          case rel => exact ⟨k + 1, x + s.size, by omega, by omega, by omega, by go_num, by go_num⟩
          case measure => simp [intOf]; omega
      · clear hc hs
        go_wp2
        all_goals (go_ret; exact ⟨RetBool.mk _, rfl⟩)
end Go.Proofs.Qxb6600999a

import Derived.Test.Qxb6600999aA6
namespace Go.Proofs.Qxb6600999a
open Go.RowKit Go.WideMaps
set_option linter.unusedVariables false

/-- The key asked for stands at place i. -/
def hits (K I : Nat → Int) (S : Nat → ByteArray) (a b : Int) (s : ByteArray) (i : Nat) : Prop := K i = a ∧ I i = b ∧ S i = s

theorem Try.hp45 : Try.prog.stoodInHeld 45 = false := by kernel_rfl
theorem Try.hg45 : Try.prog.eqGuardType Try.prog.depth 45 = false := by kernel_rfl
theorem Try.u45 : Try.prog.underlying 45 = some (.struct (Try.prog.fieldsOf 45)) := by kernel_rfl
theorem run_eql_key (w : World) (a b a' b' : Int) (s s' : ByteArray) :
    (binOp .eql 45 (.agg #[.int .u8 a, .int .i64 b, .string s]) (.agg #[.int .u8 a', .int .i64 b', .string s'])).run Try.prog w = .ok (.bool (a == a' && (b == b' && (s.toList == s'.toList)))) w := by
  rw [run_eql_struct, run_equalIn_agg w 9999 45 _ _ Try.u45 Try.hp45]
  simp only [Program.fieldsOf, Try.underlying45]
  cases h1 : a == a' <;> cases h2 : b == b' <;> cases h3 : s.toList == s'.toList
  all_goals simp [Op.eqFields, Sem.run_bind, go_sem, Try.underlying43, Try.underlying2, Try.underlying9, h1, h2, h3]

theorem run_eql_key_hit (w : World) {K I : Nat → Int} {S : Nat → ByteArray} {a b : Int} {s : ByteArray} {i : Nat} (h : hits K I S a b s i) :
    (binOp .eql 45 (.agg #[.int .u8 a, .int .i64 b, .string s]) (.agg #[.int .u8 (K i), .int .i64 (I i), .string (S i)])).run Try.prog w = .ok (.bool true) w := by
  obtain ⟨rfl, rfl, rfl⟩ := h
  rw [run_eql_key]; simp
theorem run_eql_key_miss (w : World) {K I : Nat → Int} {S : Nat → ByteArray} {a b : Int} {s : ByteArray} {i : Nat} (h : ¬ hits K I S a b s i) :
    (binOp .eql 45 (.agg #[.int .u8 a, .int .i64 b, .string s]) (.agg #[.int .u8 (K i), .int .i64 (I i), .string (S i)])).run Try.prog w = .ok (.bool false) w := by
  rw [run_eql_key]
  have : (a == K i && (b == I i && (s.toList == (S i).toList))) = false := by
    rw [Bool.eq_false_iff]
    intro e
    simp only [Bool.and_eq_true, beq_iff_eq] at e
    exact h ⟨e.1.symm, e.2.1.symm, (toList_inj e.2.2).symm⟩
  rw [this]

set_option maxHeartbeats 1600000 in
theorem index_any (n : Nat) (K I : Nat → Int) (S : Nat → ByteArray) (B : Nat) (a b : Int) (s : ByteArray) (w : World) (hn : n ≤ 4096) (hK : KeyRow w n K I S B) :
    Calls Try.prog 41 #[.slice (some ⟨B, 0, none⟩) n n, .agg #[.int .u8 a, .int .i64 b, .string s]] w fun e w' => (∃ r : Int, e = .returned (.int .i64 r) ∧ ((∃ i : Nat, i < n ∧ r = i ∧ hits K I S a b s i) ∨ (r = -1 ∧ ∀ i, i < n → ¬ hits K I S a b s i))) ∧ Below w.heap.size w w' := by
  have HK : Hid _ := hK
  clear hK
  go_enter Try.func41, Try.ntmps41
  go_wp2
  go_loopw [8] (fun i wr => ∃ (k m : Nat), k ≤ n ∧ i = .int .i64 k ∧ wr = (w.alloc (.cells #[.int .u8 a, .int .i64 b, .string s] 45)).drewN m ∧ (∀ j, j < k → ¬ hits K I S a b s j)) (fun i _ => n - (intOf i).toNat)
  case atStart => exact ⟨0, 0, by omega, rfl, rfl, fun j hj => by omega⟩
  case round =>
    obtain ⟨k, m, hk, rfl, rfl, hno⟩ := hrel
    have HN : Hid _ := hno
    clear hno
    by_cases hlt : k < n
    · obtain ⟨g0, g1, g2⟩ := (KeyRow.below HK.out ((Below.refl _ _).alloc (Nat.le_refl _) (.cells #[.int .u8 a, .int .i64 b, .string s] 45))) k hlt
      have e0 : (k : Int) < n := by omega
      have hge := fun W x y xs ys => run_eqGuard_agg (P := Try.prog) W .eql 45 x y xs ys Try.hg45
      by_cases q : hits K I S a b s k
      · have heq := fun W => run_eql_key_hit W q
        have Q : Hid _ := q
        clear q
        go_wp2
        go_quiet (fail)
        go_wp2
        go_ret
        exact ⟨⟨k, rfl, .inl ⟨k, hlt, rfl, Q.out⟩⟩, (((Below.refl _ _).alloc (Nat.le_refl _) _).trans (below_drewN _ _ _)).trans (below_drewN _ _ _)⟩
      · have heq := fun W => run_eql_key_miss W q
        have Q : Hid _ := q
        clear q
        go_wp2
        go_quiet (fail)
        go_wp2
        go_roundw
        case rel => exact ⟨k + 1, _, by omega, by go_num, rfl, fun j hj => by
          by_cases e : j = k
          · subst e; exact Q.out
          · exact HN.out j (by omega)⟩
        case measure => simp [intOf]; omega
    · go_wp2
      go_ret
      exact ⟨⟨-1, rfl, .inr ⟨rfl, fun i hi => HN.out i (by omega)⟩⟩, ((Below.refl _ _).alloc (Nat.le_refl _) _).trans (below_drewN _ _ _)⟩
end Go.Proofs.Qxb6600999a

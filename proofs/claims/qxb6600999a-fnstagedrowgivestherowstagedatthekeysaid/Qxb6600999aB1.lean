import Derived.Test.Qxb6600999aA9
import Derived.LaidEqlPtr
namespace Go.Proofs.Qxb6600999a
open Go.RowKit Go.WideMaps
set_option linter.unusedVariables false

theorem StrRow.of_row {w : World} {a : Option Addr} {n : Nat} {ss : List ByteArray} {b off : Nat} (h : Row w a n (fun i => .string (ss.getD i ByteArray.empty)) b off) (hs : ∀ i, i < n → (ss.getD i ByteArray.empty).size ≤ maxLen) : StrRow w a n ss b off :=
  ⟨h.addr, h.cell, hs⟩

theorem Try.info76 : (Try.prog.info? 76).isSome = true := by kernel_rfl
theorem run_eql_row (w : World) (p : Addr) : (binOp .eql 47 (.pointer (some p)) (.pointer (some p))).run Try.prog w = .ok (.bool true) w := by
  obtain ⟨j, hj⟩ := Option.isSome_iff_exists.1 Try.info76
  exact run_eql_ptr_same w p Try.underlying47 hj
theorem miss_step {K I : Nat → Int} {S : Nat → ByteArray} {a b : Int} {s : ByteArray} {k : Nat} (h : Hid (∀ j, j < k → ¬ hits K I S a b s j)) (hk : ¬ hits K I S a b s k) : Hid (∀ j, j < k + 1 → ¬ hits K I S a b s j) := fun j hj => by
  by_cases e : j = k
  · subst e; exact hk
  · exact h.out j (by omega)
theorem staged_any (kl : Nat → Lit) (p : Bool) (n : Nat) (K I : Nat → Int) (S : Nat → ByteArray) (B : Nat) (w : World) (hn : n ≤ 4096) (hK : KeyRow w n K I S B) (ht : Tells K I S n kl) :
    Calls Try.prog 28 #[.slice (some ⟨B, 0, none⟩) n n, .bool p] w fun e w' => ∃ R P m, e = .returned (.tuple #[.pointer (some ⟨P, 0, none⟩), .slice (some ⟨R, 0, none⟩) n n]) ∧ Below w.heap.size w w' ∧ StagedAt w' n K I S B R P m kl := by
  cases p
  · exact staged_no kl n K I S B w hn hK
  · exact staged_yes kl n K I S B w hn hK ht
theorem cells_new (W : World) (x y z : Value) : (W.alloc (.cells #[x, y, z] 45)).cell? ⟨W.heap.size, 0, none⟩ = some x ∧ (W.alloc (.cells #[x, y, z] 45)).cell? ⟨W.heap.size, 1, none⟩ = some y ∧ (W.alloc (.cells #[x, y, z] 45)).cell? ⟨W.heap.size, 2, none⟩ = some z := by
  refine ⟨?_, ?_, ?_⟩ <;> simp
theorem cells_new2 (W : World) (o : Obj) (x y z : Value) : ((W.alloc o).alloc (.cells #[x, y, z] 45)).cell? ⟨W.heap.size + 1, 0, none⟩ = some x ∧ ((W.alloc o).alloc (.cells #[x, y, z] 45)).cell? ⟨W.heap.size + 1, 1, none⟩ = some y ∧ ((W.alloc o).alloc (.cells #[x, y, z] 45)).cell? ⟨W.heap.size + 1, 2, none⟩ = some z := by
  have h := cells_new (W.alloc o) x y z
  rw [show (W.alloc o).heap.size = W.heap.size + 1 by simp] at h
  exact h

set_option maxHeartbeats 3200000 in
set_option maxRecDepth 100000 in
theorem top (a0 : Option Addr) (n0 c0 : Nat) (K : Nat → Int) (b0 o0 : Nat) (a1 : Option Addr) (n1 c1 : Nat) (I : Nat → Int) (b1 o1 : Nat) (a2 : Option Addr) (n2 c2 : Nat) (ss : List ByteArray) (b2 o2 : Nat)
    (p q : Bool) (qk qi : Int) (qs : ByteArray) (w : World)
    (m0 : a0 = none → n0 = 0) (m1 : a1 = none → n1 = 0) (m2 : a2 = none → n2 = 0) (l0 : n0 ≤ maxLen) (l1 : n1 ≤ maxLen) (l2 : n2 ≤ maxLen)
    (H0 : Row w a0 n0 (fun i => .int .u8 (K i)) b0 o0) (H1 : Row w a1 n1 (fun i => .int .i64 (I i)) b1 o1) (H2 : Row w a2 n2 (fun i => .string (ss.getD i ByteArray.empty)) b2 o2)
    (k0 : ∀ i, i < n0 → (Lit.int .u8 (K i)).wf = true) (k1 : ∀ i, i < n1 → (Lit.int .i64 (I i)).wf = true) (k2 : ∀ i, i < n2 → (ss.getD i ByteArray.empty).size ≤ maxLen) (hq : KeyOk qk qi qs) :
    Calls Try.prog 6 #[.slice a0 n0 c0, .slice a1 n1 c1, .slice a2 n2 c2, .bool p, .bool q, .int .u8 qk, .int .i64 qi, .string qs] w fun e w' => e = .returned (.bool true) ∧ Below w.heap.size w w' := by
  have HH : Hid (Row w a0 n0 (fun i => .int .u8 (K i)) b0 o0 ∧ Row w a1 n1 (fun i => .int .i64 (I i)) b1 o1 ∧ Row w a2 n2 (fun i => .string (ss.getD i ByteArray.empty)) b2 o2) := ⟨H0, H1, H2⟩
  have HM : Hid ((a0 = none → n0 = 0) ∧ (a1 = none → n1 = 0) ∧ (a2 = none → n2 = 0)) := ⟨m0, m1, m2⟩
  have HK : Hid ((∀ i, i < n0 → (Lit.int .u8 (K i)).wf = true) ∧ (∀ i, i < n1 → (Lit.int .i64 (I i)).wf = true) ∧ (∀ i, i < n2 → (ss.getD i ByteArray.empty).size ≤ maxLen) ∧ KeyOk qk qi qs) := ⟨k0, k1, k2, hq⟩
  have hqs := hq.s
  clear m0 m1 m2 H0 H1 H2 k0 k1 k2 hq
  have L0 : Hid (n0 ≤ maxLen ∧ n1 ≤ maxLen ∧ n2 ≤ maxLen) := ⟨l0, l1, l2⟩
  unfold maxLen at l0 l1 l2
  go_enter Try.func6, Try.ntmps6
  go_wp2_with fail
  refine (bytes_any a0 n0 c0 a1 n1 c1 a2 n2 c2 ss b2 o2 p q qk qi qs _ L0.out.1 L0.out.2.1 L0.out.2.2 hqs (StrRow.of_row HH.out.2.2 HK.out.2.2.1)).mono ?_
  rintro e w' ⟨⟨t, rfl⟩, hw⟩
  rw [hw]; clear hw
  unfold maxLen at hqs
  cases t with
  | false =>
    go_wp2
    go_ret
    exact ⟨rfl, Below.refl _ _⟩
  | true =>
    go_wp2_with fail
    all_goals first
      | (go_ret; exact ⟨rfl, Below.refl _ _⟩)
      | skip
    have g0 : n0 ≤ 4096 := by omega
    have g1 : n1 ≤ 4096 := by omega
    have g2 : n2 ≤ 4096 := by omega
    refine (strsBytes_any a2 n2 c2 ss b2 o2 _ g2 (StrRow.of_row HH.out.2.2 HK.out.2.2.1)).mono ?_
    rintro e w' ⟨⟨t, ht0, ht1, rfl⟩, hw⟩
    rw [hw]; clear hw
    go_wp2_with (go_at_call 20; refine (min_any _ _ _).mono ?_; rintro e w' ⟨rfl, hw⟩; rw [hw]; clear hw)
    all_goals first
      | (go_ret; exact ⟨rfl, Below.refl _ _⟩)
      | skip
    generalize hN : Min.min n0 (Min.min n1 n2) = N
    have q0 : N ≤ n0 := by omega
    have q1 : N ≤ n1 := by omega
    have q2 : N ≤ n2 := by omega
    clear hN
    refine (distinct_any a0 n0 c0 a1 n1 c1 a2 n2 c2 K I (fun i => ss.getD i ByteArray.empty) b0 o0 b1 o1 b2 o2 N _ (by omega) q0 q1 q2 HH.out.1 HH.out.2.1 HH.out.2.2).mono ?_
    rintro e w1 ⟨⟨d, rfl, hd⟩, hB1⟩
    cases d with
    | false =>
      go_wp2
      go_ret
      exact ⟨rfl, hB1⟩
    | true =>
      have HD : Hid (Distinct K I (fun i => ss.getD i ByteArray.empty) N) := hd rfl
      clear hd
      go_wp2_with fail
      refine (cloneU8_any a0 n0 c0 K b0 o0 w1 g0 HM.out.1 (HH.out.1.below hB1)).mono ?_
      rintro e w2 ⟨a0', c0', b0', o0', rfl, hB2, R0⟩
      have B2 : Below w.heap.size w w2 := hB1.trans (hB2.mono hB1.size)
      clear hB1 hB2
      go_wp2_with fail
      refine (cloneI64_any a1 n1 c1 I b1 o1 w2 g1 HM.out.2.1 (HH.out.2.1.below B2)).mono ?_
      rintro e w3 ⟨a1', c1', b1', o1', rfl, hB3, R1⟩
      have B3 : Below w.heap.size w w3 := B2.trans (hB3.mono B2.size)
      have R0' := R0.below hB3
      clear B2 R0 hB3
      go_wp2_with fail
      refine (cloneStrs_any a2 n2 c2 (fun i => ss.getD i ByteArray.empty) b2 o2 w3 g2 HM.out.2.2 (HH.out.2.2.below B3)).mono ?_
      rintro e w4 ⟨a2', c2', b2', o2', rfl, hB4, R2⟩
      have B4 : Below w.heap.size w w4 := B3.trans (hB4.mono B3.size)
      have R0 := R0'.below hB4
      have R1' := R1.below hB4
      clear B3 R0' R1 hB4
      have HR : Hid (Row w4 a0' n0 (fun i => .int .u8 (K i)) b0' o0' ∧ Row w4 a1' n1 (fun i => .int .i64 (I i)) b1' o1' ∧ Row w4 a2' n2 (fun i => .string (ss.getD i ByteArray.empty)) b2' o2') := ⟨R0, R1', R2⟩
      clear R0 R1' R2
      cases q with
      | true =>
        go_wp2_with (first | (go_at_call 25; refine (value_any _ _ _ _).mono ?_; rintro e w' ⟨rfl, rfl⟩) | (go_at_call 26; refine (zzrow_nil _ _ _ _).mono ?_; rintro e w5 ⟨rfl, hB5⟩))
        go_ret
        exact ⟨rfl, ((B4.alloc B4.size _).alloc (by have := B4.size; simp; omega) _).trans (hB5.mono (by have := B4.size; simp; omega))⟩
      | false =>
        go_wp2_with (go_at_call 25; refine (value_any _ _ _ _).mono ?_; rintro e w' ⟨rfl, rfl⟩)
        have hb5 : Below w4.heap.size w4 ((w4.alloc (.cells #[.int .u8 qk, .int .i64 qi, .string qs] 45)).alloc (.cells #[.int .u8 qk, .int .i64 qi, .string qs] 45)) := ((Below.refl _ _).alloc (Nat.le_refl _) _).alloc (by simp) _
        have hq0 := cells_new2 w4 (.cells #[.int .u8 qk, .int .i64 qi, .string qs] 45) (.int .u8 qk) (.int .i64 qi) (.string qs)
        generalize ((w4.alloc (.cells #[.int .u8 qk, .int .i64 qi, .string qs] 45)).alloc (.cells #[.int .u8 qk, .int .i64 qi, .string qs] 45)) = w5 at hb5 hq0 ⊢
        have B5 : Below w.heap.size w w5 := B4.trans (hb5.mono B4.size)
        refine (keys_any a0' n0 c0' a1' n1 c1' a2' n2 c2' K I (fun i => ss.getD i ByteArray.empty) b0' o0' b1' o1' b2' o2' N w5 (by omega) q0 q1 q2 (HR.out.1.below hb5) (HR.out.2.1.below hb5) (HR.out.2.2.below hb5)).mono ?_
        rintro e w6 ⟨rfl, hB6, hKR⟩
        have B6 : Below w.heap.size w w6 := B5.trans (hB6.mono B5.size)
        have HR6 : Hid (Row w6 a0' n0 (fun i => .int .u8 (K i)) b0' o0' ∧ Row w6 a1' n1 (fun i => .int .i64 (I i)) b1' o1' ∧ Row w6 a2' n2 (fun i => .string (ss.getD i ByteArray.empty)) b2' o2') := ⟨(HR.out.1.below hb5).below hB6, (HR.out.2.1.below hb5).below hB6, (HR.out.2.2.below hb5).below hB6⟩
        have hq6 : w6.cell? ⟨w4.heap.size + 1, 0, none⟩ = some (.int .u8 qk) ∧ w6.cell? ⟨w4.heap.size + 1, 1, none⟩ = some (.int .i64 qi) ∧ w6.cell? ⟨w4.heap.size + 1, 2, none⟩ = some (.string qs) := ⟨cell_below hB6 hq0.1, cell_below hB6 hq0.2.1, cell_below hB6 hq0.2.2⟩
        clear B4 B5 hb5 hq0 HR hB6
        obtain ⟨kl, hkl⟩ := exists_tells (K := K) (I := I) (S := fun i => ss.getD i ByteArray.empty) (n := N) (fun i hi => ⟨HK.out.1 i (by omega), HK.out.2.1 i (by omega), HK.out.2.2.1 i (by omega)⟩)
        have HT : Hid (Tells K I (fun i => ss.getD i ByteArray.empty) N kl) := hkl
        clear hkl
        generalize w5.heap.size = Bk at hKR ⊢
        have HKR : Hid (KeyRow w6 N K I (fun i => ss.getD i ByteArray.empty) Bk) := hKR
        clear hKR
        go_wp2_with fail
        refine (staged_any kl p N K I (fun i => ss.getD i ByteArray.empty) Bk w6 (by omega) HKR.out HT.out).mono ?_
        rintro e w7 ⟨R, P, m, rfl, hB7, hS⟩
        have B7 : Below w.heap.size w w7 := B6.trans (hB7.mono B6.size)
        have HR7 : Hid (Row w7 a0' n0 (fun i => .int .u8 (K i)) b0' o0' ∧ Row w7 a1' n1 (fun i => .int .i64 (I i)) b1' o1' ∧ Row w7 a2' n2 (fun i => .string (ss.getD i ByteArray.empty)) b2' o2') := ⟨HR6.out.1.below hB7, HR6.out.2.1.below hB7, HR6.out.2.2.below hB7⟩
        have hq7a := cell_below hB7 hq6.1
        have hq7b := cell_below hB7 hq6.2.1
        have hq7c := cell_below hB7 hq6.2.2
        have HS : Hid (StagedAt w7 N K I (fun i => ss.getD i ByteArray.empty) Bk R P m kl) := hS
        clear B6 HR6 hq6 hB7 hS HKR
        go_wp2_with fail
        refine (zzrow_any N K I (fun i => ss.getD i ByteArray.empty) Bk R P m kl qk qi qs w7 (by omega) HS.out HD.out HT.out HK.out.2.2.2).mono ?_
        rintro e w8 ⟨⟨v, rfl, hv⟩, hB8⟩
        have B8 : Below w.heap.size w w8 := B7.trans (hB8.mono B7.size)
        have HR8 : Hid (Row w8 a0' n0 (fun i => .int .u8 (K i)) b0' o0' ∧ Row w8 a1' n1 (fun i => .int .i64 (I i)) b1' o1' ∧ Row w8 a2' n2 (fun i => .string (ss.getD i ByteArray.empty)) b2' o2') := ⟨HR7.out.1.below hB8, HR7.out.2.1.below hB8, HR7.out.2.2.below hB8⟩
        clear hq7a hq7b hq7c B7 HR7
        rcases hv with ⟨i, p8, hi, hh, hv, hc⟩ | ⟨hv, hno⟩
        · rw [hv]
          have hc8 := cell_below hB8 hc
          rw [hv] at hc8
          have HI : Hid (hits K I (fun i => ss.getD i ByteArray.empty) qk qi qs i) := hh
          clear hv hc hB8 hh
          obtain rfl := HR8.out.1.addr (by omega)
          obtain rfl := HR8.out.2.1.addr (by omega)
          obtain rfl := HR8.out.2.2.addr (by omega)
          go_wp2
          go_loop [23, 24] (fun t a => ∃ k : Nat, k ≤ N ∧ a = .int .i64 k ∧ t = .int .i64 (-1) ∧ Hid (∀ j, j < k → ¬ hits K I (fun i => ss.getD i ByteArray.empty) qk qi qs j)) (fun _ a => N - (intOf a).toNat)
          case atStart => exact ⟨0, by omega, rfl, rfl, fun j hj => by omega⟩
          case round =>
            obtain ⟨k, hk, rfl, rfl, HN⟩ := hrel
            by_cases hlt : k < N
            · have d0 : w8.cell? ⟨b0', o0' + k, none⟩ = some (.int .u8 (K k)) := HR8.out.1.cell k (by omega)
              have d1 : w8.cell? ⟨b1', o1' + k, none⟩ = some (.int .i64 (I k)) := HR8.out.2.1.cell k (by omega)
              have d2 : w8.cell? ⟨b2', o2' + k, none⟩ = some (.string (ss.getD k ByteArray.empty)) := HR8.out.2.2.cell k (by omega)
              generalize hSk : ss.getD k ByteArray.empty = sk at d2
              have HSk : Hid (ss.getD k ByteArray.empty = sk) := hSk
              clear hSk
              have e0 : (k : Int) < n0 := by omega
              have e1 : (k : Int) < n1 := by omega
              have e2 : (k : Int) < n2 := by omega
              by_cases x0 : K k = qk
              · have x0' : (K k == qk) = true := by simpa using x0
                have X0 : Hid (K k = qk) := x0
                clear x0
                by_cases x1 : I k = qi
                · have x1' : (I k == qi) = true := by simpa using x1
                  have X1 : Hid (I k = qi) := x1
                  clear x1
                  by_cases x2 : sk = qs
                  · have x2' := toList_beq_true x2
                    have X2 : Hid (sk = qs) := x2
                    clear x2
                    have hki : k = i := by
                      rcases Nat.lt_trichotomy k i with h | h | h
                      · exact absurd ⟨X0.out.trans HI.out.1.symm, X1.out.trans HI.out.2.1.symm, (HSk.out.trans X2.out).trans HI.out.2.2.symm⟩ (HD.out k i h hi)
                      · exact h
                      · exact absurd ⟨HI.out.1.trans X0.out.symm, HI.out.2.1.trans X1.out.symm, HI.out.2.2.trans (HSk.out.trans X2.out).symm⟩ (HD.out i k h hlt)
                    have hc9 : w8.cell? ⟨R, k, none⟩ = some (.pointer (some p8)) := by rw [hki]; exact hc8
                    clear hki hc8
                    have hpe := run_eql_row
                    go_wp2
                    go_ret
                    exact ⟨rfl, B8⟩
                  · have x2' := toList_beq_false x2
                    have X2 : Hid (¬ sk = qs) := x2
                    clear x2
                    go_wp2
                    go_round
                    case rel => exact ⟨k + 1, by omega, by go_num, rfl, miss_step HN (fun h => X2.out (HSk.out.symm.trans h.2.2))⟩
                    case measure => simp [intOf]; omega
                · have x1' : (I k == qi) = false := by simpa using x1
                  have X1 : Hid (¬ I k = qi) := x1
                  clear x1
                  go_wp2
                  go_round
                  case rel => exact ⟨k + 1, by omega, by go_num, rfl, miss_step HN (fun h => X1.out h.2.1)⟩
                  case measure => simp [intOf]; omega
              · have x0' : (K k == qk) = false := by simpa using x0
                have X0 : Hid (¬ K k = qk) := x0
                clear x0
                go_wp2
                go_round
                case rel => exact ⟨k + 1, by omega, by go_num, rfl, miss_step HN (fun h => X0.out h.1)⟩
                case measure => simp [intOf]; omega
            · exact absurd HI.out (HN.out i (by omega))
        · rw [hv]
          have HI : Hid (∀ i, i < N → ¬ hits K I (fun i => ss.getD i ByteArray.empty) qk qi qs i) := hno
          clear hv hB8 hno
          by_cases hN0 : N = 0
          · subst hN0
            go_wp2
            refine wp_loop_rounds 1 ?_
            rw [rounds_succ]
            go_wp2
            go_ret
            exact ⟨rfl, B8⟩
          obtain rfl := HR8.out.1.addr (by omega)
          obtain rfl := HR8.out.2.1.addr (by omega)
          obtain rfl := HR8.out.2.2.addr (by omega)
          go_wp2
          go_loop [23, 24] (fun t a => ∃ k : Nat, k ≤ N ∧ a = .int .i64 k ∧ t = .int .i64 (-1) ∧ Hid (∀ j, j < k → ¬ hits K I (fun i => ss.getD i ByteArray.empty) qk qi qs j)) (fun _ a => N - (intOf a).toNat)
          case atStart => exact ⟨0, by omega, rfl, rfl, fun j hj => by omega⟩
          case round =>
            obtain ⟨k, hk, rfl, rfl, HN⟩ := hrel
            by_cases hlt : k < N
            · have d0 : w8.cell? ⟨b0', o0' + k, none⟩ = some (.int .u8 (K k)) := HR8.out.1.cell k (by omega)
              have d1 : w8.cell? ⟨b1', o1' + k, none⟩ = some (.int .i64 (I k)) := HR8.out.2.1.cell k (by omega)
              have d2 : w8.cell? ⟨b2', o2' + k, none⟩ = some (.string (ss.getD k ByteArray.empty)) := HR8.out.2.2.cell k (by omega)
              generalize hSk : ss.getD k ByteArray.empty = sk at d2
              have HSk : Hid (ss.getD k ByteArray.empty = sk) := hSk
              clear hSk
              have e0 : (k : Int) < n0 := by omega
              have e1 : (k : Int) < n1 := by omega
              have e2 : (k : Int) < n2 := by omega
              by_cases x0 : K k = qk
              · have x0' : (K k == qk) = true := by simpa using x0
                have X0 : Hid (K k = qk) := x0
                clear x0
                by_cases x1 : I k = qi
                · have x1' : (I k == qi) = true := by simpa using x1
                  have X1 : Hid (I k = qi) := x1
                  clear x1
                  by_cases x2 : sk = qs
                  · have x2' := toList_beq_true x2
                    have X2 : Hid (sk = qs) := x2
                    clear x2
                    exact absurd ⟨X0.out, X1.out, HSk.out.trans X2.out⟩ (HI.out k hlt)
                  · have x2' := toList_beq_false x2
                    have X2 : Hid (¬ sk = qs) := x2
                    clear x2
                    go_wp2
                    go_round
                    case rel => exact ⟨k + 1, by omega, by go_num, rfl, miss_step HN (fun h => X2.out (HSk.out.symm.trans h.2.2))⟩
                    case measure => simp [intOf]; omega
                · have x1' : (I k == qi) = false := by simpa using x1
                  have X1 : Hid (¬ I k = qi) := x1
                  clear x1
                  go_wp2
                  go_round
                  case rel => exact ⟨k + 1, by omega, by go_num, rfl, miss_step HN (fun h => X1.out h.2.1)⟩
                  case measure => simp [intOf]; omega
              · have x0' : (K k == qk) = false := by simpa using x0
                have X0 : Hid (¬ K k = qk) := x0
                clear x0
                go_wp2
                go_round
                case rel => exact ⟨k + 1, by omega, by go_num, rfl, miss_step HN (fun h => X0.out h.1)⟩
                case measure => simp [intOf]; omega
            · go_wp2
              go_ret
              exact ⟨rfl, B8⟩
end Go.Proofs.Qxb6600999a

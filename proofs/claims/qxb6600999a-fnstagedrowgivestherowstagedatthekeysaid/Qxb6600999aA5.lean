import Derived.Test.Qxb6600999aA4
import Derived.Maps.Own
import Derived.Maps.OwnSet
import Derived.DeepKeys4
import Derived.KernelRfl
namespace Go.Proofs.Qxb6600999a
open Go.RowKit Go.WideMaps
set_option linter.unusedVariables false

/-! ### The map's key type, and what the map holds -/
theorem Try.laidOut : laidOutB Try.prog = true := by kernel_rfl
theorem Try.row45 : (45 : TypeId) < Try.prog.types.size := of_decide_eq_true (by kernel_rfl)
theorem Try.wide45 : (match Try.prog.underlying 45 with | some (.array _ _) | some (.struct _) => true | _ => false) = true := by kernel_rfl
theorem Try.keyed : Maps.Keyed Try.prog 45 := Maps.Keyed.of_law (deep_law_laid Try.laidOut (m := 3) (by omega) Try.row45 (by kernel_rfl) Try.wide45)
theorem Try.keyType45 : Try.prog.keyType 45 = true := by kernel_rfl
theorem Try.cells45 : Try.prog.cellsOf 45 = 3 := by kernel_rfl
theorem Try.cells43 : Try.prog.cellsOf 43 = 1 := by kernel_rfl
theorem Try.cells2 : Try.prog.cellsOf 2 = 1 := by kernel_rfl
theorem Try.cells9 : Try.prog.cellsOf 9 = 1 := by kernel_rfl

/-- A key as the walk has it. -/
def keyVal (a b : Int) (s : ByteArray) : Value := .agg #[.int .u8 a, .int .i64 b, .string s]
structure KeyOk (a b : Int) (s : ByteArray) : Prop where
  k : (Lit.int .u8 a).wf = true
  i : (Lit.int .i64 b).wf = true
  s : s.size ≤ maxLen

theorem keyOf_some {a b : Int} {s : ByteArray} (h : KeyOk a b s) : ∃ l, keyOf Try.prog 45 (keyVal a b s) = some l := by
  obtain ⟨h1, h2, h3⟩ := h
  have hf : (keyVal a b s).formed Try.prog 45 = true := by simp [keyVal, Value.formed, Try.underlying45, Try.cells45]
  have hl : ∀ m : Nat, ∃ ls, Try.prog.keyLits (m + 2) 45 (keyVal a b s).cells.toList = some ls := fun m => by
    simp [Program.keyLits, keyVal, Value.cells, Try.underlying45, Try.underlying43, Try.underlying2, Try.underlying9, Try.cells45, Try.cells43, Try.cells2, Try.cells9, h1, h2, h3]
  have hT : ∃ m, Try.prog.types.size + 1 = m + 2 := by
    have h : 45 < Try.prog.types.size := Try.row45
    generalize Try.prog.types.size = T at h
    exact ⟨T - 1, by omega⟩
  obtain ⟨m, hm⟩ := hT
  obtain ⟨ls, hls⟩ := hl m
  refine ⟨.string (keyBytes ls), ?_⟩
  unfold keyOf
  rw [Try.underlying45]
  simp only [Try.keyType45, hf, Bool.and_self, if_true]
  rw [hm, hls]
  rfl

theorem keyVal_inj {a b a' b' : Int} {s s' : ByteArray} (h : keyVal a b s = keyVal a' b' s') : a = a' ∧ b = b' ∧ s = s' := by
  simpa [keyVal] using h

/-- What the map of places holds behind k stores; kl i: the key at place i, as the map's reader tells it. -/
def Dm (kl : Nat → Lit) : Nat → DataW Unit
  | 0 => .map []
  | k + 1 => (Dm kl k).put (kl k) (.lit (.int .i64 k))
/-- kl tells the keys. -/
def Tells (K I : Nat → Int) (S : Nat → ByteArray) (n : Nat) (kl : Nat → Lit) : Prop := ∀ i, i < n → keyOf Try.prog 45 (keyVal (K i) (I i) (S i)) = some (kl i)
theorem exists_tells {K I : Nat → Int} {S : Nat → ByteArray} {n : Nat} (hok : ∀ i, i < n → KeyOk (K i) (I i) (S i)) : ∃ kl, Tells K I S n kl := by
  refine ⟨fun i => if h : i < n then Classical.choose (keyOf_some (hok i h)) else .bool false, fun i hi => ?_⟩
  simp only [hi, dif_pos]
  exact Classical.choose_spec (keyOf_some (hok i hi))
section
variable {K I : Nat → Int} {S : Nat → ByteArray} {kl : Nat → Lit}
theorem Dm_isMap : ∀ k, Maps.IsMap (Dm kl k)
  | 0 => ⟨[], rfl⟩
  | k + 1 => (Dm_isMap k).put _ _
theorem kl_ne {n i j : Nat} (hd : Distinct K I S n) (ht : Tells K I S n kl) (hi : i < n) (hj : j < n) (hne : i ≠ j) : kl i ≠ kl j := by
  intro e
  have h1 := ht i hi
  have h2 := ht j hj
  rw [e] at h1
  have h3 := keyVal_inj (Try.keyed.inj h1 h2)
  rcases Nat.lt_or_gt_of_ne hne with h | h
  · exact hd i j h hj h3
  · exact hd j i h hi ⟨h3.1.symm, h3.2.1.symm, h3.2.2.symm⟩
theorem Dm_hit {N : Nat} (hd : Distinct K I S N) (ht : Tells K I S N kl) (z : DataW Unit) : ∀ n, n ≤ N → ∀ i, i < n → Maps.has (Dm kl n) (kl i) = true ∧ (Dm kl n).atKey (kl i) z = .lit (.int .i64 i)
  | 0, _, i, hi => by omega
  | n + 1, hn, i, hi => by
    by_cases e : i = n
    · subst e
      have hk := Try.keyed.key (ht i (by omega))
      exact ⟨Maps.has_put_same (Dm_isMap i) hk _, Maps.atKey_put_same (Dm_isMap i) hk _ _⟩
    · have hne := kl_ne hd ht (show i < N by omega) (show n < N by omega) e
      have ih := Dm_hit hd ht z n (by omega) i (by omega)
      refine ⟨?_, ?_⟩
      · show Maps.has ((Dm kl n).put _ _) _ = true
        rw [Maps.has_put_other hne]; exact ih.1
      · show DataW.atKey ((Dm kl n).put _ _) _ z = _
        rw [Maps.atKey_put_other hne]; exact ih.2
theorem Dm_miss {l : Lit} : ∀ n, (∀ i, i < n → kl i ≠ l) → Maps.has (Dm kl n) l = false
  | 0, _ => rfl
  | n + 1, h => by
    show Maps.has ((Dm kl n).put _ _) _ = false
    rw [Maps.has_put_other (fun e => h n (by omega) e.symm)]
    exact Dm_miss n (fun i hi => h i (by omega))
end
end Go.Proofs.Qxb6600999a

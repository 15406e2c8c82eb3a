import Derived.Test.Qxb6602276aA3
import Derived.Deep.AppendLies
namespace Go.Proofs.Qxb6602276a
open Go.RowKit
set_option linter.unusedVariables false

theorem ownsRow_congr {w w' : World} {base : Nat} {e : TypeId} {size : Nat} {v : Value} {n : Nat} {xs : List Value} (h : w.ownsRow base e size v n xs) (hk : ∀ g, v.ownBlock = some g → w'.heap[g]? = w.heap[g]?) : w'.ownsRow base e size v n xs := by
  obtain ⟨h1, h2⟩ := h
  refine ⟨h1, ?_⟩
  rcases h2 with h2 | ⟨g, cap, cur, hv, hb, hh, hr⟩
  · exact .inl h2
  · exact .inr ⟨g, cap, cur, hv, hb, by rw [hk g (by rw [hv]; rfl)]; exact hh, hr⟩

/-! ### Rows that a function owns, each in a block of its own -/
structure Rw where
  e : TypeId
  a : Option Addr
  c : Nat
  xs : List Value
def Rw.val (r : Rw) : Value := .slice r.a r.xs.length r.c
def Sep (v v' : Value) : Prop := ∀ b, v.ownBlock = some b → v'.ownBlock ≠ some b
structure MS (w : World) (H : Nat) (l : List Rw) : Prop where
  own : ∀ (i : Nat) (r : Rw), l[i]? = some r → w.ownsRow H r.e 1 (.slice r.a r.xs.length r.c) r.xs.length r.xs
  sep : ∀ (i j : Nat) (r r' : Rw), i ≠ j → l[i]? = some r → l[j]? = some r' → Sep r.val r'.val

theorem MS.congr {w w' : World} {H : Nat} {l : List Rw} (h : MS w H l) (hk : ∀ (i : Nat) (r : Rw) (g : Nat), l[i]? = some r → r.val.ownBlock = some g → w'.heap[g]? = w.heap[g]?) : MS w' H l :=
  ⟨fun i r hr => ownsRow_congr (h.own i r hr) (fun g hg => hk i r g hr hg), h.sep⟩
theorem MS.alloc {w : World} {H : Nat} {l : List Rw} (h : MS w H l) (o : Obj) : MS (w.alloc o) H l := ⟨fun i r hr => (h.own i r hr).alloc o, h.sep⟩
theorem MS.below {w w' : World} {H : Nat} {l : List Rw} (h : MS w H l) (hb : Below w.heap.size w w') : MS w' H l :=
  h.congr (fun i r g hr hg => hb.block g ((h.own i r hr).lt g hg).2)
theorem MS.app {w w2 : World} {H : Nat} {l : List Rw} (h : MS w H l) {k : Nat} {r : Rw} (hk : l[k]? = some r) {q c : Nat} {xs : List Value}
    (hown : w2.ownsRow H r.e 1 (.slice (some ⟨q, 0, none⟩) xs.length c) xs.length xs) (hg : w.grownBy w2 r.val.ownBlock) (hat : r.val.ownBlock = some q ∨ q = w.heap.size) : MS w2 H (l.set k ⟨r.e, some ⟨q, 0, none⟩, c, xs⟩) := by
  have hkl : k < l.length := (List.getElem?_eq_some_iff.1 hk).1
  have hq : (Rw.val ⟨r.e, some ⟨q, 0, none⟩, c, xs⟩).ownBlock = some q := rfl
  have hsq : ∀ (i : Nat) (s : Rw), i ≠ k → l[i]? = some s → s.val.ownBlock ≠ some q := by
    intro i s hi hs e
    rcases hat with hat | hat
    · exact h.sep k i r s (fun e => hi e.symm) hk hs q hat e
    · have := ((h.own i s hs).lt q e).2
      omega
  refine ⟨fun i s hs => ?_, fun i j s s' hij hs hs' => ?_⟩
  · by_cases e : i = k
    · subst e
      rw [List.getElem?_set_self hkl] at hs
      obtain rfl := Option.some.inj hs
      exact hown
    · rw [List.getElem?_set_ne (fun e' => e e'.symm)] at hs
      refine (h.own i s hs).kept hg ?_
      cases hv : s.val.ownBlock with
      | none => exact .inl hv
      | some b =>
        right
        intro e'
        exact h.sep i k s r e hs hk b hv (e'.symm.trans hv)
  · by_cases e : i = k
    · subst e
      rw [List.getElem?_set_self hkl] at hs
      obtain rfl := Option.some.inj hs
      rw [List.getElem?_set_ne (fun e' => hij e')] at hs'
      intro b hb
      rw [hq] at hb
      obtain rfl := Option.some.inj hb
      exact hsq j s' (fun e => hij e.symm) hs'
    · rw [List.getElem?_set_ne (fun e' => e e'.symm)] at hs
      by_cases e2 : j = k
      · subst e2
        rw [List.getElem?_set_self hkl] at hs'
        obtain rfl := Option.some.inj hs'
        intro b hb hb'
        rw [hq] at hb'
        obtain rfl := Option.some.inj hb'
        exact hsq i s e hs hb
      · rw [List.getElem?_set_ne (fun e' => e2 e'.symm)] at hs'
        exact h.sep i j s s' hij hs hs'
/-- A cell of row k is written. -/
theorem MS.put {w : World} {H : Nat} {l : List Rw} (h : MS w H l) {k : Nat} {e : TypeId} {q c : Nat} {xs : List Value} (hk : l[k]? = some ⟨e, some ⟨q, 0, none⟩, c, xs⟩) (j : Nat) (v : Value) : MS (w.setCell ⟨q, j, none⟩ v) H (l.set k ⟨e, some ⟨q, 0, none⟩, c, xs.set j v⟩) := by
  have hkl : k < l.length := (List.getElem?_eq_some_iff.1 hk).1
  have hst := ((h.own k _ hk).stored j v).1
  refine ⟨fun i s hs => ?_, fun i i' s s' hij hs hs' => ?_⟩
  · by_cases e' : i = k
    · subst e'
      rw [List.getElem?_set_self hkl] at hs
      obtain rfl := Option.some.inj hs
      simp only [List.length_set]
      exact hst
    · rw [List.getElem?_set_ne (fun e'' => e' e''.symm)] at hs
      refine ownsRow_congr (h.own i s hs) (fun g hg => Below.heap_setCell _ _ _ _ ?_)
      intro eg
      exact h.sep i k s _ e' hs hk g hg (by rw [eg]; rfl)
  · have key : ∀ (i : Nat) (s : Rw), (l.set k ⟨e, some ⟨q, 0, none⟩, c, xs.set j v⟩)[i]? = some s → ∃ s0, l[i]? = some s0 ∧ s.val.ownBlock = s0.val.ownBlock := by
      intro i s hs
      by_cases e' : i = k
      · subst e'
        rw [List.getElem?_set_self hkl] at hs
        obtain rfl := Option.some.inj hs
        exact ⟨_, hk, rfl⟩
      · rw [List.getElem?_set_ne (fun e'' => e' e''.symm)] at hs
        exact ⟨s, hs, rfl⟩
    obtain ⟨s0, h0, e0⟩ := key i s hs
    obtain ⟨s0', h0', e0'⟩ := key i' s' hs'
    intro b hb
    rw [e0'] 
    exact h.sep i i' s0 s0' hij h0 h0' b (by rw [← e0]; exact hb)
theorem MS.blk {w : World} {H : Nat} {l : List Rw} (h : MS w H l) {k : Nat} {r : Rw} (hk : l[k]? = some r) : ∀ b, r.val.ownBlock = some b → H ≤ b := fun b hb => ((h.own k r hk).lt b hb).1
/-- Out of a row: the address and the cell. -/
theorem MS.cell {w : World} {H : Nat} {l : List Rw} (h : MS w H l) {k : Nat} {r : Rw} (hk : l[k]? = some r) {i : Nat} {v : Value} (hi : r.xs[i]? = some v) : ∃ q, r.a = some ⟨q, 0, none⟩ ∧ w.cell? ⟨q, i, none⟩ = some v ∧ w.frozen? ⟨q, i, none⟩ = false ∧ H ≤ q ∧ q < w.heap.size := by
  have ho := h.own k r hk
  have hil : i < r.xs.length := (List.getElem?_eq_some_iff.1 hi).1
  obtain ⟨q, c', hv, h1, h2⟩ := ho.form (by omega)
  obtain ⟨ha, hc⟩ : r.a = some ⟨q, 0, none⟩ ∧ r.c = c' := by simpa using hv
  rw [ha] at ho
  exact ⟨q, ha, by rw [ho.cellAt i (by omega)]; exact hi, ho.frozenAt i, h1, h2⟩

theorem ownsRow_base {w : World} {base base' : Nat} {e : TypeId} {size : Nat} {v : Value} {n : Nat} {xs : List Value} (h : w.ownsRow base e size v n xs) (hb : base' ≤ base) : w.ownsRow base' e size v n xs := by
  obtain ⟨h1, h2⟩ := h
  refine ⟨h1, ?_⟩
  rcases h2 with h2 | ⟨g, cap, cur, hv, hbg, hr⟩
  · exact .inl h2
  · exact .inr ⟨g, cap, cur, hv, Nat.le_trans hb hbg, hr⟩

/-! ### Rows given by functions -/
def mapR (n : Nat) (f : Nat → Value) : List Value := (List.range n).map f
theorem mapR_length (n : Nat) (f : Nat → Value) : (mapR n f).length = n := by simp [mapR]
theorem mapR_get {n : Nat} {f : Nat → Value} {i : Nat} (h : i < n) : (mapR n f)[i]? = some (f i) := by simp [mapR, List.getElem?_map, List.getElem?_range h]
theorem mapR_set (n : Nat) (f : Nat → Value) (p : Nat) (x : Value) : (mapR n f).set p x = mapR n (upd f p x) := by
  apply List.ext_getElem?
  intro i
  by_cases hi : i < n
  · rw [mapR_get hi]
    by_cases e : i = p
    · subst e
      rw [List.getElem?_set_self (by rw [mapR_length]; exact hi), upd_same]
    · rw [List.getElem?_set_ne (fun e' => e e'.symm), mapR_get hi, upd_ne _ _ e]
  · rw [List.getElem?_eq_none (by rw [List.length_set, mapR_length]; omega), List.getElem?_eq_none (by rw [mapR_length]; omega)]
theorem mapR_const (n : Nat) (z : Value) : List.replicate n z = mapR n (fun _ => z) := by
  apply List.ext_getElem?
  intro i
  by_cases hi : i < n
  · rw [mapR_get hi, List.getElem?_replicate, if_pos hi]
  · rw [List.getElem?_eq_none (by simp; omega), List.getElem?_eq_none (by rw [mapR_length]; omega)]
theorem upd_bool (f : Nat → Bool) (p : Nat) (x : Bool) : upd (fun q => Value.bool (f q)) p (.bool x) = fun q => .bool (upd f p x q) := by
  funext q; unfold upd; split <;> rfl
theorem upd_int (f : Nat → Int) (p : Nat) (x : Int) : upd (fun q => Value.int .i64 (f q)) p (.int .i64 x) = fun q => .int .i64 (upd f p x q) := by
  funext q; unfold upd; split <;> rfl
end Go.Proofs.Qxb6602276a

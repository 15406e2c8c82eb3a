import Derived.Test.Qxb6601564aA4
import Derived.Maps.Own
import Derived.Maps.OwnSet
import Derived.Deep.AppendLies
import Derived.StringKeys
namespace Go.Proofs.Qxb6601564a
open Go.RowKit Go.WideMaps
set_option linter.unusedVariables false

/-! ### What is owned stays owned where its block stays -/
theorem ownsRow_congr {w w' : World} {base : Nat} {e : TypeId} {size : Nat} {v : Value} {n : Nat} {xs : List Value} (h : w.ownsRow base e size v n xs) (hk : ∀ g, v.ownBlock = some g → w'.heap[g]? = w.heap[g]?) : w'.ownsRow base e size v n xs := by
  obtain ⟨h1, h2⟩ := h
  refine ⟨h1, ?_⟩
  rcases h2 with h2 | ⟨g, cap, cur, hv, hb, hh, hr⟩
  · exact .inl h2
  · exact .inr ⟨g, cap, cur, hv, hb, by rw [hk g (by rw [hv]; rfl)]; exact hh, hr⟩
theorem ownsRow_block {w : World} {base : Nat} {e : TypeId} {size : Nat} {v : Value} {n : Nat} {xs : List Value} (h : w.ownsRow base e size v n xs) {g : Nat} (hg : v.ownBlock = some g) : ∃ cs, w.heap[g]? = some (.cells cs e (0, 0)) := by
  rcases h.2 with ⟨rfl, _⟩ | ⟨g', cap, cur, rfl, hb, hh, hr⟩
  · simp [Value.ownBlock] at hg
  · simp [Value.ownBlock] at hg
    subst hg
    exact ⟨cur, hh⟩
theorem ownsRow_base {w : World} {base base' : Nat} {e : TypeId} {size : Nat} {v : Value} {n : Nat} {xs : List Value} (h : w.ownsRow base e size v n xs) (hb : base' ≤ base) : w.ownsRow base' e size v n xs := by
  obtain ⟨h1, h2⟩ := h
  refine ⟨h1, ?_⟩
  rcases h2 with h2 | ⟨g, cap, cur, hv, hbg, hr⟩
  · exact .inl h2
  · exact .inr ⟨g, cap, cur, hv, Nat.le_trans hb hbg, hr⟩
theorem ownsMap_congr {H : Type} {P : Program} {k : TypeId} {R : Value → Option (DataW H × List MemPlace)} {b n : Nat} {D : DataW H} {w w' : World} (h : w.ownsMap P k R b n D) (hb : w'.heap[b]? = w.heap[b]?) : w'.ownsMap P k R b n D := by
  obtain ⟨es, clock, h1, F, hs, hD⟩ := h
  exact ⟨es, clock, hb.trans h1, F, hs, hD⟩
theorem heap_lt {w : World} {k : Nat} {o : Obj} (h : w.heap[k]? = some o) : k < w.heap.size := (Array.getElem?_eq_some_iff.1 h).1
/-- A value that owns n elements, n known: its shape. -/
theorem ownsRow_shape {w : World} {base : Nat} {e : TypeId} {size : Nat} {v : Value} {n : Nat} {xs : List Value} (h : w.ownsRow base e size v n xs) : ∃ a c, v = .slice a n c := by
  rcases h.2 with ⟨rfl, rfl⟩ | ⟨g, cap, cur, rfl, _⟩
  · exact ⟨none, 0, rfl⟩
  · exact ⟨_, _, rfl⟩
theorem Value.ownBlock_slice (a : Option Addr) (n c : Nat) : (Value.slice a n c).ownBlock = a.map (·.block) := by cases a <;> rfl

/-! ### The map of ids -/
def key (s : ByteArray) : Lit := .string s.data.toList
theorem key_inj {s t : ByteArray} (h : key s = key t) : s = t := by
  have : s.data.toList = t.data.toList := by simpa [key] using h
  cases s; cases t; congr 1; exact Array.ext' this
theorem key_lit (s : ByteArray) : WideAt.IsKeyLit (key s) := trivial
structure MapOf (D : DataW Unit) (names : List ByteArray) : Prop where
  isMap : Maps.IsMap D
  hit : ∀ s, ix names s < names.length → Maps.has D (key s) = true ∧ ∀ z, D.atKey (key s) z = .lit (.int .i32 (ix names s))
  miss : ∀ s, ¬ ix names s < names.length → Maps.has D (key s) = false
theorem MapOf.empty : MapOf (.map []) [] := ⟨⟨[], rfl⟩, fun s h => by simp at h, fun s _ => rfl⟩
theorem ix_other {names : List ByteArray} {s t : ByteArray} (hne : t ≠ s) : (ix names t < names.length → ix (names ++ [s]) t = ix names t) ∧ (¬ ix names t < names.length → ¬ ix (names ++ [s]) t < (names ++ [s]).length) := by
  constructor
  · intro h
    have h1 := ix_get h
    have h2 : (names ++ [s])[ix names t]? = some t := by rw [List.getElem?_append_left h]; exact h1
    have h3 := (ix_lt_of_get h2)
    have h4 := ix_get h3.2
    rcases Nat.lt_or_ge (ix (names ++ [s]) t) names.length with hl | hl
    · rw [List.getElem?_append_left hl] at h4
      have := (ix_lt_of_get h4).1
      omega
    · omega
  · intro h hc
    have h4 := ix_get hc
    rcases Nat.lt_or_ge (ix (names ++ [s]) t) names.length with hl | hl
    · rw [List.getElem?_append_left hl] at h4
      exact h (ix_lt_of_get h4).2
    · have e : ix (names ++ [s]) t = names.length := by simp at hc; omega
      rw [e] at h4
      simp at h4
      exact hne h4.symm
theorem MapOf.put {D : DataW Unit} {names : List ByteArray} (h : MapOf D names) {s : ByteArray} (hs : ¬ ix names s < names.length) : MapOf (D.put (key s) (.lit (.int .i32 (names.length : Int)))) (names ++ [s]) := by
  refine ⟨h.isMap.put _ _, fun t ht => ?_, fun t ht => ?_⟩
  · by_cases e : t = s
    · subst e
      rw [ix_append hs]
      exact ⟨Maps.has_put_same h.isMap (key_lit _) _, fun z => Maps.atKey_put_same h.isMap (key_lit _) _ _⟩
    · have hk : key t ≠ key s := fun e' => e (key_inj e')
      have hlt : ix names t < names.length := by
        rcases Nat.lt_or_ge (ix names t) names.length with hl | hl
        · exact hl
        · exact absurd ht ((ix_other e).2 (by omega))
      rw [(ix_other e).1 hlt]
      refine ⟨?_, fun z => ?_⟩
      · rw [Maps.has_put_other hk]; exact (h.hit t hlt).1
      · rw [Maps.atKey_put_other hk]; exact (h.hit t hlt).2 z
  · by_cases e : t = s
    · subst e
      rw [ix_append hs] at ht
      simp at ht
    · have hk : key t ≠ key s := fun e' => e (key_inj e')
      have hlt : ¬ ix names t < names.length := fun hl => ht (by rw [(ix_other e).1 hl]; simp; omega)
      rw [Maps.has_put_other hk]; exact h.miss t hlt
theorem Try.zero21 (w : World) : (zeroValue 21).run Try.prog w = .ok (.int .i32 0) w := by kernel_rfl
theorem Try.keyed9 : Maps.Keyed Try.prog 9 := Maps.string_keyed Try.underlying9
theorem look_id {W : World} {M n : Nat} {D : DataW Unit} {s : ByteArray} (hs : s.size ≤ maxLen) (h : W.ownsMap Try.prog 9 (plainElem Try.prog 21) M n D) {c : Int} {d : Bool}
    (hd : Maps.has D (key s) = d) (hc : D.atKey (key s) (.lit (.int .i32 0)) = .lit (.int .i32 c)) : (Instr.lookup 45 (.map (some M)) (.string s) true).run Try.prog W = .ok (.tuple #[.int .i32 c, .bool d]) W := by
  obtain ⟨v, ps, hrun, hv⟩ := h.look_ok Try.keyed9 Try.underlying45 (Try.zero21 W) (plainElem_int (H := Unit) Try.underlying21 (by decide)) (keyOf_string_mk Try.underlying9 hs)
  obtain ⟨c', rfl, hc', _⟩ := plainElem_int_inv Try.underlying21 hv
  simp only [Prod.mk.injEq] at hc'
  have e : c' = c := by
    have := hc'.1
    rw [show Lit.string s.data.toList = key s from rfl, hc] at this
    simpa using this.symm
  rw [hrun, show Lit.string s.data.toList = key s from rfl, hd, e]
theorem plain21 (k : Nat) (hk : k ≤ 4096) : plainElem (H := Unit) Try.prog 21 (.int .i32 k) = some (.lit (.int .i32 k), []) := by
  refine plainElem_int Try.underlying21 ?_
  simp [Lit.wf, IntKind.min, IntKind.max, IntKind.bits, IntKind.signed]
  omega

/-! ### The state of countDeepUsers' first loop -/
def i32 (x : Nat) : Value := .int .i32 x
structure RowsOk (w : World) (H : Nat) (rows : List Value) (E : List (Nat × Nat)) (vu : Value) : Prop where
  own : ∀ (i : Nat) (v : Value), rows[i]? = some v → w.ownsRow H 21 1 v (bl E i).length ((bl E i).map i32)
  sep : ∀ (i j : Nat) (v v' : Value) (b : Nat), i ≠ j → rows[i]? = some v → rows[j]? = some v' → v.ownBlock = some b → v'.ownBlock ≠ some b
  sepu : ∀ (i : Nat) (v : Value) (b : Nat), rows[i]? = some v → v.ownBlock = some b → vu.ownBlock ≠ some b
structure CS (w : World) (H mi bi bb bg : Nat) (g : Gr) (vu : Value) : Prop where
  hi : H ≤ mi ∧ H ≤ bi ∧ H ≤ bb ∧ H ≤ bg
  ids : w.heap[bi]? = some (.cells #[.map (some mi)] 45 (0, 0))
  map : ∃ D, w.ownsMap Try.prog 9 (plainElem Try.prog 21) mi g.names.length D ∧ MapOf D g.names
  below : ∃ ab cb rows, w.heap[bb]? = some (.cells #[.slice ab g.names.length cb] 46 (0, 0)) ∧ w.ownsRow H 49 1 (.slice ab g.names.length cb) g.names.length rows ∧ RowsOk w H rows g.E vu
  granted : ∃ ag cg, w.heap[bg]? = some (.cells #[.slice ag g.names.length cg] 38 (0, 0)) ∧ w.ownsRow H 4 1 (.slice ag g.names.length cg) g.names.length (g.gr.map .bool)
  users : w.ownsRow H 21 1 vu g.U.length (g.U.map i32)

theorem RowsOk.congr {w w' : World} {H : Nat} {rows : List Value} {E : List (Nat × Nat)} {vu : Value} (h : RowsOk w H rows E vu) (hk : ∀ (k : Nat) (cs : Array Value), w.heap[k]? = some (Obj.cells cs 21 (0, 0)) → w'.heap[k]? = w.heap[k]?) : RowsOk w' H rows E vu :=
  ⟨fun i v hv => ownsRow_congr (h.own i v hv) (fun g hg => by
    obtain ⟨cs, hcs⟩ := ownsRow_block (h.own i v hv) hg
    exact hk g cs hcs), h.sep, h.sepu⟩
theorem RowsOk.snoc {w : World} {H : Nat} {rows : List Value} {E : List (Nat × Nat)} {vu : Value} (h : RowsOk w H rows E vu) (hE : bl E rows.length = []) : RowsOk w H (rows ++ [.slice none 0 0]) E vu := by
  have hcase : ∀ (i : Nat) (v : Value), (rows ++ [.slice none 0 0])[i]? = some v → rows[i]? = some v ∨ (i = rows.length ∧ v = .slice none 0 0) := fun i v hv => by
    rw [List.getElem?_append] at hv
    split at hv
    · exact .inl hv
    · right
      rename_i hge
      cases hz : i - rows.length with
      | zero => simp [hz] at hv; exact ⟨by omega, hv.symm⟩
      | succ m => simp [hz] at hv
  refine ⟨fun i v hv => ?_, fun i j v v' b hij hi hj hb => ?_, fun i v b hi hb => ?_⟩
  · rcases hcase i v hv with hv | ⟨rfl, rfl⟩
    · exact h.own i v hv
    · rw [hE]; exact World.ownsRow_nil _ _ _ _
  · rcases hcase i v hi with hi | ⟨rfl, rfl⟩
    · rcases hcase j v' hj with hj | ⟨rfl, rfl⟩
      · exact h.sep i j v v' b hij hi hj hb
      · simp [Value.ownBlock]
    · simp [Value.ownBlock] at hb
  · rcases hcase i v hi with hi | ⟨rfl, rfl⟩
    · exact h.sepu i v b hi hb
    · simp [Value.ownBlock] at hb
/-- Where only new blocks are made and blocks that the state does not hold are written. -/
theorem CS.congr {w w' : World} {H mi bi bb bg : Nat} {g : Gr} {vu : Value} (h : CS w H mi bi bb bg g vu) (hk : ∀ k, k < w.heap.size → H ≤ k → w'.heap[k]? = w.heap[k]?) : CS w' H mi bi bb bg g vu := by
  have hk' : ∀ k o, H ≤ k → w.heap[k]? = some o → w'.heap[k]? = w.heap[k]? := fun k o hH ho => hk k (heap_lt ho) hH
  have hr : ∀ {e : TypeId} {v : Value} {n : Nat} {xs : List Value}, w.ownsRow H e 1 v n xs → w'.ownsRow H e 1 v n xs := fun hown => ownsRow_congr hown (fun gg hg => by
    have := hown.lt gg hg
    exact hk gg this.2 this.1)
  obtain ⟨D, hD, hM⟩ := h.map
  obtain ⟨ab, cb, rows, h1, h2, h3⟩ := h.below
  obtain ⟨ag, cg, h4, h5⟩ := h.granted
  refine ⟨h.hi, by rw [hk' bi _ h.hi.2.1 h.ids]; exact h.ids, ⟨D, ownsMap_congr hD (hk mi hD.lt h.hi.1), hM⟩, ⟨ab, cb, rows, by rw [hk' bb _ h.hi.2.2.1 h1]; exact h1, hr h2, ⟨fun i v hv => hr (h3.own i v hv), h3.sep, h3.sepu⟩⟩, ⟨ag, cg, by rw [hk' bg _ h.hi.2.2.2 h4]; exact h4, hr h5⟩, hr h.users⟩
end Go.Proofs.Qxb6601564a

import Derived.Test.Qxb6601564aB3
import Derived.Test.Qxb6601564aP2
namespace Go.Proofs.Qxb6601564a
open Go.RowKit Go.WideMaps
set_option linter.unusedVariables false

/-! ### The graph in memory, to be read -/
structure GA (w : World) (bb bg : Nat) (g : Gr) (au : Option Addr) : Prop where
  users : ∀ (i u : Nat), g.U[i]? = some u → ∃ q, au = some ⟨q, 0, none⟩ ∧ w.cell? ⟨q, i, none⟩ = some (i32 u)
  below : ∃ ab cb, w.cell? ⟨bb, 0, none⟩ = some (.slice ab g.names.length cb) ∧ ∀ i, i < g.names.length → ∃ qb ax cx, ab = some ⟨qb, 0, none⟩ ∧ w.cell? ⟨qb, i, none⟩ = some (.slice ax (bl g.E i).length cx) ∧ ∀ (j x : Nat), (bl g.E i)[j]? = some x → ∃ qx, ax = some ⟨qx, 0, none⟩ ∧ w.cell? ⟨qx, j, none⟩ = some (i32 x)
  granted : ∃ ag cg, w.cell? ⟨bg, 0, none⟩ = some (.slice ag g.names.length cg) ∧ ∀ (i : Nat) (b : Bool), g.gr[i]? = some b → ∃ q, ag = some ⟨q, 0, none⟩ ∧ w.cell? ⟨q, i, none⟩ = some (.bool b)
theorem GA.below' {w w' : World} {bb bg : Nat} {g : Gr} {au : Option Addr} (h : GA w bb bg g au) (hb : Below w.heap.size w w') : GA w' bb bg g au := by
  obtain ⟨h1, ⟨ab, cb, h2, h3⟩, ⟨ag, cg, h4, h5⟩⟩ := h
  refine ⟨fun i u hu => ?_, ⟨ab, cb, cell_below hb h2, fun i hi => ?_⟩, ⟨ag, cg, cell_below hb h4, fun i b hi => ?_⟩⟩
  · obtain ⟨q, e, hc⟩ := h1 i u hu
    exact ⟨q, e, cell_below hb hc⟩
  · obtain ⟨qb, ax, cx, e, hc, hr⟩ := h3 i hi
    refine ⟨qb, ax, cx, e, cell_below hb hc, fun j x hx => ?_⟩
    obtain ⟨qx, e', hc'⟩ := hr j x hx
    exact ⟨qx, e', cell_below hb hc'⟩
  · obtain ⟨q, e, hc⟩ := h5 i b hi
    exact ⟨q, e, cell_below hb hc⟩
/-- Out of an owned row: the address and the cell. -/
theorem own_cell {w : World} {H : Nat} {e : TypeId} {a : Option Addr} {n c : Nat} {xs : List Value} (h : w.ownsRow H e 1 (.slice a n c) n xs) {i : Nat} {v : Value} (hi : xs[i]? = some v) : ∃ q, a = some ⟨q, 0, none⟩ ∧ w.cell? ⟨q, i, none⟩ = some v ∧ w.frozen? ⟨q, i, none⟩ = false ∧ H ≤ q ∧ q < w.heap.size := by
  have hl : xs.length = n := by have := h.1; omega
  have hil : i < xs.length := (List.getElem?_eq_some_iff.1 hi).1
  obtain ⟨q, c', hv, h1, h2⟩ := h.form (by omega)
  obtain ⟨rfl, rfl⟩ : a = some ⟨q, 0, none⟩ ∧ c = c' := by simpa using hv
  exact ⟨q, rfl, by rw [h.cellAt i (by omega)]; exact hi, h.frozenAt i, h1, h2⟩
theorem CS.graph {w : World} {H mi bi bb bg : Nat} {g : Gr} {au : Option Addr} {cu : Nat} (h : CS w H mi bi bb bg g (.slice au g.U.length cu)) (hl : g.gr.length = g.names.length) : GA w bb bg g au := by
  obtain ⟨ab, cb, rows, b1, b2, b3⟩ := h.below
  obtain ⟨ag, cg, g1, g2⟩ := h.granted
  refine ⟨fun i u hu => ?_, ⟨ab, cb, cell_one b1, fun i hi => ?_⟩, ⟨ag, cg, cell_one g1, fun i b hi => ?_⟩⟩
  · obtain ⟨q, e, hc, _⟩ := own_cell h.users (i := i) (v := i32 u) (by simp [hu])
    exact ⟨q, e, hc⟩
  · have hrl : rows.length = g.names.length := by have := b2.1; omega
    have hx : rows[i]? = some (rows[i]'(by omega)) := List.getElem?_eq_getElem (by omega)
    obtain ⟨qb, e, hc, _⟩ := own_cell b2 hx
    obtain ⟨ax, cx, hsh⟩ := ownsRow_shape (b3.own i _ hx)
    have ho := b3.own i _ hx
    rw [hsh] at hc ho
    refine ⟨qb, ax, cx, e, hc, fun j x hj => ?_⟩
    obtain ⟨qx, e', hc', _⟩ := own_cell ho (i := j) (v := i32 x) (by simp [hj])
    exact ⟨qx, e', hc'⟩
  · obtain ⟨q, e, hc, _⟩ := own_cell g2 (i := i) (v := .bool b) (by simp [hi])
    exact ⟨q, e, hc⟩

/-! ### What the walk itself writes: the marks, the level, the next level -/
structure MB (w1 wr : World) (H2 N : Nat) (rs : List Nat) (al : Option Addr) (L : List Nat) (cl : Nat) (an : Option Addr) (M : List Nat) (cn : Nat) : Prop where
  bel : Below H2 w1 wr
  hsz : H2 < wr.heap.size
  rch : wr.ownsRow H2 21 1 (.slice (some ⟨H2, 0, none⟩) N N) N (rs.map i32)
  lev : wr.ownsRow (H2 + 1) 21 1 (.slice al L.length cl) L.length (L.map i32)
  nxt : wr.ownsRow (H2 + 1) 21 1 (.slice an M.length cn) M.length (M.map i32)
  sep : ∀ b, (Value.slice al L.length cl).ownBlock = some b → (Value.slice an M.length cn).ownBlock ≠ some b
section
variable {w1 wr : World} {H2 N : Nat} {rs : List Nat} {al : Option Addr} {L : List Nat} {cl : Nat} {an : Option Addr} {M : List Nat} {cn : Nat}
theorem MB.swap (h : MB w1 wr H2 N rs al L cl an M cn) : MB w1 wr H2 N rs an M cn al L cl :=
  ⟨h.bel, h.hsz, h.rch, h.nxt, h.lev, fun b hb hb' => h.sep b hb' hb⟩
theorem MB.alloc (h : MB w1 wr H2 N rs al L cl an M cn) (o : Obj) : MB w1 (wr.alloc o) H2 N rs al L cl an M cn :=
  ⟨h.bel.alloc (by have := h.hsz; omega) o, by have := h.hsz; simp; omega, h.rch.alloc o, h.lev.alloc o, h.nxt.alloc o, h.sep⟩
/-- 'reached[r] = m'. -/
theorem MB.mark (h : MB w1 wr H2 N rs al L cl an M cn) (r m : Nat) : MB w1 (wr.setCell ⟨H2, r, none⟩ (i32 m)) H2 N (rs.set r m) al L cl an M cn := by
  have ko : ∀ {v : Value} {n : Nat} {xs : List Value}, wr.ownsRow (H2 + 1) 21 1 v n xs → (wr.setCell ⟨H2, r, none⟩ (i32 m)).ownsRow (H2 + 1) 21 1 v n xs := fun ho => ownsRow_congr ho (fun gg hgg => by
    have := (ho.lt gg hgg).1
    exact Below.heap_setCell _ _ _ _ (by show gg ≠ H2; omega))
  refine ⟨h.bel.setCell (Nat.le_refl _) _, by have := h.hsz; simpa [World.setCell] using this, ?_, ko h.lev, ko h.nxt, h.sep⟩
  rw [List.map_set]
  exact (h.rch.stored r (i32 m)).1
theorem ownsRow_cut0 {w : World} {H : Nat} {e : TypeId} {a : Option Addr} {n c : Nat} {xs : List Value} (h : w.ownsRow H e 1 (.slice a n c) n xs) : w.ownsRow H e 1 (.slice a 0 c) 0 [] ∧ ((a = none ∧ c = 0) ∨ ∃ q, a = some ⟨q, 0, none⟩) := by
  rcases h.2 with ⟨hv, _⟩ | ⟨g, cap, cur, hv, hb, hh, h1, h2, h3, h4⟩
  · obtain ⟨rfl, rfl, rfl⟩ : a = none ∧ n = 0 ∧ c = 0 := by simpa using hv
    exact ⟨World.ownsRow_nil _ _ _ _, .inl ⟨rfl, rfl⟩⟩
  · obtain ⟨rfl, rfl⟩ : a = some ⟨g, 0, none⟩ ∧ c = cap := by simpa using hv
    exact ⟨⟨by simp, .inr ⟨g, c, cur, rfl, hb, hh, Nat.zero_le _, h2, h3, by simp⟩⟩, .inr ⟨g, rfl⟩⟩
/-- 'level[:0]'. -/
theorem MB.cutL (h : MB w1 wr H2 N rs al L cl an M cn) : MB w1 wr H2 N rs al [] cl an M cn :=
  ⟨h.bel, h.hsz, h.rch, (ownsRow_cut0 h.lev).1, h.nxt, fun b hb => h.sep b (by rw [Value.ownBlock_slice] at hb ⊢; exact hb)⟩
/-- 'level = append(level, x)'. -/
theorem MB.appL (h : MB w1 wr H2 N rs al L cl an M cn) {x q c : Nat} {w2 : World} (hown : w2.ownsRow (H2 + 1) 21 1 (.slice (some ⟨q, 0, none⟩) (L.length + 1) c) (L.length + 1) (L.map i32 ++ [i32 x]))
    (hg : wr.grownBy w2 (Value.slice al L.length cl).ownBlock) (hat : (Value.slice al L.length cl).ownBlock = some q ∨ q = wr.heap.size) : MB w1 w2 H2 N rs (some ⟨q, 0, none⟩) (L ++ [x]) c an M cn := by
  have hrow : ∀ b, (Value.slice al L.length cl).ownBlock = some b → H2 + 1 ≤ b := fun b hb => (h.lev.lt b hb).1
  refine ⟨h.bel.grown hg (by have := h.hsz; omega) (fun k hk => by have := hrow k hk; omega), Nat.lt_of_lt_of_le h.hsz hg.size, ?_, ?_, ?_, ?_⟩
  · refine h.rch.kept hg (.inr ?_)
    intro e
    have : (Value.slice al L.length cl).ownBlock = some H2 := by rw [← e]; rfl
    have := hrow _ this
    omega
  · rw [List.length_append, List.map_append]
    exact hown
  · refine h.nxt.kept hg ?_
    cases hv : (Value.slice an M.length cn).ownBlock with
    | none => exact .inl rfl
    | some b' =>
      right
      intro e
      exact h.sep b' e.symm hv
  · intro b hb
    have hbq : b = q := by simpa [Value.ownBlock] using hb.symm
    subst hbq
    rcases hat with hat | hat
    · exact h.sep b hat
    · intro e
      have := (h.nxt.lt b e).2
      omega
/-- 'next = append(next, x)'. -/
theorem MB.appN (h : MB w1 wr H2 N rs al L cl an M cn) {x q c : Nat} {w2 : World} (hown : w2.ownsRow (H2 + 1) 21 1 (.slice (some ⟨q, 0, none⟩) (M.length + 1) c) (M.length + 1) (M.map i32 ++ [i32 x]))
    (hg : wr.grownBy w2 (Value.slice an M.length cn).ownBlock) (hat : (Value.slice an M.length cn).ownBlock = some q ∨ q = wr.heap.size) : MB w1 w2 H2 N rs al L cl (some ⟨q, 0, none⟩) (M ++ [x]) c :=
  (h.swap.appL hown hg hat).swap
theorem MB.cutN (h : MB w1 wr H2 N rs al L cl an M cn) : MB w1 wr H2 N rs al L cl an [] cn := h.swap.cutL.swap
end
/-- 'xs[:0]' of a slice that the call owns. -/
theorem run_cut0 (w : World) (a : Option Addr) (n c : Nat) (h : (a = none ∧ c = 0) ∨ ∃ q, a = some ⟨q, 0, none⟩) : (Instr.slice 49 (.slice a n c) none (some (.int .i64 0)) none).run Try.prog w = .ok (.slice a 0 c) w := by
  rw [run_slice_h w 49 a n c (by exact Try.underlying49) .i64 0 (by omega) (by omega)]
  rcases h with ⟨rfl, rfl⟩ | ⟨q, rfl⟩
  · simp [sliced, go_sem]
  · simp [sliced, go_sem]
end Go.Proofs.Qxb6601564a

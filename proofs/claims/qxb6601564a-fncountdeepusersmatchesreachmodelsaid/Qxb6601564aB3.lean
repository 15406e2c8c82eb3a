import Derived.Test.Qxb6601564aB2
namespace Go.Proofs.Qxb6601564a
open Go.RowKit Go.WideMaps
set_option linter.unusedVariables false

/-- The map of roles: asked in whatever later world it says 'role'. -/
def RoleAt (w : World) (m : Option Nat) (role : ByteArray → Bool) : Prop :=
  ∀ w', Below w.heap.size w w' → ∀ s : ByteArray, s.size ≤ maxLen → (Instr.lookup 23 (.map m) (.string s) false).run Try.prog w' = .ok (.bool (role s)) w'
theorem RoleAt.below {w w1 : World} {m : Option Nat} {role : ByteArray → Bool} (h : RoleAt w m role) (hb : Below w.heap.size w w1) : RoleAt w1 m role :=
  fun w' hb' s hs => h w' (hb.trans (hb'.mono hb.size)) s hs
def rcOf (kd : Nat → ByteArray) (fs : Nat → Nat → ByteArray) (i : Nat) : Rc := ⟨isP (kd i), fs i 0, fs i 1⟩
/-- The number that both functions answer. -/
def CountIs (n : Nat) (kd : Nat → ByteArray) (fs : Nat → Nat → ByteArray) (role : ByteArray → Bool) (e : Ending) : Prop :=
  ∃ c : Nat, e = .returned (.int .i64 c) ∧ IsCnt (fun u => (Gr.upto role (rcOf kd fs) n).us[u]? = some true ∧ deepP (Gr.upto role (rcOf kd fs) n) u) c

/-! ### What each statement of the first loop does to the state -/
theorem CS.alloc {w : World} {H mi bi bb bg : Nat} {g : Gr} {vu : Value} (h : CS w H mi bi bb bg g vu) (o : Obj) : CS (w.alloc o) H mi bi bb bg g vu :=
  h.congr (fun k hk _ => Below.heap_alloc w o k hk)
theorem CS.same {w : World} {H mi bi bb bg : Nat} {g g' : Gr} {vu : Value} (h : CS w H mi bi bb bg g vu) (h1 : g'.names = g.names) (h2 : g'.gr = g.gr) (h3 : g'.E = g.E) (h4 : g'.U = g.U) : CS w H mi bi bb bg g' vu := by
  obtain ⟨D, hD, hM⟩ := h.map
  obtain ⟨ab, cb, rows, b1, b2, b3⟩ := h.below
  obtain ⟨ag, cg, g1, g2⟩ := h.granted
  exact ⟨h.hi, h.ids, ⟨D, by rw [h1]; exact hD, by rw [h1]; exact hM⟩, ⟨ab, cb, rows, by rw [h1]; exact b1, by rw [h1]; exact b2, by rw [h3]; exact b3⟩, ⟨ag, cg, by rw [h1]; exact g1, by rw [h1, h2]; exact g2⟩, by rw [h4]; exact h.users⟩

/-- 'granted[a] = true'. -/
theorem CS.grant {w : World} {H mi bi bb bg : Nat} {g : Gr} {vu : Value} (h : CS w H mi bi bb bg g vu) (a : Nat) (ha : a < g.names.length) (hl : g.gr.length = g.names.length) :
    ∃ q cg x, w.cell? ⟨bg, 0, none⟩ = some (.slice (some ⟨q, 0, none⟩) g.names.length cg) ∧ w.cell? ⟨q, a, none⟩ = some x ∧ w.frozen? ⟨q, a, none⟩ = false ∧ H ≤ q ∧ CS (w.setCell ⟨q, a, none⟩ (.bool true)) H mi bi bb bg { g with gr := g.gr.set a true } vu := by
  obtain ⟨D, hD, hM⟩ := h.map
  obtain ⟨ab, cb, rows, b1, b2, b3⟩ := h.below
  obtain ⟨ag, cg, g1, g2⟩ := h.granted
  obtain ⟨q, cg', hv, hq1, hq2⟩ := g2.form (by omega)
  obtain ⟨rfl, rfl⟩ : ag = some ⟨q, 0, none⟩ ∧ cg = cg' := by simpa using hv
  have hx : a < (g.gr.map Value.bool).length := by simp; omega
  obtain ⟨csq, hcsq⟩ := ownsRow_block g2 (g := q) rfl
  have kt : ∀ (k : Nat) (cs : Array Value) (t : TypeId), t ≠ 4 → w.heap[k]? = some (.cells cs t (0, 0)) → (w.setCell ⟨q, a, none⟩ (.bool true)).heap[k]? = some (.cells cs t (0, 0)) := fun k cs t ht hk => set_keep hk _ _ (ne_of_types hk hcsq ht)
  have ko : ∀ {e : TypeId} {v : Value} {n : Nat} {xs : List Value}, e ≠ 4 → w.ownsRow H e 1 v n xs → (w.setCell ⟨q, a, none⟩ (.bool true)).ownsRow H e 1 v n xs := fun he ho => ownsRow_congr ho (fun gg hgg => by
    obtain ⟨cs, hcs⟩ := ownsRow_block ho hgg
    rw [kt _ _ _ he hcs, hcs])
  refine ⟨q, cg, (g.gr.map Value.bool)[a], cell_one g1, ?_, g2.frozenAt a, hq1, ?_⟩
  · rw [g2.cellAt a (by omega), List.getElem?_eq_getElem hx]
  · refine ⟨h.hi, kt _ _ _ (by decide) h.ids, ⟨D, ?_, hM⟩, ⟨ab, cb, rows, kt _ _ _ (by decide) b1, ko (by decide) b2, b3.congr (fun k cs hk => by rw [kt _ _ _ (by decide) hk, hk])⟩, ⟨some ⟨q, 0, none⟩, cg, kt _ _ _ (by decide) g1, ?_⟩, ko (by decide) h.users⟩
    · obtain ⟨es, cl, hes, _⟩ := id hD
      exact ownsMap_congr hD (Below.heap_setCell _ _ _ _ (fun e => ne_of_map hcsq hes e.symm))
    · have := (g2.stored a (.bool true)).1
      rw [List.map_set]
      exact this

/-- 'users = append(users, from)': w1 is the world with the element's own block, w2 the world behind the append. -/
theorem CS.user {w1 w2 : World} {H mi bi bb bg : Nat} {g : Gr} {vu : Value} (h : CS w1 H mi bi bb bg g vu) {a q c : Nat} (hown : w2.ownsRow H 21 1 (.slice (some ⟨q, 0, none⟩) (g.U.length + 1) c) (g.U.length + 1) (g.U.map i32 ++ [i32 a]))
    (hg : w1.grownBy w2 vu.ownBlock) (hat : vu.ownBlock = some q ∨ q = w1.heap.size) :
    CS w2 H mi bi bb bg { g with U := g.U ++ [a] } (.slice (some ⟨q, 0, none⟩) (g.U.length + 1) c) := by
  obtain ⟨D, hD, hM⟩ := h.map
  obtain ⟨ab, cb, rows, b1, b2, b3⟩ := h.below
  obtain ⟨ag, cg, g1, g2⟩ := h.granted
  have kt : ∀ (k : Nat) (cs : Array Value) (t : TypeId), t ≠ 21 → w1.heap[k]? = some (.cells cs t (0, 0)) → w2.heap[k]? = some (.cells cs t (0, 0)) := fun k cs t ht hk => kept_types h.users hg hk ht
  have ko : ∀ {e : TypeId} {v : Value} {n : Nat} {xs : List Value}, e ≠ 21 → w1.ownsRow H e 1 v n xs → w2.ownsRow H e 1 v n xs := fun he ho => ownsRow_congr ho (fun gg hgg => by
    obtain ⟨cs, hcs⟩ := ownsRow_block ho hgg
    rw [kt _ _ _ he hcs, hcs])
  refine ⟨h.hi, kt _ _ _ (by decide) h.ids, ⟨D, ?_, hM⟩, ⟨ab, cb, rows, kt _ _ _ (by decide) b1, ko (by decide) b2, ⟨fun i v hv => ?_, b3.sep, fun i v b hv hb => ?_⟩⟩, ⟨ag, cg, kt _ _ _ (by decide) g1, ko (by decide) g2⟩, ?_⟩
  · obtain ⟨es, cl, hes, _⟩ := id hD
    exact ownsMap_congr hD (kept_map h.users hg hes)
  · refine ownsRow_congr (b3.own i v hv) (fun gg hgg => ?_)
    have hlt := ((b3.own i v hv).lt gg hgg).2
    exact hg.block gg hlt (fun e => b3.sepu i v gg hv hgg e.symm)
  · intro e
    have hq : q = b := by simpa [Value.ownBlock] using e
    subst hq
    have hlt := ((b3.own i v hv).lt q hb).2
    rcases hat with hat | hat
    · exact b3.sepu i v q hv hb hat
    · omega
  · show World.ownsRow _ _ _ _ _ (g.U ++ [a]).length ((g.U ++ [a]).map i32)
    rw [List.length_append, List.map_append]
    exact hown

/-- 'below[a] = append(below[a], b)': w1 is the world with the element's own block, w2 the world behind the append; then the store. -/
theorem CS.rowAt {w : World} {H mi bi bb bg : Nat} {g : Gr} {vu : Value} (h : CS w H mi bi bb bg g vu) (a : Nat) (ha : a < g.names.length) :
    ∃ qb cb rows x, w.cell? ⟨bb, 0, none⟩ = some (.slice (some ⟨qb, 0, none⟩) g.names.length cb) ∧ w.cell? ⟨qb, a, none⟩ = some x ∧ rows[a]? = some x ∧ w.frozen? ⟨qb, a, none⟩ = false ∧ H ≤ qb ∧ (∃ ax cx, x = .slice ax (bl g.E a).length cx) ∧ w.ownsRow H 21 1 x (bl g.E a).length ((bl g.E a).map i32) ∧
      w.heap[bb]? = some (.cells #[.slice (some ⟨qb, 0, none⟩) g.names.length cb] 46 (0, 0)) ∧ w.ownsRow H 49 1 (.slice (some ⟨qb, 0, none⟩) g.names.length cb) g.names.length rows ∧ RowsOk w H rows g.E vu := by
  obtain ⟨ab, cb, rows, b1, b2, b3⟩ := h.below
  obtain ⟨q, cb', hv, hq1, hq2⟩ := b2.form (by omega)
  obtain ⟨rfl, rfl⟩ : ab = some ⟨q, 0, none⟩ ∧ cb = cb' := by simpa using hv
  have hrl : rows.length = g.names.length := by have := b2.1; omega
  have hx : rows[a]? = some (rows[a]'(by omega)) := List.getElem?_eq_getElem (by omega)
  exact ⟨q, cb, rows, rows[a]'(by omega), cell_one b1, by rw [b2.cellAt a (by omega)]; exact hx, hx, b2.frozenAt a, hq1, ownsRow_shape (b3.own a _ hx), b3.own a _ hx, b1, b2, b3⟩

theorem CS.row {w1 w2 : World} {H mi bi bb bg : Nat} {g : Gr} {vu : Value} (h : CS w1 H mi bi bb bg g vu) {a b qb cb q c : Nat} {rows : List Value} {x : Value}
    (b1 : w1.heap[bb]? = some (.cells #[.slice (some ⟨qb, 0, none⟩) g.names.length cb] 46 (0, 0))) (b2 : w1.ownsRow H 49 1 (.slice (some ⟨qb, 0, none⟩) g.names.length cb) g.names.length rows) (b3 : RowsOk w1 H rows g.E vu)
    (hx : rows[a]? = some x) (hown : w2.ownsRow H 21 1 (.slice (some ⟨q, 0, none⟩) ((bl g.E a).length + 1) c) ((bl g.E a).length + 1) ((bl g.E a).map i32 ++ [i32 b]))
    (hg : w1.grownBy w2 x.ownBlock) (hat : x.ownBlock = some q ∨ q = w1.heap.size) :
    CS (w2.setCell ⟨qb, a, none⟩ (.slice (some ⟨q, 0, none⟩) ((bl g.E a).length + 1) c)) H mi bi bb bg { g with E := g.E ++ [(a, b)] } vu := by
  obtain ⟨D, hD, hM⟩ := h.map
  obtain ⟨ag, cg, g1, g2⟩ := h.granted
  have hxo := b3.own a x hx
  have kt0 : ∀ (k : Nat) (cs : Array Value) (t : TypeId), t ≠ 21 → w1.heap[k]? = some (.cells cs t (0, 0)) → w2.heap[k]? = some (.cells cs t (0, 0)) := fun k cs t ht hk => kept_types hxo hg hk ht
  obtain ⟨csb, hcsb⟩ := ownsRow_block b2 (g := qb) rfl
  have hcsb2 := kt0 _ _ _ (by decide) hcsb
  generalize hV : Value.slice (some ⟨q, 0, none⟩) ((bl g.E a).length + 1) c = V at *
  have kt : ∀ (k : Nat) (cs : Array Value) (t : TypeId), t ≠ 21 → t ≠ 49 → w1.heap[k]? = some (.cells cs t (0, 0)) → (w2.setCell ⟨qb, a, none⟩ V).heap[k]? = some (.cells cs t (0, 0)) := fun k cs t h1 h2 hk => set_keep (kt0 k cs t h1 hk) _ _ (ne_of_types (kt0 k cs t h1 hk) hcsb2 h2)
  have ko : ∀ {e : TypeId} {v : Value} {n : Nat} {xs : List Value}, e ≠ 21 → e ≠ 49 → w1.ownsRow H e 1 v n xs → (w2.setCell ⟨qb, a, none⟩ V).ownsRow H e 1 v n xs := fun he he' ho => ownsRow_congr ho (fun gg hgg => by
    obtain ⟨cs, hcs⟩ := ownsRow_block ho hgg
    rw [kt _ _ _ he he' hcs, hcs])
  -- a row of type 21 other than x's own
  have k21 : ∀ {v : Value} {n : Nat} {xs : List Value}, w1.ownsRow H 21 1 v n xs → (∀ b', v.ownBlock = some b' → x.ownBlock ≠ some b') → (w2.setCell ⟨qb, a, none⟩ V).ownsRow H 21 1 v n xs := fun {v n xs} ho hne => ownsRow_congr ho (fun gg hgg => by
    obtain ⟨cs, hcs⟩ := ownsRow_block ho hgg
    have h2 : w2.heap[gg]? = w1.heap[gg]? := hg.block gg (heap_lt hcs) (fun e => hne gg hgg e.symm)
    rw [set_keep (h2.trans hcs) _ _ (ne_of_types (h2.trans hcs) hcsb2 (by decide)), hcs])
  have hal : a < rows.length := (List.getElem?_eq_some_iff.1 hx).1
  have hVb : V.ownBlock = some q := by rw [← hV]; rfl
  have hcase : ∀ (i : Nat) (v : Value), (rows.set a V)[i]? = some v → (i = a ∧ v = V) ∨ (i ≠ a ∧ rows[i]? = some v) := fun i v hv => by
    by_cases e : i = a
    · subst e; rw [List.getElem?_set_self hal] at hv; exact .inl ⟨rfl, (Option.some.inj hv).symm⟩
    · rw [List.getElem?_set_ne (fun e' => e e'.symm)] at hv; exact .inr ⟨e, hv⟩
  have hfar : ∀ (i : Nat) (v : Value) (b' : Nat), i ≠ a → rows[i]? = some v → v.ownBlock = some b' → b' ≠ q := fun i v b' hi hv hb e => by
    subst e
    rcases hat with hat | hat
    · exact b3.sep i a v x b' hi hv hx hb hat
    · have := ((b3.own i v hv).lt b' hb).2; omega
  refine ⟨h.hi, kt _ _ _ (by decide) (by decide) h.ids, ⟨D, ?_, hM⟩, ⟨some ⟨qb, 0, none⟩, cb, rows.set a V, kt _ _ _ (by decide) (by decide) b1, ?_, ⟨fun i v hv => ?_, fun i j v v' b' hij hi hj hb => ?_, fun i v b' hi hb => ?_⟩⟩, ⟨ag, cg, kt _ _ _ (by decide) (by decide) g1, ko (by decide) (by decide) g2⟩, ?_⟩
  · obtain ⟨es, cl, hes, _⟩ := id hD
    have h2 : w2.heap[mi]? = w1.heap[mi]? := kept_map hxo hg hes
    refine ownsMap_congr hD ?_
    rw [Below.heap_setCell _ _ _ _ (fun e => ne_of_map hcsb2 (h2.trans hes) e.symm)]
    exact h2
  · have h2 : w2.ownsRow H 49 1 (.slice (some ⟨qb, 0, none⟩) g.names.length cb) g.names.length rows := ownsRow_congr b2 (fun gg hgg => by
      obtain ⟨cs, hcs⟩ := ownsRow_block b2 hgg
      rw [kt0 _ _ _ (by decide) hcs, hcs])
    exact (h2.stored a V).1
  · rcases hcase i v hv with ⟨rfl, rfl⟩ | ⟨hi, hv⟩
    · have hbl : bl (g.E ++ [(i, b)]) i = bl g.E i ++ [b] := by rw [bl_snoc, if_pos rfl]
      show World.ownsRow _ H 21 1 _ (bl (g.E ++ [(i, b)]) i).length ((bl (g.E ++ [(i, b)]) i).map i32)
      rw [hbl, List.length_append, List.map_append]
      refine ownsRow_congr hown (fun gg hgg => ?_)
      obtain ⟨cs, hcs⟩ := ownsRow_block hown hgg
      rw [set_keep hcs _ _ (ne_of_types hcs hcsb2 (by decide)), hcs]
    · have hbl : bl (g.E ++ [(a, b)]) i = bl g.E i := by rw [bl_snoc, if_neg (fun e => hi e.symm)]
      show World.ownsRow _ H 21 1 v (bl (g.E ++ [(a, b)]) i).length ((bl (g.E ++ [(a, b)]) i).map i32)
      rw [hbl]
      exact k21 (b3.own i v hv) (fun b' hb' => b3.sep i a v x b' hi hv hx hb')
  · rcases hcase i v hi with ⟨rfl, rfl⟩ | ⟨hi', hi2⟩
    · rcases hcase j v' hj with ⟨rfl, rfl⟩ | ⟨hj', hj⟩
      · exact absurd rfl hij
      · intro e
        rw [hVb] at hb
        obtain rfl := Option.some.inj hb
        exact hfar j v' q hj' hj e rfl
    · rcases hcase j v' hj with ⟨rfl, rfl⟩ | ⟨hj', hj⟩
      · intro e
        rw [hVb] at e
        exact hfar i v b' hi' hi2 hb (Option.some.inj e).symm
      · exact b3.sep i j v v' b' hij hi2 hj hb
  · rcases hcase i v hi with ⟨rfl, rfl⟩ | ⟨hi', hi⟩
    · rw [hVb] at hb
      obtain rfl := Option.some.inj hb
      rcases hat with hat | hat
      · exact b3.sepu i x q hx hat
      · intro e
        have := (h.users.lt q e).2
        omega
    · exact b3.sepu i v b' hi hb
  · exact k21 h.users (fun b' hb' e => b3.sepu a x b' hx e hb')
end Go.Proofs.Qxb6601564a

import Derived.Test.Qxb6602276aA5
namespace Go.Proofs.Qxb6602276a
open Go.RowKit
set_option linter.unusedVariables false

section
variable {Pr : Program} {ops : Array Oper} {Q : Exit → Act → World → Prop} {K : Act → World → Prop}
theorem wpOp_val {i : Nat} {o : Oper} {a : Act} {w w' : World} {v : Value} (ho : ops[i]? = some o) (hg : o.guard = none) (hrun : (execOp a.eval o).run Pr w = .ok (.value v) w') (hK : K (a.put o.dst v) w') : wpOp Pr ops Q i K a w := by
  unfold wpOp
  rw [ho]
  simp only [Region.wanted, hg, if_true]
  left
  unfold Oper.wp
  rw [hrun]
  exact hK
theorem wpOp_wp {i : Nat} {o : Oper} {a : Act} {w : World} (ho : ops[i]? = some o) (hg : o.guard = none) (h : o.wp Pr a w K Q) : wpOp Pr ops Q i K a w := by
  unfold wpOp
  rw [ho]
  simp only [Region.wanted, hg, if_true]
  exact .inl h
theorem wpOp_skip {i : Nat} {o : Oper} {a : Act} {w w' : World} (ho : ops[i]? = some o) (hg : o.guard = none) (hrun : (execOp a.eval o).run Pr w = .ok .skip w') (hK : K (a.put o.dst undef) w') : wpOp Pr ops Q i K a w := by
  unfold wpOp
  rw [ho]
  simp only [Region.wanted, hg, if_true]
  left
  unfold Oper.wp
  rw [hrun]
  exact hK
end

/-- The six rows of zzLayoutOf. -/
def six (n g0 g1 g2 g3 g4 gs : Nat) (st : Nat → Bool) (kd tx af ta sk : Nat → Int) : List Rw :=
  [⟨4, some ⟨g0, 0, none⟩, n, mapR n (fun p => .bool (st p))⟩, ⟨3, some ⟨g1, 0, none⟩, n, mapR n (fun p => .int .i64 (kd p))⟩, ⟨3, some ⟨g2, 0, none⟩, n, mapR n (fun p => .int .i64 (tx p))⟩,
   ⟨3, some ⟨g3, 0, none⟩, n, mapR n (fun p => .int .i64 (af p))⟩, ⟨3, some ⟨g4, 0, none⟩, n, mapR n (fun p => .int .i64 (ta p))⟩, ⟨3, some ⟨gs, 0, none⟩, n, mapR n (fun p => .int .i64 (sk p))⟩]
/-- The five slices of the struct. -/
def fiveS (n g0 g1 g2 g3 g4 : Nat) : Array Value := #[.slice (some ⟨g0, 0, none⟩) n n, .slice (some ⟨g1, 0, none⟩) n n, .slice (some ⟨g2, 0, none⟩) n n, .slice (some ⟨g3, 0, none⟩) n n, .slice (some ⟨g4, 0, none⟩) n n]
theorem six_mk {w : World} {H n g0 g1 g2 g3 g4 gs : Nat} {st : Nat → Bool} {kd tx af ta sk : Nat → Int}
    (o0 : w.ownsRow H 4 1 (.slice (some ⟨g0, 0, none⟩) n n) n (mapR n (fun p => .bool (st p)))) (o1 : w.ownsRow H 3 1 (.slice (some ⟨g1, 0, none⟩) n n) n (mapR n (fun p => .int .i64 (kd p)))) (o2 : w.ownsRow H 3 1 (.slice (some ⟨g2, 0, none⟩) n n) n (mapR n (fun p => .int .i64 (tx p))))
    (o3 : w.ownsRow H 3 1 (.slice (some ⟨g3, 0, none⟩) n n) n (mapR n (fun p => .int .i64 (af p)))) (o4 : w.ownsRow H 3 1 (.slice (some ⟨g4, 0, none⟩) n n) n (mapR n (fun p => .int .i64 (ta p)))) (o5 : w.ownsRow H 3 1 (.slice (some ⟨gs, 0, none⟩) n n) n (mapR n (fun p => .int .i64 (sk p))))
    (hd : [g0, g1, g2, g3, g4, gs].Nodup) : MS w H (six n g0 g1 g2 g3 g4 gs st kd tx af ta sk) := by
  refine ⟨fun i r hr => ?_, fun i j r r' hij hr hr' => ?_⟩
  · obtain rfl | rfl | rfl | rfl | rfl | rfl | hi : i = 0 ∨ i = 1 ∨ i = 2 ∨ i = 3 ∨ i = 4 ∨ i = 5 ∨ 6 ≤ i := by omega
    · obtain rfl := Option.some.inj hr; simp only [mapR_length]; exact o0
    · obtain rfl := Option.some.inj hr; simp only [mapR_length]; exact o1
    · obtain rfl := Option.some.inj hr; simp only [mapR_length]; exact o2
    · obtain rfl := Option.some.inj hr; simp only [mapR_length]; exact o3
    · obtain rfl := Option.some.inj hr; simp only [mapR_length]; exact o4
    · obtain rfl := Option.some.inj hr; simp only [mapR_length]; exact o5
    · rw [List.getElem?_eq_none (by simpa [six] using hi)] at hr; simp at hr
  · have key : ∀ (i : Nat) (r : Rw), (six n g0 g1 g2 g3 g4 gs st kd tx af ta sk)[i]? = some r → r.val.ownBlock = [g0, g1, g2, g3, g4, gs][i]? := by
      intro i r hr
      obtain rfl | rfl | rfl | rfl | rfl | rfl | hi : i = 0 ∨ i = 1 ∨ i = 2 ∨ i = 3 ∨ i = 4 ∨ i = 5 ∨ 6 ≤ i := by omega
      · obtain rfl := Option.some.inj hr; rfl
      · obtain rfl := Option.some.inj hr; rfl
      · obtain rfl := Option.some.inj hr; rfl
      · obtain rfl := Option.some.inj hr; rfl
      · obtain rfl := Option.some.inj hr; rfl
      · obtain rfl := Option.some.inj hr; rfl
      · rw [List.getElem?_eq_none (by simpa [six] using hi)] at hr; simp at hr
    intro b hb hb'
    rw [key i r hr] at hb
    rw [key j r' hr'] at hb'
    have hil : i < [g0, g1, g2, g3, g4, gs].length := (List.getElem?_eq_some_iff.1 hb).1
    exact hij ((List.getElem?_inj hil hd).1 (hb.trans hb'.symm))
theorem six_cells {w : World} {H n g0 g1 g2 g3 g4 gs : Nat} {st : Nat → Bool} {kd tx af ta sk : Nat → Int} (h : MS w H (six n g0 g1 g2 g3 g4 gs st kd tx af ta sk)) {p : Nat} (hp : p < n) :
    (w.cell? ⟨g0, p, none⟩ = some (.bool (st p)) ∧ w.frozen? ⟨g0, p, none⟩ = false ∧ H ≤ g0) ∧ (w.cell? ⟨g1, p, none⟩ = some (.int .i64 (kd p)) ∧ w.frozen? ⟨g1, p, none⟩ = false ∧ H ≤ g1) ∧ (w.cell? ⟨g2, p, none⟩ = some (.int .i64 (tx p)) ∧ w.frozen? ⟨g2, p, none⟩ = false ∧ H ≤ g2) ∧ (w.cell? ⟨g3, p, none⟩ = some (.int .i64 (af p)) ∧ w.frozen? ⟨g3, p, none⟩ = false ∧ H ≤ g3) ∧ (w.cell? ⟨g4, p, none⟩ = some (.int .i64 (ta p)) ∧ w.frozen? ⟨g4, p, none⟩ = false ∧ H ≤ g4) ∧ (w.cell? ⟨gs, p, none⟩ = some (.int .i64 (sk p)) ∧ w.frozen? ⟨gs, p, none⟩ = false ∧ H ≤ gs) := by
  refine ⟨?_, ?_, ?_, ?_, ?_, ?_⟩
  · obtain ⟨q, h1, h2, h3, h4, h5⟩ := h.cell (k := 0) (r := ⟨4, some ⟨g0, 0, none⟩, n, mapR n (fun p => .bool (st p))⟩) rfl (i := p) (v := .bool (st p)) (mapR_get hp)
    obtain rfl : g0 = q := by simpa using h1
    exact ⟨h2, h3, h4⟩
  · obtain ⟨q, h1, h2, h3, h4, h5⟩ := h.cell (k := 1) (r := ⟨3, some ⟨g1, 0, none⟩, n, mapR n (fun p => .int .i64 (kd p))⟩) rfl (i := p) (v := .int .i64 (kd p)) (mapR_get hp)
    obtain rfl : g1 = q := by simpa using h1
    exact ⟨h2, h3, h4⟩
  · obtain ⟨q, h1, h2, h3, h4, h5⟩ := h.cell (k := 2) (r := ⟨3, some ⟨g2, 0, none⟩, n, mapR n (fun p => .int .i64 (tx p))⟩) rfl (i := p) (v := .int .i64 (tx p)) (mapR_get hp)
    obtain rfl : g2 = q := by simpa using h1
    exact ⟨h2, h3, h4⟩
  · obtain ⟨q, h1, h2, h3, h4, h5⟩ := h.cell (k := 3) (r := ⟨3, some ⟨g3, 0, none⟩, n, mapR n (fun p => .int .i64 (af p))⟩) rfl (i := p) (v := .int .i64 (af p)) (mapR_get hp)
    obtain rfl : g3 = q := by simpa using h1
    exact ⟨h2, h3, h4⟩
  · obtain ⟨q, h1, h2, h3, h4, h5⟩ := h.cell (k := 4) (r := ⟨3, some ⟨g4, 0, none⟩, n, mapR n (fun p => .int .i64 (ta p))⟩) rfl (i := p) (v := .int .i64 (ta p)) (mapR_get hp)
    obtain rfl : g4 = q := by simpa using h1
    exact ⟨h2, h3, h4⟩
  · obtain ⟨q, h1, h2, h3, h4, h5⟩ := h.cell (k := 5) (r := ⟨3, some ⟨gs, 0, none⟩, n, mapR n (fun p => .int .i64 (sk p))⟩) rfl (i := p) (v := .int .i64 (sk p)) (mapR_get hp)
    obtain rfl : gs = q := by simpa using h1
    exact ⟨h2, h3, h4⟩
structure OS (s : ByteArray) (T : Int) (w wx : World) (g0 g1 g2 g3 g4 g5 gs m : Nat) (st : Nat → Bool) (kd tx af ta sk : Nat → Int) (a : Nat → Nat) : Prop where
  ms : MS wx (w.heap.size + 1) (six (s.size + 1) g0 g1 g2 g3 g4 gs st kd tx af ta sk)
  sb : wx.heap[g5]? = some (.cells (fiveS (s.size + 1) g0 g1 g2 g3 g4) 27 (0, 0))
  rb : wx.heap[w.heap.size]? = some (.cells Z27 27 (0, 0))
  bel : Below w.heap.size w wx
  rd : Rd s m st kd tx af ta a
  skk : ∀ j : Nat, (j : Int) < D s m → sk j = P s (a j)
  off : 0 ≤ TX s m ∧ TX s m ≤ T
/-- What zzLayoutOf leaves. -/
def LayRet (w : World) (s : ByteArray) (T : Int) (e : Ending) (w' : World) : Prop :=
  Below w.heap.size w w' ∧ ∃ (d : Bool) (g0 g1 g2 g3 g4 : Nat), e = .returned (.tuple #[.agg (fiveS (s.size + 1) g0 g1 g2 g3 g4), .bool d]) ∧
    (d = true → ∃ (m : Nat) (st : Nat → Bool) (kd tx af ta : Nat → Int), Lay s T m st kd tx af ta ∧ ∀ p, p < s.size + 1 → w'.cell? ⟨g0, p, none⟩ = some (.bool (st p)) ∧ w'.cell? ⟨g1, p, none⟩ = some (.int .i64 (kd p)) ∧ w'.cell? ⟨g2, p, none⟩ = some (.int .i64 (tx p)) ∧ w'.cell? ⟨g3, p, none⟩ = some (.int .i64 (af p)) ∧ w'.cell? ⟨g4, p, none⟩ = some (.int .i64 (ta p)))
theorem below_set {B g : Nat} {w : World} (h : B ≤ g) (cs : Array Value) : Below B w (w.setRow g cs) := ⟨rfl, rfl, rfl, by simp, fun k hk => setRow_other _ _ _ _ (by omega)⟩


/-! ### The stores of zzLayoutOf, one by one -/
structure B6 (s : ByteArray) (w wx : World) (g0 g1 g2 g3 g4 g5 gs : Nat) (st : Nat → Bool) (kd tx af ta sk : Nat → Int) : Prop where
  ms : MS wx (w.heap.size + 1) (six (s.size + 1) g0 g1 g2 g3 g4 gs st kd tx af ta sk)
  sb : wx.heap[g5]? = some (.cells (fiveS (s.size + 1) g0 g1 g2 g3 g4) 27 (0, 0))
  rb : wx.heap[w.heap.size]? = some (.cells Z27 27 (0, 0))
  bel : Below w.heap.size w wx
  ne : (g5 ≠ g0 ∧ g5 ≠ g1 ∧ g5 ≠ g2 ∧ g5 ≠ g3 ∧ g5 ≠ g4 ∧ g5 ≠ gs) ∧ w.heap.size + 1 ≤ g5
section
variable {s : ByteArray} {w wx : World} {g0 g1 g2 g3 g4 g5 gs : Nat} {st : Nat → Bool} {kd tx af ta sk : Nat → Int}
theorem B6.six_lt (h : B6 s w wx g0 g1 g2 g3 g4 g5 gs st kd tx af ta sk) : w.heap.size + 1 ≤ g0 ∧ w.heap.size + 1 ≤ g1 ∧ w.heap.size + 1 ≤ g2 ∧ w.heap.size + 1 ≤ g3 ∧ w.heap.size + 1 ≤ g4 ∧ w.heap.size + 1 ≤ gs := by
  obtain ⟨x0, x1, x2, x3, x4, x5⟩ := six_cells h.ms (p := 0) (by omega)
  exact ⟨x0.2.2, x1.2.2, x2.2.2, x3.2.2, x4.2.2, x5.2.2⟩
theorem B6.put0 (h : B6 s w wx g0 g1 g2 g3 g4 g5 gs st kd tx af ta sk) (p : Nat) (x : Bool) : B6 s w (wx.setCell ⟨g0, p, none⟩ (.bool x)) g0 g1 g2 g3 g4 g5 gs (upd st p x) kd tx af ta sk := by
  have hl := h.six_lt
  refine ⟨?_, ?_, ?_, h.bel.setCell (p := ⟨g0, p, none⟩) (by show w.heap.size ≤ g0; omega) _, h.ne⟩
  · have := h.ms.put (k := 0) (e := 4) (q := g0) (c := s.size + 1) (xs := mapR (s.size + 1) (fun p => .bool (st p))) rfl p (.bool x)
    rw [mapR_set, upd_bool] at this
    exact this
  · rw [Below.heap_setCell _ _ _ _ (by show g5 ≠ g0; exact h.ne.1.1)]; exact h.sb
  · rw [Below.heap_setCell _ _ _ _ (by show w.heap.size ≠ g0; omega)]; exact h.rb
theorem B6.put1 (h : B6 s w wx g0 g1 g2 g3 g4 g5 gs st kd tx af ta sk) (p : Nat) (x : Int) : B6 s w (wx.setCell ⟨g1, p, none⟩ (.int .i64 x)) g0 g1 g2 g3 g4 g5 gs st (upd kd p x) tx af ta sk := by
  have hl := h.six_lt
  refine ⟨?_, ?_, ?_, h.bel.setCell (p := ⟨g1, p, none⟩) (by show w.heap.size ≤ g1; omega) _, h.ne⟩
  · have := h.ms.put (k := 1) (e := 3) (q := g1) (c := s.size + 1) (xs := mapR (s.size + 1) (fun p => .int .i64 (kd p))) rfl p (.int .i64 x)
    rw [mapR_set, upd_int] at this
    exact this
  · rw [Below.heap_setCell _ _ _ _ (by show g5 ≠ g1; exact h.ne.1.2.1)]; exact h.sb
  · rw [Below.heap_setCell _ _ _ _ (by show w.heap.size ≠ g1; omega)]; exact h.rb
theorem B6.put2 (h : B6 s w wx g0 g1 g2 g3 g4 g5 gs st kd tx af ta sk) (p : Nat) (x : Int) : B6 s w (wx.setCell ⟨g2, p, none⟩ (.int .i64 x)) g0 g1 g2 g3 g4 g5 gs st kd (upd tx p x) af ta sk := by
  have hl := h.six_lt
  refine ⟨?_, ?_, ?_, h.bel.setCell (p := ⟨g2, p, none⟩) (by show w.heap.size ≤ g2; omega) _, h.ne⟩
  · have := h.ms.put (k := 2) (e := 3) (q := g2) (c := s.size + 1) (xs := mapR (s.size + 1) (fun p => .int .i64 (tx p))) rfl p (.int .i64 x)
    rw [mapR_set, upd_int] at this
    exact this
  · rw [Below.heap_setCell _ _ _ _ (by show g5 ≠ g2; exact h.ne.1.2.2.1)]; exact h.sb
  · rw [Below.heap_setCell _ _ _ _ (by show w.heap.size ≠ g2; omega)]; exact h.rb
theorem B6.put3 (h : B6 s w wx g0 g1 g2 g3 g4 g5 gs st kd tx af ta sk) (p : Nat) (x : Int) : B6 s w (wx.setCell ⟨g3, p, none⟩ (.int .i64 x)) g0 g1 g2 g3 g4 g5 gs st kd tx (upd af p x) ta sk := by
  have hl := h.six_lt
  refine ⟨?_, ?_, ?_, h.bel.setCell (p := ⟨g3, p, none⟩) (by show w.heap.size ≤ g3; omega) _, h.ne⟩
  · have := h.ms.put (k := 3) (e := 3) (q := g3) (c := s.size + 1) (xs := mapR (s.size + 1) (fun p => .int .i64 (af p))) rfl p (.int .i64 x)
    rw [mapR_set, upd_int] at this
    exact this
  · rw [Below.heap_setCell _ _ _ _ (by show g5 ≠ g3; exact h.ne.1.2.2.2.1)]; exact h.sb
  · rw [Below.heap_setCell _ _ _ _ (by show w.heap.size ≠ g3; omega)]; exact h.rb
theorem B6.put4 (h : B6 s w wx g0 g1 g2 g3 g4 g5 gs st kd tx af ta sk) (p : Nat) (x : Int) : B6 s w (wx.setCell ⟨g4, p, none⟩ (.int .i64 x)) g0 g1 g2 g3 g4 g5 gs st kd tx af (upd ta p x) sk := by
  have hl := h.six_lt
  refine ⟨?_, ?_, ?_, h.bel.setCell (p := ⟨g4, p, none⟩) (by show w.heap.size ≤ g4; omega) _, h.ne⟩
  · have := h.ms.put (k := 4) (e := 3) (q := g4) (c := s.size + 1) (xs := mapR (s.size + 1) (fun p => .int .i64 (ta p))) rfl p (.int .i64 x)
    rw [mapR_set, upd_int] at this
    exact this
  · rw [Below.heap_setCell _ _ _ _ (by show g5 ≠ g4; exact h.ne.1.2.2.2.2.1)]; exact h.sb
  · rw [Below.heap_setCell _ _ _ _ (by show w.heap.size ≠ g4; omega)]; exact h.rb
theorem B6.puts (h : B6 s w wx g0 g1 g2 g3 g4 g5 gs st kd tx af ta sk) (p : Nat) (x : Int) : B6 s w (wx.setCell ⟨gs, p, none⟩ (.int .i64 x)) g0 g1 g2 g3 g4 g5 gs st kd tx af ta (upd sk p x) := by
  have hl := h.six_lt
  refine ⟨?_, ?_, ?_, h.bel.setCell (p := ⟨gs, p, none⟩) (by show w.heap.size ≤ gs; omega) _, h.ne⟩
  · have := h.ms.put (k := 5) (e := 3) (q := gs) (c := s.size + 1) (xs := mapR (s.size + 1) (fun p => .int .i64 (sk p))) rfl p (.int .i64 x)
    rw [mapR_set, upd_int] at this
    exact this
  · rw [Below.heap_setCell _ _ _ _ (by show g5 ≠ gs; exact h.ne.1.2.2.2.2.2)]; exact h.sb
  · rw [Below.heap_setCell _ _ _ _ (by show w.heap.size ≠ gs; omega)]; exact h.rb
end
theorem and3 (X : Int) (h0 : 0 ≤ X) (h1 : X < 18446744073709551616) : bits .and .u64 X 3 = X % 4 := by
  have := bits_mask .u64 64 (by decide) (fun n a b => by
    have : IntKind.u64.wrap n = n % 18446744073709551616 := by simp [IntKind.wrap, IntKind.bits, IntKind.signed]
    rw [this]; omega) 2 (by decide) X h0 (by omega)
  simpa using this
theorem P_ge (s : ByteArray) : ∀ k, k ≤ P s k
  | 0 => Nat.zero_le _
  | k + 1 => by have := P_ge s k; have := P_lt s k; omega
theorem D_le (s : ByteArray) : ∀ k, D s k ≤ k
  | 0 => by simp [D]
  | k + 1 => by
    have := D_le s k
    simp only [D]
    unfold dl
    split
    · omega
    · split <;> omega
end Go.Proofs.Qxb6602276a

import Derived.Test.Qxb6602276aA6
namespace Go.Proofs.Qxb6602276a
open Go.RowKit
set_option linter.unusedVariables false

/-! ### What zzPassDomain finds -/
def GoodN (s : ByteArray) (M : Nat) (af ta f1 f2 f3 : Nat → Int) (i : Nat) : Prop := ∃ k, k < M ∧ f1 i = P s k ∧ kdOf s (P s k) = 2 ∧ f2 i = af (P s k) ∧ f3 i = ta (P s k)
structure Dom (s : ByteArray) (T : Int) (M : Nat) (st : Nat → Bool) (kd tx af ta : Nat → Int) (n : Nat) (f1 f2 f3 f4 : Nat → Int) (bf : Nat → Nat) (tok txt skip : Int) : Prop where
  lay : Lay s T M st kd tx af ta
  nst : ∀ i, i < n → GoodN s M af ta f1 f2 f3 i
  inc : ∀ i, i + 1 < n → f1 i < f1 (i + 1)
  bfs : ∀ p, p < s.size + 1 → IsBf f1 n p (bf p)
  inn : ∀ i, i < n → f4 i = (bf (f2 i).toNat : Int) - i - 1
  at0 : ∃ k, k < M ∧ tok = P s k ∧ kdOf s (P s k) = 2 ∧ txt = TX s k ∧ skip = bf (P s k)

/-- The world while zzPassDomain runs: its own two structs. -/
structure LZ (s : ByteArray) (w wx : World) (gL g0 g1 g2 g3 g4 : Nat) : Prop where
  c0 : wx.cell? ⟨gL, 0, none⟩ = some (.slice (some ⟨g0, 0, none⟩) (s.size + 1) (s.size + 1))
  c1 : wx.cell? ⟨gL, 1, none⟩ = some (.slice (some ⟨g1, 0, none⟩) (s.size + 1) (s.size + 1))
  c2 : wx.cell? ⟨gL, 2, none⟩ = some (.slice (some ⟨g2, 0, none⟩) (s.size + 1) (s.size + 1))
  c3 : wx.cell? ⟨gL, 3, none⟩ = some (.slice (some ⟨g3, 0, none⟩) (s.size + 1) (s.size + 1))
  c4 : wx.cell? ⟨gL, 4, none⟩ = some (.slice (some ⟨g4, 0, none⟩) (s.size + 1) (s.size + 1))
  r : ∀ j, j < 5 → wx.cell? ⟨w.heap.size, j, none⟩ = some (.slice none 0 0)
  rf : ∀ j, wx.frozen? ⟨w.heap.size, j, none⟩ = false
  bel : Below w.heap.size w wx
theorem LZ.step {s : ByteArray} {w wx wy : World} {gL g0 g1 g2 g3 g4 : Nat} (h : LZ s w wx gL g0 g1 g2 g3 g4) (hb : Below wx.heap.size wx wy) : LZ s w wy gL g0 g1 g2 g3 g4 := by
  have hlt : w.heap.size < wx.heap.size := World.block_lt_of_cell? wx _ (h.r 0 (by omega))
  refine ⟨cell_below hb h.c0, cell_below hb h.c1, cell_below hb h.c2, cell_below hb h.c3, cell_below hb h.c4, fun j hj => cell_below hb (h.r j hj), fun j => ?_, h.bel.trans (hb.mono (by omega))⟩
  rw [hb.frozen (p := ⟨w.heap.size, j, none⟩) hlt]; exact h.rf j
/-- It begins. -/
theorem LZ.start {s : ByteArray} {w wB : World} {g0 g1 g2 g3 g4 : Nat} (h : Below (w.alloc (.cells Z27 27)).heap.size (w.alloc (.cells Z27 27)) wB) : LZ s w (wB.alloc (.cells (fiveS (s.size + 1) g0 g1 g2 g3 g4) 27)) wB.heap.size g0 g1 g2 g3 g4 := by
  have hsz : (w.alloc (.cells Z27 27)).heap.size = w.heap.size + 1 := by simp
  have hz : wB.heap[w.heap.size]? = some (.cells Z27 27 (0, 0)) := by
    rw [h.block _ (by omega)]; exact heap_alloc_new w _
  have hwB : w.heap.size + 1 ≤ wB.heap.size := by rw [← hsz]; exact h.size
  have hz' : (wB.alloc (.cells (fiveS (s.size + 1) g0 g1 g2 g3 g4) 27)).heap[w.heap.size]? = some (.cells Z27 27 (0, 0)) := by
    rw [((Below.refl wB.heap.size wB).alloc (Nat.le_refl _) _).block _ (by omega)]; exact hz
  have hn : (wB.alloc (.cells (fiveS (s.size + 1) g0 g1 g2 g3 g4) 27)).heap[wB.heap.size]? = some (.cells (fiveS (s.size + 1) g0 g1 g2 g3 g4) 27 (0, 0)) := heap_alloc_new wB _
  have hbel : Below w.heap.size w (wB.alloc (.cells (fiveS (s.size + 1) g0 g1 g2 g3 g4) 27)) := (((Below.refl w.heap.size w).alloc (Nat.le_refl _) (.cells Z27 27)).trans (h.mono (by omega))).trans (((Below.refl wB.heap.size wB).alloc (Nat.le_refl _) _).mono (by omega))
  generalize wB.alloc (.cells (fiveS (s.size + 1) g0 g1 g2 g3 g4) 27) = wC at hz' hn hbel ⊢
  refine ⟨by simp [World.cell?, hn, fiveS], by simp [World.cell?, hn, fiveS], by simp [World.cell?, hn, fiveS], by simp [World.cell?, hn, fiveS], by simp [World.cell?, hn, fiveS], fun j hj => ?_, fun j => by simp [World.frozen?, hz'], hbel⟩
  obtain rfl | rfl | rfl | rfl | rfl : j = 0 ∨ j = 1 ∨ j = 2 ∨ j = 3 ∨ j = 4 := by omega
  all_goals simp [World.cell?, hz', Z27]
/-- The world while zzPassDomain runs. -/
structure LW (s : ByteArray) (w wx : World) (gL g0 g1 g2 g3 g4 : Nat) (st : Nat → Bool) (kd tx af ta : Nat → Int) (n : Nat) (f1 f2 f3 f4 : Nat → Int) (b1 b2 b3 b4 : Nat) : Prop extends LZ s w wx gL g0 g1 g2 g3 g4 where
  lay : ∀ p, p < s.size + 1 → wx.cell? ⟨g0, p, none⟩ = some (.bool (st p)) ∧ wx.cell? ⟨g1, p, none⟩ = some (.int .i64 (kd p)) ∧ wx.cell? ⟨g2, p, none⟩ = some (.int .i64 (tx p)) ∧ wx.cell? ⟨g3, p, none⟩ = some (.int .i64 (af p)) ∧ wx.cell? ⟨g4, p, none⟩ = some (.int .i64 (ta p))
  i1 : ∀ i, i < n → wx.cell? ⟨b1, i, none⟩ = some (.int .i64 (f1 i))
  i2 : ∀ i, i < n → wx.cell? ⟨b2, i, none⟩ = some (.int .i64 (f2 i))
  i3 : ∀ i, i < n → wx.cell? ⟨b3, i, none⟩ = some (.int .i64 (f3 i))
  i4 : ∀ i, i < n → wx.cell? ⟨b4, i, none⟩ = some (.int .i64 (f4 i))
theorem LW.step {s : ByteArray} {w wx wy : World} {gL g0 g1 g2 g3 g4 : Nat} {st : Nat → Bool} {kd tx af ta : Nat → Int} {n : Nat} {f1 f2 f3 f4 : Nat → Int} {b1 b2 b3 b4 : Nat}
    (h : LW s w wx gL g0 g1 g2 g3 g4 st kd tx af ta n f1 f2 f3 f4 b1 b2 b3 b4) (hb : Below wx.heap.size wx wy) : LW s w wy gL g0 g1 g2 g3 g4 st kd tx af ta n f1 f2 f3 f4 b1 b2 b3 b4 := by
  refine ⟨h.toLZ.step hb, fun p hp => ?_, fun i hi => cell_below hb (h.i1 i hi), fun i hi => cell_below hb (h.i2 i hi), fun i hi => cell_below hb (h.i3 i hi), fun i hi => cell_below hb (h.i4 i hi)⟩
  obtain ⟨x0, x1, x2, x3, x4⟩ := h.lay p hp
  exact ⟨cell_below hb x0, cell_below hb x1, cell_below hb x2, cell_below hb x3, cell_below hb x4⟩
/-- While 'before' is filled: p of its cells are. -/
structure BS (s : ByteArray) (n : Nat) (f1 : Nat → Int) (wD wr : World) (p j : Nat) (bf : Nat → Nat) (xs : List Value) : Prop where
  own : wr.ownsRow wD.heap.size 3 1 (.slice (some ⟨wD.heap.size, 0, none⟩) (s.size + 1) (s.size + 1)) (s.size + 1) xs
  bel : Below wD.heap.size wD wr
  jn : j ≤ n
  jl : ∀ i, i < j → f1 i < p
  dn : ∀ q, q < p → xs[q]? = some (.int .i64 (bf q)) ∧ IsBf f1 n q (bf q)
theorem BS.put {s : ByteArray} {n : Nat} {f1 : Nat → Int} {wD wr : World} {p j j' : Nat} {bf : Nat → Nat} {xs : List Value} (h : BS s n f1 wD wr p j bf xs) (hp : p ≤ s.size) (hb : IsBf f1 n p j') :
    BS s n f1 wD (wr.setCell ⟨wD.heap.size, p, none⟩ (.int .i64 (j' : Int))) (p + 1) j' (upd bf p j') (xs.set p (.int .i64 (j' : Int))) := by
  have hl : xs.length = s.size + 1 := by have := h.own.1; omega
  refine ⟨(h.own.stored p _).1, h.bel.setCell (by simp) _, hb.le, fun i hi => by have := hb.lo i hi; omega, fun q hq => ?_⟩
  by_cases e : q = p
  · subst e
    rw [List.getElem?_set_self (by omega), upd_same]
    exact ⟨rfl, hb⟩
  · rw [List.getElem?_set_ne (fun e' => e e'.symm), upd_ne _ _ e]
    exact h.dn q (by omega)
theorem BS.cell {s : ByteArray} {n : Nat} {f1 : Nat → Int} {wD wr : World} {j : Nat} {bf : Nat → Nat} {xs : List Value} (h : BS s n f1 wD wr (s.size + 1) j bf xs) {q : Nat} (hq : q < s.size + 1) : wr.cell? ⟨wD.heap.size, q, none⟩ = some (.int .i64 (bf q)) := by
  rw [h.own.cellAt q (by omega)]; exact (h.dn q hq).1
def DomRet (w : World) (s : ByteArray) (T : Int) (n n2 n3 n4 : Nat) (f1 f2 f3 f4 : Nat → Int) (tok txt skip : Int) (e : Ending) (w' : World) : Prop :=
  Below w.heap.size w w' ∧ ∃ (d : Bool) (g0 g1 g2 g3 g4 : Nat) (v : Value), e = .returned (.tuple #[.agg (fiveS (s.size + 1) g0 g1 g2 g3 g4), v, .bool d]) ∧
    (d = true → n2 = n ∧ n3 = n ∧ n4 = n ∧ ∃ gb, v = .slice (some ⟨gb, 0, none⟩) (s.size + 1) (s.size + 1) ∧ ∃ (M : Nat) (st : Nat → Bool) (kd tx af ta : Nat → Int) (bf : Nat → Nat), Dom s T M st kd tx af ta n f1 f2 f3 f4 bf tok txt skip ∧
      ∀ p, p < s.size + 1 → w'.cell? ⟨g3, p, none⟩ = some (.int .i64 (af p)) ∧ w'.cell? ⟨g4, p, none⟩ = some (.int .i64 (ta p)) ∧ w'.cell? ⟨gb, p, none⟩ = some (.int .i64 (bf p)))
end Go.Proofs.Qxb6602276a

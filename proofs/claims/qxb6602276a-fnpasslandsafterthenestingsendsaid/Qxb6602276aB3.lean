import Derived.Test.Qxb6602276aA9
namespace Go.Proofs.Qxb6602276a
open Go.RowKit
set_option linter.unusedVariables false

/-! ### The list of skips, as it grows -/
theorem heap_lt {w : World} {k : Nat} {o : Obj} (h : w.heap[k]? = some o) : k < w.heap.size := (Array.getElem?_eq_some_iff.1 h).1
theorem alloc_keep {w : World} {k : Nat} {o : Obj} (h : w.heap[k]? = some o) (o' : Obj) : (w.alloc o').heap[k]? = some o := by rw [Below.heap_alloc w o' k (heap_lt h)]; exact h
theorem ownsRow_block {w : World} {base : Nat} {e : TypeId} {size : Nat} {v : Value} {n : Nat} {xs : List Value} (h : w.ownsRow base e size v n xs) {g : Nat} (hg : v.ownBlock = some g) : ∃ cs, w.heap[g]? = some (.cells cs e (0, 0)) := by
  rcases h.2 with ⟨rfl, _⟩ | ⟨g', cap, cur, rfl, hb, hh, hr⟩
  · simp [Value.ownBlock] at hg
  · simp [Value.ownBlock] at hg
    subst hg
    exact ⟨cur, hh⟩
theorem ne_of_types {w : World} {a b : Nat} {cs cs' : Array Value} {t t' : TypeId} (ha : w.heap[a]? = some (.cells cs t (0, 0))) (hb : w.heap[b]? = some (.cells cs' t' (0, 0))) (ht : t ≠ t') : a ≠ b := fun e => by
  subst e; rw [ha] at hb; simp at hb; exact ht hb.2
/-- Blocks of another element type than e are kept by an append onto a row of e's. -/
theorem kept_types {w w' : World} {base : Nat} {e : TypeId} {size : Nat} {v : Value} {n : Nat} {xs : List Value} (h : w.ownsRow base e size v n xs) (hg : w.grownBy w' v.ownBlock) {k : Nat} {cs : Array Value} {t : TypeId}
    (hk : w.heap[k]? = some (.cells cs t (0, 0))) (ht : t ≠ e) : w'.heap[k]? = some (.cells cs t (0, 0)) := by
  rw [hg.block k (heap_lt hk) ?_]
  · exact hk
  · intro e'
    obtain ⟨cs', hcs⟩ := ownsRow_block h e'.symm
    exact ne_of_types hk hcs ht rfl
theorem news_arr (w : World) (vs : Array Value) (t : TypeId) (j : Nat) (u : Value) (h : vs.toList[j]? = some u) : (w.alloc (.cells vs t)).cell? ((⟨w.heap.size, 0, none⟩ : Addr).add j) = some u := World.news_of_block (heap_alloc_new w _) j u h
/-- A row of another element type, kept. -/
theorem ownsRow_types {w w' : World} {base base' : Nat} {e e' : TypeId} {size size' : Nat} {v v' : Value} {n n' : Nat} {xs xs' : List Value} (h : w.ownsRow base e size v n xs) (hg : w.grownBy w' v.ownBlock) (h' : w.ownsRow base' e' size' v' n' xs') (ht : e' ≠ e) : w'.ownsRow base' e' size' v' n' xs' := by
  refine ownsRow_congr h' (fun g hgb => ?_)
  obtain ⟨cs, hcs⟩ := ownsRow_block h' hgb
  rw [kept_types h hg hcs ht, hcs]
/-- A row of another element type, behind a store. -/
theorem ownsRow_store {w : World} {base' : Nat} {e e' : TypeId} {size' : Nat} {v' : Value} {n' : Nat} {xs' : List Value} {b j : Nat} {cs : Array Value} {u : Value} (hb : w.heap[b]? = some (.cells cs e (0, 0))) (h' : w.ownsRow base' e' size' v' n' xs') (ht : e' ≠ e) : (w.setCell ⟨b, j, none⟩ u).ownsRow base' e' size' v' n' xs' := by
  refine ownsRow_congr h' (fun g hgb => ?_)
  obtain ⟨cs', hcs⟩ := ownsRow_block h' hgb
  exact Below.heap_setCell _ _ _ _ (ne_of_types hcs hb ht)

structure CK (w : World) (H tb : Nat) (s t : ByteArray) (a : Option Addr) (cp : Nat) (rows : List Value) (ln : Nat → Nat) (X : Nat → List Value) : Prop where
  tr : w.heap[tb]? = some (.cells #[.string s, .string t, .slice a rows.length cp] 39 (0, 0))
  hb : H ≤ tb
  out : w.ownsRow H 47 1 (.slice a rows.length cp) rows.length rows
  own : ∀ (c : Nat) (v : Value), rows[c]? = some v → w.ownsRow H 42 4 v (ln c) (X c)
  sep : ∀ (c c' : Nat) (v v' : Value) (b : Nat), c ≠ c' → rows[c]? = some v → rows[c']? = some v' → v.ownBlock = some b → v'.ownBlock ≠ some b
section
variable {w : World} {H tb : Nat} {s t : ByteArray} {a : Option Addr} {cp : Nat} {rows : List Value} {ln : Nat → Nat} {X : Nat → List Value}
theorem CK.alloc (h : CK w H tb s t a cp rows ln X) (o : Obj) : CK (w.alloc o) H tb s t a cp rows ln X :=
  ⟨alloc_keep h.tr o, h.hb, h.out.alloc o, fun c v hv => (h.own c v hv).alloc o, h.sep⟩
theorem CK.congr {w' : World} (h : CK w H tb s t a cp rows ln X) (hk : ∀ k, k < w.heap.size → w'.heap[k]? = w.heap[k]?) : CK w' H tb s t a cp rows ln X :=
  ⟨by rw [hk _ (heap_lt h.tr)]; exact h.tr, h.hb, ownsRow_congr h.out (fun g hg => hk g (h.out.lt g hg).2), fun c v hv => ownsRow_congr (h.own c v hv) (fun g hg => hk g ((h.own c v hv).lt g hg).2), h.sep⟩
/-- A chunk is added, empty. -/
theorem CK.push {w4 : World} {g cap : Nat} {v : Value} (h : CK w H tb s t a cp rows ln X) (hv : w.ownsRow H 42 4 v 0 []) (hsep : ∀ (c : Nat) (v' : Value) (b : Nat), rows[c]? = some v' → v'.ownBlock = some b → v.ownBlock ≠ some b)
    (hown : w4.ownsRow H 47 1 (.slice (some ⟨g, 0, none⟩) (rows.length + 1) cap) (rows.length + 1) (rows ++ [v])) (hg : w.grownBy w4 (Value.slice a rows.length cp).ownBlock) :
    CK (w4.setCell ⟨tb, 2, none⟩ (.slice (some ⟨g, 0, none⟩) (rows.length + 1) cap)) H tb s t (some ⟨g, 0, none⟩) cap (rows ++ [v]) (upd ln rows.length 0) (upd X rows.length []) := by
  have htb := kept_types h.out hg h.tr (by decide)
  have hget : ∀ c u, (rows ++ [v])[c]? = some u → (c < rows.length ∧ rows[c]? = some u) ∨ (c = rows.length ∧ u = v) := by
    intro c u hu
    rcases Nat.lt_or_ge c rows.length with hc | hc
    · rw [List.getElem?_append_left hc] at hu
      exact .inl ⟨hc, hu⟩
    · rw [List.getElem?_append_right hc] at hu
      right
      have h0 : c - rows.length = 0 := by
        rcases Nat.eq_zero_or_pos (c - rows.length) with h0 | h0
        · exact h0
        · rw [List.getElem?_eq_none (by simp; omega)] at hu; cases hu
      rw [h0] at hu
      exact ⟨by omega, by simpa using hu.symm⟩
  refine ⟨?_, h.hb, ?_, ?_, ?_⟩
  · rw [heap_setCell_same w4 tb 2 _ 39 _ htb]
    simp
  · have := ownsRow_store (j := 2) (u := .slice (some ⟨g, 0, none⟩) (rows.length + 1) cap) htb hown (by decide)
    simpa using this
  · intro c u hu
    rcases hget c u hu with ⟨hc, hu'⟩ | ⟨rfl, rfl⟩
    · rw [upd_ne _ _ (by omega), upd_ne _ _ (by omega)]
      exact ownsRow_store htb (ownsRow_types h.out hg (h.own c u hu') (by decide)) (by decide)
    · rw [upd_same, upd_same]
      exact ownsRow_store htb (ownsRow_types h.out hg hv (by decide)) (by decide)
  · intro c c' u u' b hcc hu hu' hb
    rcases hget c u hu with ⟨hc, hu1⟩ | ⟨rfl, rfl⟩
    · rcases hget c' u' hu' with ⟨hc', hu1'⟩ | ⟨rfl, rfl⟩
      · exact h.sep c c' u u' b hcc hu1 hu1' hb
      · exact hsep c u b hu1 hb
    · rcases hget c' u' hu' with ⟨hc', hu1'⟩ | ⟨rfl, rfl⟩
      · exact fun hb' => hsep c' u' b hu1' hb' hb
      · exact absurd rfl hcc
/-- A chunk takes one skip more. -/
theorem CK.app {w4 : World} {q g cap c : Nat} {v : Value} {news : List Value} (h : CK w H tb s t (some ⟨q, 0, none⟩) cp rows ln X) (hc : rows[c]? = some v)
    (hown : w4.ownsRow H 42 4 (.slice (some ⟨g, 0, none⟩) (ln c + 1) cap) (ln c + 1) (X c ++ news)) (hg : w.grownBy w4 v.ownBlock) (hat : v.ownBlock = some g ∨ g = w.heap.size) :
    CK (w4.setCell ⟨q, c, none⟩ (.slice (some ⟨g, 0, none⟩) (ln c + 1) cap)) H tb s t (some ⟨q, 0, none⟩) cp (rows.set c (.slice (some ⟨g, 0, none⟩) (ln c + 1) cap)) (upd ln c (ln c + 1)) (upd X c (X c ++ news)) := by
  have hv := h.own c v hc
  have hcl : c < rows.length := (List.getElem?_eq_some_iff.1 hc).1
  have htb := kept_types hv hg h.tr (by decide)
  have hout4 := ownsRow_types hv hg h.out (by decide)
  obtain ⟨cs, hcs⟩ := ownsRow_block hout4 (g := q) rfl
  have hgq : g ≠ q := by
    obtain ⟨cs', hcs'⟩ := ownsRow_block hown (g := g) rfl
    exact ne_of_types hcs' hcs (by decide)
  have hst := (hout4.stored c (.slice (some ⟨g, 0, none⟩) (ln c + 1) cap)).1
  have hsg : ∀ (c' : Nat) (u : Value), c' ≠ c → rows[c']? = some u → u.ownBlock ≠ some g := by
    intro c' u hne hu e
    rcases hat with hat | hat
    · exact h.sep c' c u v g hne hu hc e hat
    · have := ((h.own c' u hu).lt g e).2
      omega
  refine ⟨?_, h.hb, ?_, ?_, ?_⟩
  · rw [Below.heap_setCell _ _ _ _ (show tb ≠ q from ne_of_types htb hcs (by decide)), List.length_set]
    exact htb
  · rw [List.length_set]; exact hst
  · intro c' u hu
    by_cases e : c' = c
    · subst e
      rw [List.getElem?_set_self hcl] at hu
      obtain rfl := Option.some.inj hu
      rw [upd_same, upd_same]
      exact ownsRow_store hcs hown (by decide)
    · rw [List.getElem?_set_ne (fun e' => e e'.symm)] at hu
      rw [upd_ne _ _ e, upd_ne _ _ e]
      refine ownsRow_store hcs ((h.own c' u hu).kept hg ?_) (by decide)
      cases hb : u.ownBlock with
      | none => exact .inl rfl
      | some b => exact .inr (fun e' => h.sep c' c u v b e hu hc hb e'.symm)
  · intro c1 c2 u1 u2 b h12 hu1 hu2 hb
    by_cases e1 : c1 = c
    · subst e1
      rw [List.getElem?_set_self hcl] at hu1
      obtain rfl := Option.some.inj hu1
      rw [List.getElem?_set_ne (fun e' => h12 e')] at hu2
      obtain rfl : g = b := by simpa [Value.ownBlock] using hb
      exact hsg c2 u2 (fun e => h12 e.symm) hu2
    · rw [List.getElem?_set_ne (fun e' => e1 e'.symm)] at hu1
      by_cases e2 : c2 = c
      · subst e2
        rw [List.getElem?_set_self hcl] at hu2
        obtain rfl := Option.some.inj hu2
        intro hb'
        obtain rfl : g = b := by simpa [Value.ownBlock] using hb'
        exact hsg c1 u1 e1 hu1 hb
      · rw [List.getElem?_set_ne (fun e' => e2 e'.symm)] at hu2
        exact h.sep c1 c2 u1 u2 b h12 hu1 hu2 hb
end
end Go.Proofs.Qxb6602276a

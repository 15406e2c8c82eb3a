import Derived.Test.Qxb6601564aB3
namespace Go.Proofs.Qxb6601564a
open Go.RowKit
set_option linter.unusedVariables false

/-! ### Rows that a function owns, each in a block of its own -/
structure Rw where
  e : TypeId
  a : Option Addr
  c : Nat
  xs : List Value
def Rw.val (r : Rw) : Value := .slice r.a r.xs.length r.c
def Sep (v v' : Value) : Prop := ∀ b, v.ownBlock = some b → v'.ownBlock ≠ some b
structure MS (w : World) (H : Nat) (l : List Rw) : Prop where
  own : ∀ (i : Nat) (r : Rw), l[i]? = some r → w.ownsRow H r.e 1 (.slice r.a r.xs.length r.c) r.xs.length r.xs
  sep : ∀ (i j : Nat) (r r' : Rw), i ≠ j → l[i]? = some r → l[j]? = some r' → Sep r.val r'.val

theorem MS.congr {w w' : World} {H : Nat} {l : List Rw} (h : MS w H l) (hk : ∀ (i : Nat) (r : Rw) (g : Nat), l[i]? = some r → r.val.ownBlock = some g → w'.heap[g]? = w.heap[g]?) : MS w' H l :=
  ⟨fun i r hr => ownsRow_congr (h.own i r hr) (fun g hg => hk i r g hr hg), h.sep⟩
theorem MS.alloc {w : World} {H : Nat} {l : List Rw} (h : MS w H l) (o : Obj) : MS (w.alloc o) H l := ⟨fun i r hr => (h.own i r hr).alloc o, h.sep⟩
theorem MS.below {w w' : World} {H : Nat} {l : List Rw} (h : MS w H l) (hb : Below w.heap.size w w') : MS w' H l :=
  h.congr (fun i r g hr hg => hb.block g ((h.own i r hr).lt g hg).2)
theorem MS.app {w w2 : World} {H : Nat} {l : List Rw} (h : MS w H l) {k : Nat} {r : Rw} (hk : l[k]? = some r) {q c : Nat} {xs : List Value}
    (hown : w2.ownsRow H r.e 1 (.slice (some ⟨q, 0, none⟩) xs.length c) xs.length xs) (hg : w.grownBy w2 r.val.ownBlock) (hat : r.val.ownBlock = some q ∨ q = w.heap.size) : MS w2 H (l.set k ⟨r.e, some ⟨q, 0, none⟩, c, xs⟩) := by
  have hkl : k < l.length := (List.getElem?_eq_some_iff.1 hk).1
  have hq : (Rw.val ⟨r.e, some ⟨q, 0, none⟩, c, xs⟩).ownBlock = some q := rfl
  have hsq : ∀ (i : Nat) (s : Rw), i ≠ k → l[i]? = some s → s.val.ownBlock ≠ some q := by
    intro i s hi hs e
    rcases hat with hat | hat
    · exact h.sep k i r s (fun e => hi e.symm) hk hs q hat e
    · have := ((h.own i s hs).lt q e).2
      omega
  refine ⟨fun i s hs => ?_, fun i j s s' hij hs hs' => ?_⟩
  · by_cases e : i = k
    · subst e
      rw [List.getElem?_set_self hkl] at hs
      obtain rfl := Option.some.inj hs
      exact hown
    · rw [List.getElem?_set_ne (fun e' => e e'.symm)] at hs
      refine (h.own i s hs).kept hg ?_
      cases hv : s.val.ownBlock with
      | none => exact .inl hv
      | some b =>
        right
        intro e'
        exact h.sep i k s r e hs hk b hv (e'.symm.trans hv)
  · by_cases e : i = k
    · subst e
      rw [List.getElem?_set_self hkl] at hs
      obtain rfl := Option.some.inj hs
      rw [List.getElem?_set_ne (fun e' => hij e')] at hs'
      intro b hb
      rw [hq] at hb
      obtain rfl := Option.some.inj hb
      exact hsq j s' (fun e => hij e.symm) hs'
    · rw [List.getElem?_set_ne (fun e' => e e'.symm)] at hs
      by_cases e2 : j = k
      · subst e2
        rw [List.getElem?_set_self hkl] at hs'
        obtain rfl := Option.some.inj hs'
        intro b hb hb'
        rw [hq] at hb'
        obtain rfl := Option.some.inj hb'
        exact hsq i s e hs hb
      · rw [List.getElem?_set_ne (fun e' => e2 e'.symm)] at hs'
        exact h.sep i j s s' hij hs hs'
/-- A cell of row k is written. -/
theorem MS.put {w : World} {H : Nat} {l : List Rw} (h : MS w H l) {k : Nat} {e : TypeId} {q c : Nat} {xs : List Value} (hk : l[k]? = some ⟨e, some ⟨q, 0, none⟩, c, xs⟩) (j : Nat) (v : Value) : MS (w.setCell ⟨q, j, none⟩ v) H (l.set k ⟨e, some ⟨q, 0, none⟩, c, xs.set j v⟩) := by
  have hkl : k < l.length := (List.getElem?_eq_some_iff.1 hk).1
  have hst := ((h.own k _ hk).stored j v).1
  refine ⟨fun i s hs => ?_, fun i i' s s' hij hs hs' => ?_⟩
  · by_cases e' : i = k
    · subst e'
      rw [List.getElem?_set_self hkl] at hs
      obtain rfl := Option.some.inj hs
      simp only [List.length_set]
      exact hst
    · rw [List.getElem?_set_ne (fun e'' => e' e''.symm)] at hs
      refine ownsRow_congr (h.own i s hs) (fun g hg => Below.heap_setCell _ _ _ _ ?_)
      intro eg
      exact h.sep i k s _ e' hs hk g hg (by rw [eg]; rfl)
  · have key : ∀ (i : Nat) (s : Rw), (l.set k ⟨e, some ⟨q, 0, none⟩, c, xs.set j v⟩)[i]? = some s → ∃ s0, l[i]? = some s0 ∧ s.val.ownBlock = s0.val.ownBlock := by
      intro i s hs
      by_cases e' : i = k
      · subst e'
        rw [List.getElem?_set_self hkl] at hs
        obtain rfl := Option.some.inj hs
        exact ⟨_, hk, rfl⟩
      · rw [List.getElem?_set_ne (fun e'' => e' e''.symm)] at hs
        exact ⟨s, hs, rfl⟩
    obtain ⟨s0, h0, e0⟩ := key i s hs
    obtain ⟨s0', h0', e0'⟩ := key i' s' hs'
    intro b hb
    rw [e0'] 
    exact h.sep i i' s0 s0' hij h0 h0' b (by rw [← e0]; exact hb)
theorem MS.blk {w : World} {H : Nat} {l : List Rw} (h : MS w H l) {k : Nat} {r : Rw} (hk : l[k]? = some r) : ∀ b, r.val.ownBlock = some b → H ≤ b := fun b hb => ((h.own k r hk).lt b hb).1
/-- Out of a row: the address and the cell. -/
theorem MS.cell {w : World} {H : Nat} {l : List Rw} (h : MS w H l) {k : Nat} {r : Rw} (hk : l[k]? = some r) {i : Nat} {v : Value} (hi : r.xs[i]? = some v) : ∃ q, r.a = some ⟨q, 0, none⟩ ∧ w.cell? ⟨q, i, none⟩ = some v ∧ w.frozen? ⟨q, i, none⟩ = false ∧ H ≤ q ∧ q < w.heap.size := by
  have ho := h.own k r hk
  have hil : i < r.xs.length := (List.getElem?_eq_some_iff.1 hi).1
  obtain ⟨q, c', hv, h1, h2⟩ := ho.form (by omega)
  obtain ⟨ha, hc⟩ : r.a = some ⟨q, 0, none⟩ ∧ r.c = c' := by simpa using hv
  rw [ha] at ho
  exact ⟨q, ha, by rw [ho.cellAt i (by omega)]; exact hi, ho.frozenAt i, h1, h2⟩
theorem MS.row {w : World} {H : Nat} {l : List Rw} (h : MS w H l) {k : Nat} {r : Rw} (hk : l[k]? = some r) (f : Nat → Value) (hf : ∀ i, i < r.xs.length → r.xs[i]? = some (f i)) : ∃ q, Row w r.a r.xs.length f q 0 := by
  by_cases h0 : r.xs.length = 0
  · exact ⟨0, ⟨fun h => by omega, fun i hi => by omega⟩⟩
  · obtain ⟨q, ha, _⟩ := h.cell hk (hf 0 (by omega))
    refine ⟨q, ⟨fun _ => ha, fun i hi => ?_⟩⟩
    obtain ⟨q', ha', hc, _⟩ := h.cell hk (hf i hi)
    rw [ha] at ha'
    obtain rfl : q = q' := by simpa using ha'
    rw [Nat.zero_add]
    exact hc

def nI (x : Nat) : Value := .int .i64 (x : Int)
/-- The five rows of modelDeepUsers. -/
def five (an : Option Addr) (cn : Nat) (ns : List ByteArray) (ag : Option Addr) (cg : Nat) (gs : List Bool) (au : Option Addr) (cu : Nat) (us : List Bool) (af : Option Addr) (cf : Nat) (fs : List Nat) (at' : Option Addr) (ct : Nat) (ts : List Nat) : List Rw :=
  [⟨9, an, cn, ns.map .string⟩, ⟨4, ag, cg, gs.map .bool⟩, ⟨4, au, cu, us.map .bool⟩, ⟨3, af, cf, fs.map nI⟩, ⟨3, at', ct, ts.map nI⟩]
section
variable {w w2 : World} {H : Nat} {an : Option Addr} {cn : Nat} {ns : List ByteArray} {ag : Option Addr} {cg : Nat} {gs : List Bool} {au : Option Addr} {cu : Nat} {us : List Bool} {af : Option Addr} {cf : Nat} {fs : List Nat} {at' : Option Addr} {ct : Nat} {ts : List Nat}
theorem five_app0 (h : MS w H (five an cn ns ag cg gs au cu us af cf fs at' ct ts)) {x : ByteArray} {q c : Nat} (hown : w2.ownsRow H 9 1 (.slice (some ⟨q, 0, none⟩) (ns.length + 1) c) (ns.length + 1) (ns.map .string ++ [.string x]))
    (hg : w.grownBy w2 (Value.slice an ns.length cn).ownBlock) (hat : (Value.slice an ns.length cn).ownBlock = some q ∨ q = w.heap.size) : MS w2 H (five (some ⟨q, 0, none⟩) c (ns ++ [x]) ag cg gs au cu us af cf fs at' ct ts) := by
  have hv : (Rw.val ⟨9, an, cn, ns.map .string⟩) = .slice an ns.length cn := by simp [Rw.val]
  have := MS.app h (k := 0) (r := ⟨9, an, cn, ns.map .string⟩) rfl (q := q) (c := c) (xs := (ns ++ [x]).map .string) (by rw [List.length_map, List.length_append, List.map_append]; exact hown) (by rw [hv]; exact hg) (by rw [hv]; exact hat)
  exact this
theorem five_own0 (h : MS w H (five an cn ns ag cg gs au cu us af cf fs at' ct ts)) : w.ownsRow H 9 1 (.slice an ns.length cn) ns.length (ns.map .string) := by
  have := h.own 0 _ rfl
  simp only [List.length_map] at this
  exact this
theorem five_cell0 (h : MS w H (five an cn ns ag cg gs au cu us af cf fs at' ct ts)) {j : Nat} {x : ByteArray} (hj : ns[j]? = some x) : ∃ q, an = some ⟨q, 0, none⟩ ∧ w.cell? ⟨q, j, none⟩ = some (.string x) ∧ w.frozen? ⟨q, j, none⟩ = false ∧ H ≤ q ∧ q < w.heap.size :=
  h.cell (k := 0) (r := ⟨9, an, cn, ns.map .string⟩) rfl (i := j) (v := .string x) (by simp [hj])
theorem five_app1 (h : MS w H (five an cn ns ag cg gs au cu us af cf fs at' ct ts)) {x : Bool} {q c : Nat} (hown : w2.ownsRow H 4 1 (.slice (some ⟨q, 0, none⟩) (gs.length + 1) c) (gs.length + 1) (gs.map .bool ++ [.bool x]))
    (hg : w.grownBy w2 (Value.slice ag gs.length cg).ownBlock) (hat : (Value.slice ag gs.length cg).ownBlock = some q ∨ q = w.heap.size) : MS w2 H (five an cn ns (some ⟨q, 0, none⟩) c (gs ++ [x]) au cu us af cf fs at' ct ts) := by
  have hv : (Rw.val ⟨4, ag, cg, gs.map .bool⟩) = .slice ag gs.length cg := by simp [Rw.val]
  have := MS.app h (k := 1) (r := ⟨4, ag, cg, gs.map .bool⟩) rfl (q := q) (c := c) (xs := (gs ++ [x]).map .bool) (by rw [List.length_map, List.length_append, List.map_append]; exact hown) (by rw [hv]; exact hg) (by rw [hv]; exact hat)
  exact this
theorem five_own1 (h : MS w H (five an cn ns ag cg gs au cu us af cf fs at' ct ts)) : w.ownsRow H 4 1 (.slice ag gs.length cg) gs.length (gs.map .bool) := by
  have := h.own 1 _ rfl
  simp only [List.length_map] at this
  exact this
theorem five_cell1 (h : MS w H (five an cn ns ag cg gs au cu us af cf fs at' ct ts)) {j : Nat} {x : Bool} (hj : gs[j]? = some x) : ∃ q, ag = some ⟨q, 0, none⟩ ∧ w.cell? ⟨q, j, none⟩ = some (.bool x) ∧ w.frozen? ⟨q, j, none⟩ = false ∧ H ≤ q ∧ q < w.heap.size :=
  h.cell (k := 1) (r := ⟨4, ag, cg, gs.map .bool⟩) rfl (i := j) (v := .bool x) (by simp [hj])
theorem five_app2 (h : MS w H (five an cn ns ag cg gs au cu us af cf fs at' ct ts)) {x : Bool} {q c : Nat} (hown : w2.ownsRow H 4 1 (.slice (some ⟨q, 0, none⟩) (us.length + 1) c) (us.length + 1) (us.map .bool ++ [.bool x]))
    (hg : w.grownBy w2 (Value.slice au us.length cu).ownBlock) (hat : (Value.slice au us.length cu).ownBlock = some q ∨ q = w.heap.size) : MS w2 H (five an cn ns ag cg gs (some ⟨q, 0, none⟩) c (us ++ [x]) af cf fs at' ct ts) := by
  have hv : (Rw.val ⟨4, au, cu, us.map .bool⟩) = .slice au us.length cu := by simp [Rw.val]
  have := MS.app h (k := 2) (r := ⟨4, au, cu, us.map .bool⟩) rfl (q := q) (c := c) (xs := (us ++ [x]).map .bool) (by rw [List.length_map, List.length_append, List.map_append]; exact hown) (by rw [hv]; exact hg) (by rw [hv]; exact hat)
  exact this
theorem five_own2 (h : MS w H (five an cn ns ag cg gs au cu us af cf fs at' ct ts)) : w.ownsRow H 4 1 (.slice au us.length cu) us.length (us.map .bool) := by
  have := h.own 2 _ rfl
  simp only [List.length_map] at this
  exact this
theorem five_cell2 (h : MS w H (five an cn ns ag cg gs au cu us af cf fs at' ct ts)) {j : Nat} {x : Bool} (hj : us[j]? = some x) : ∃ q, au = some ⟨q, 0, none⟩ ∧ w.cell? ⟨q, j, none⟩ = some (.bool x) ∧ w.frozen? ⟨q, j, none⟩ = false ∧ H ≤ q ∧ q < w.heap.size :=
  h.cell (k := 2) (r := ⟨4, au, cu, us.map .bool⟩) rfl (i := j) (v := .bool x) (by simp [hj])
theorem five_app3 (h : MS w H (five an cn ns ag cg gs au cu us af cf fs at' ct ts)) {x : Nat} {q c : Nat} (hown : w2.ownsRow H 3 1 (.slice (some ⟨q, 0, none⟩) (fs.length + 1) c) (fs.length + 1) (fs.map nI ++ [nI x]))
    (hg : w.grownBy w2 (Value.slice af fs.length cf).ownBlock) (hat : (Value.slice af fs.length cf).ownBlock = some q ∨ q = w.heap.size) : MS w2 H (five an cn ns ag cg gs au cu us (some ⟨q, 0, none⟩) c (fs ++ [x]) at' ct ts) := by
  have hv : (Rw.val ⟨3, af, cf, fs.map nI⟩) = .slice af fs.length cf := by simp [Rw.val]
  have := MS.app h (k := 3) (r := ⟨3, af, cf, fs.map nI⟩) rfl (q := q) (c := c) (xs := (fs ++ [x]).map nI) (by rw [List.length_map, List.length_append, List.map_append]; exact hown) (by rw [hv]; exact hg) (by rw [hv]; exact hat)
  exact this
theorem five_own3 (h : MS w H (five an cn ns ag cg gs au cu us af cf fs at' ct ts)) : w.ownsRow H 3 1 (.slice af fs.length cf) fs.length (fs.map nI) := by
  have := h.own 3 _ rfl
  simp only [List.length_map] at this
  exact this
theorem five_cell3 (h : MS w H (five an cn ns ag cg gs au cu us af cf fs at' ct ts)) {j : Nat} {x : Nat} (hj : fs[j]? = some x) : ∃ q, af = some ⟨q, 0, none⟩ ∧ w.cell? ⟨q, j, none⟩ = some (nI x) ∧ w.frozen? ⟨q, j, none⟩ = false ∧ H ≤ q ∧ q < w.heap.size :=
  h.cell (k := 3) (r := ⟨3, af, cf, fs.map nI⟩) rfl (i := j) (v := nI x) (by simp [hj])
theorem five_app4 (h : MS w H (five an cn ns ag cg gs au cu us af cf fs at' ct ts)) {x : Nat} {q c : Nat} (hown : w2.ownsRow H 3 1 (.slice (some ⟨q, 0, none⟩) (ts.length + 1) c) (ts.length + 1) (ts.map nI ++ [nI x]))
    (hg : w.grownBy w2 (Value.slice at' ts.length ct).ownBlock) (hat : (Value.slice at' ts.length ct).ownBlock = some q ∨ q = w.heap.size) : MS w2 H (five an cn ns ag cg gs au cu us af cf fs (some ⟨q, 0, none⟩) c (ts ++ [x])) := by
  have hv : (Rw.val ⟨3, at', ct, ts.map nI⟩) = .slice at' ts.length ct := by simp [Rw.val]
  have := MS.app h (k := 4) (r := ⟨3, at', ct, ts.map nI⟩) rfl (q := q) (c := c) (xs := (ts ++ [x]).map nI) (by rw [List.length_map, List.length_append, List.map_append]; exact hown) (by rw [hv]; exact hg) (by rw [hv]; exact hat)
  exact this
theorem five_own4 (h : MS w H (five an cn ns ag cg gs au cu us af cf fs at' ct ts)) : w.ownsRow H 3 1 (.slice at' ts.length ct) ts.length (ts.map nI) := by
  have := h.own 4 _ rfl
  simp only [List.length_map] at this
  exact this
theorem five_cell4 (h : MS w H (five an cn ns ag cg gs au cu us af cf fs at' ct ts)) {j : Nat} {x : Nat} (hj : ts[j]? = some x) : ∃ q, at' = some ⟨q, 0, none⟩ ∧ w.cell? ⟨q, j, none⟩ = some (nI x) ∧ w.frozen? ⟨q, j, none⟩ = false ∧ H ≤ q ∧ q < w.heap.size :=
  h.cell (k := 4) (r := ⟨3, at', ct, ts.map nI⟩) rfl (i := j) (v := nI x) (by simp [hj])
theorem five_put1 {q : Nat} (h : MS w H (five an cn ns (some ⟨q, 0, none⟩) cg gs au cu us af cf fs at' ct ts)) (j : Nat) (x : Bool) : MS (w.setCell ⟨q, j, none⟩ (.bool x)) H (five an cn ns (some ⟨q, 0, none⟩) cg (gs.set j x) au cu us af cf fs at' ct ts) := by
  have := MS.put h (k := 1) (e := 4) (q := q) (c := cg) (xs := gs.map .bool) rfl j (.bool x)
  rw [← List.map_set] at this
  exact this
theorem five_put2 {q : Nat} (h : MS w H (five an cn ns ag cg gs (some ⟨q, 0, none⟩) cu us af cf fs at' ct ts)) (j : Nat) (x : Bool) : MS (w.setCell ⟨q, j, none⟩ (.bool x)) H (five an cn ns ag cg gs (some ⟨q, 0, none⟩) cu (us.set j x) af cf fs at' ct ts) := by
  have := MS.put h (k := 2) (e := 4) (q := q) (c := cu) (xs := us.map .bool) rfl j (.bool x)
  rw [← List.map_set] at this
  exact this
theorem five_rowN (h : MS w H (five an cn ns ag cg gs au cu us af cf fs at' ct ts)) : ∃ q, Row w an ns.length (fun i => .string (ns.getD i ByteArray.empty)) q 0 := by
  obtain ⟨q, hq⟩ := h.row (k := 0) (r := ⟨9, an, cn, ns.map .string⟩) rfl (fun i => .string (ns.getD i ByteArray.empty)) (fun i hi => by
    have hi' : i < ns.length := by simpa using hi
    simp [List.getElem?_map, List.getElem?_eq_getElem hi', List.getD_eq_getElem?_getD])
  simp only [List.length_map] at hq
  exact ⟨q, hq⟩
end
end Go.Proofs.Qxb6601564a

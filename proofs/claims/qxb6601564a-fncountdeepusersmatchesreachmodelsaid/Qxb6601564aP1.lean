/-
  The plain law: no Go in sight. A graph is grown out of records; a user is deep where a granted name is reached, but not within ten links.
-/
namespace Go.Proofs.Qxb6601564a

/-- One record as both functions read it: is it a p record; its first and its second field. -/
structure Rc where
  p : Bool
  a : ByteArray
  b : ByteArray

/-- The place of s among the names; their number where it is none of them. -/
def ix (names : List ByteArray) (s : ByteArray) : Nat := names.findIdx (fun x => x.toList == s.toList)

structure Gr where
  names : List ByteArray
  gr : List Bool
  us : List Bool
  E : List (Nat × Nat)
  U : List Nat

def Gr.add (g : Gr) (s : ByteArray) : Gr :=
  if ix g.names s < g.names.length then g else { g with names := g.names ++ [s], gr := g.gr ++ [false], us := g.us ++ [false] }

/-- The second fields of the links from i. -/
def bl (E : List (Nat × Nat)) (i : Nat) : List Nat := (E.filter (fun e => e.1 == i)).map (·.2)

def Gr.grant (g : Gr) (s : ByteArray) : Gr := { g.add s with gr := (g.add s).gr.set (ix g.names s) true }
/-- A link from a to b is laid; c: the first field is a role. -/
def Gr.tie (g : Gr) (c : Bool) (a b : Nat) : Gr :=
  { g with E := g.E ++ [(a, b)], us := if c then g.us else g.us.set a true, U := if c = false ∧ (bl g.E a).length = 0 then g.U ++ [a] else g.U }
def Gr.link (role : ByteArray → Bool) (g : Gr) (s t : ByteArray) : Gr := ((g.add s).add t).tie (role s) (ix g.names s) (ix (g.add s).names t)
def Gr.step (role : ByteArray → Bool) (g : Gr) (r : Rc) : Gr := if r.p then g.grant r.a else g.link role r.a r.b
def Gr.empty : Gr := ⟨[], [], [], [], []⟩
def Gr.upto (role : ByteArray → Bool) (rc : Nat → Rc) : Nat → Gr
  | 0 => Gr.empty
  | k + 1 => (Gr.upto role rc k).step role (rc k)

/-! ### Names -/
theorem ix_le (names : List ByteArray) (s : ByteArray) : ix names s ≤ names.length := List.findIdx_le_length
theorem toList_data (s : ByteArray) : s.toList = s.data.toList := by
  have : ∀ (n i : Nat) (r : List UInt8), s.size - i = n → i ≤ s.size → ByteArray.toList.loop s i r = r.reverse ++ s.data.toList.drop i := by
    intro n
    induction n with
    | zero =>
      intro i r h1 h2
      have hd : s.data.toList.drop i = [] := List.drop_eq_nil_of_le (by simp only [Array.length_toList]; show s.size ≤ i; omega)
      rw [ByteArray.toList.loop, if_neg (by omega), hd, List.append_nil]
    | succ n ih =>
      intro i r h1 h2
      have hlt : i < s.size := by omega
      rw [ByteArray.toList.loop, if_pos hlt, ih (i + 1) _ (by omega) (by omega)]
      have hl : i < s.data.toList.length := by simp only [Array.length_toList]; exact hlt
      rw [List.drop_eq_getElem_cons hl]
      simp [ByteArray.get!]
      exact (getElem!_pos s.data i hlt)
  unfold ByteArray.toList
  rw [this s.size 0 [] (by omega) (by omega)]
  simp
theorem toList_inj {s t : ByteArray} (h : s.toList = t.toList) : s = t := by
  rw [toList_data, toList_data] at h
  cases s; cases t; congr 1; exact Array.ext' h

theorem ix_get {names : List ByteArray} {s : ByteArray} (h : ix names s < names.length) : names[ix names s]? = some s := by
  have h1 := List.findIdx_getElem (w := h)
  simp only [beq_iff_eq] at h1
  rw [List.getElem?_eq_getElem h]
  exact congrArg some (toList_inj h1)
theorem ix_lt_of_get {names : List ByteArray} {s : ByteArray} {i : Nat} (h : names[i]? = some s) : ix names s ≤ i ∧ ix names s < names.length := by
  have hi : i < names.length := (List.getElem?_eq_some_iff.1 h).1
  have hs : names[i] = s := (List.getElem?_eq_some_iff.1 h).2
  have : ix names s ≤ i := by
    rcases Nat.lt_or_ge i (ix names s) with hlt | hge
    · have := List.not_of_lt_findIdx hlt
      rw [hs] at this
      simp at this
    · exact hge
  exact ⟨this, by omega⟩
theorem ix_append {names : List ByteArray} {s : ByteArray} (h : ¬ ix names s < names.length) : ix (names ++ [s]) s = names.length := by
  have hle := ix_le names s
  have h1 : (names ++ [s])[names.length]? = some s := by simp
  have := (ix_lt_of_get h1).1
  rcases Nat.lt_or_ge (ix (names ++ [s]) s) names.length with hlt | hge
  · have h2 := ix_get (ix_lt_of_get h1).2
    rw [List.getElem?_append_left hlt] at h2
    have := (ix_lt_of_get h2).2
    omega
  · omega
theorem add_names_of_lt {g : Gr} {s : ByteArray} (h : ix g.names s < g.names.length) : g.add s = g := by simp [Gr.add, h]
theorem add_of_not {g : Gr} {s : ByteArray} (h : ¬ ix g.names s < g.names.length) : g.add s = { g with names := g.names ++ [s], gr := g.gr ++ [false], us := g.us ++ [false] } := by simp only [Gr.add, if_neg h]
theorem add_get (g : Gr) (s : ByteArray) : (g.add s).names[ix g.names s]? = some s := by
  by_cases h : ix g.names s < g.names.length
  · rw [add_names_of_lt h]; exact ix_get h
  · rw [add_of_not h]
    have := ix_le g.names s
    have e : ix g.names s = g.names.length := by omega
    simp [e]
theorem add_lt (g : Gr) (s : ByteArray) : ix g.names s < (g.add s).names.length := (List.getElem?_eq_some_iff.1 (add_get g s)).1
theorem add_old {g : Gr} {s : ByteArray} {i : Nat} {x : ByteArray} (h : g.names[i]? = some x) : (g.add s).names[i]? = some x := by
  by_cases hl : ix g.names s < g.names.length
  · rw [add_names_of_lt hl]; exact h
  · rw [add_of_not hl]
    have hi : i < g.names.length := (List.getElem?_eq_some_iff.1 h).1
    simpa [List.getElem?_append_left hi] using h
theorem add_E (g : Gr) (s : ByteArray) : (g.add s).E = g.E ∧ (g.add s).U = g.U := by unfold Gr.add; split <;> simp
theorem add_len (g : Gr) (s : ByteArray) : g.names.length ≤ (g.add s).names.length ∧ (g.add s).names.length ≤ g.names.length + 1 := by
  unfold Gr.add; split <;> simp

/-! ### The invariant -/
structure Inv (role : ByteArray → Bool) (g : Gr) : Prop where
  lgr : g.gr.length = g.names.length
  lus : g.us.length = g.names.length
  uniq : ∀ (i j : Nat) (x : ByteArray), g.names[i]? = some x → g.names[j]? = some x → i = j
  e1 : ∀ e ∈ g.E, e.1 < g.names.length ∧ e.2 < g.names.length
  nodup : g.U.Nodup
  memU : ∀ u : Nat, u ∈ g.U ↔ g.us[u]? = some true
  usE : ∀ u : Nat, g.us[u]? = some true → (bl g.E u).length ≠ 0
  Eus : ∀ (u : Nat) (x : ByteArray), (bl g.E u).length ≠ 0 → g.names[u]? = some x → role x = false → g.us[u]? = some true

theorem Inv.empty (role : ByteArray → Bool) : Inv role Gr.empty := by
  refine ⟨rfl, rfl, ?_, ?_, ?_, ?_, ?_, ?_⟩ <;> simp [Gr.empty, bl]

theorem Inv.add {role : ByteArray → Bool} {g : Gr} (h : Inv role g) (s : ByteArray) : Inv role (g.add s) := by
  by_cases hl : ix g.names s < g.names.length
  · rw [add_names_of_lt hl]; exact h
  · rw [add_of_not hl]
    have hne : ∀ i : Nat, g.names[i]? ≠ some s := fun i hi => hl (ix_lt_of_get hi).2
    have hus : ∀ u : Nat, (g.us ++ [false])[u]? = some true ↔ g.us[u]? = some true := fun u => by
      rw [List.getElem?_append]
      split
      · rfl
      · rename_i hge
        rw [List.getElem?_eq_none (by omega : g.us.length ≤ u)]
        cases hu : u - g.us.length <;> simp
    refine ⟨by simp [h.lgr], by simp [h.lus], ?_, fun e he => ?_, h.nodup, fun u => ?_, fun u hu => ?_, fun u x hb hx hr => ?_⟩
    · intro i j x hi hj
      simp only [List.getElem?_append] at hi hj
      split at hi <;> split at hj
      · exact h.uniq i j x hi hj
      · rename_i _ hj'
        cases hz : j - g.names.length with
        | zero => simp [hz] at hj; subst hj; exact absurd hi (hne i)
        | succ m => simp [hz] at hj
      · rename_i hi' _
        cases hz : i - g.names.length with
        | zero => simp [hz] at hi; subst hi; exact absurd hj (hne j)
        | succ m => simp [hz] at hi
      · rename_i hi' hj'
        cases hz : i - g.names.length with
        | succ m => simp [hz] at hi
        | zero =>
          cases hz' : j - g.names.length with
          | succ m => simp [hz'] at hj
          | zero => omega
    · have := h.e1 e he
      simp; omega
    · rw [h.memU u]; exact (hus u).symm
    · exact h.usE u ((hus u).1 hu)
    · refine (hus u).2 ?_
      have hul : u < g.names.length := by
        rcases Nat.lt_or_ge u g.names.length with hlt | hge
        · exact hlt
        · exfalso
          apply hb
          show (bl g.E u).length = 0
          unfold bl
          rw [List.length_map, List.length_eq_zero_iff, List.filter_eq_nil_iff]
          intro e he
          have := (h.e1 e he).1
          simp; omega
      refine h.Eus u x hb ?_ hr
      have : (g.names ++ [s])[u]? = some x := hx
      rwa [List.getElem?_append_left hul] at this

theorem getElem?_set_true (l : List Bool) (a u : Nat) : (l.set a true)[u]? = some true ↔ (l[u]? = some true ∨ (u = a ∧ a < l.length)) := by
  rw [List.getElem?_set]
  split
  · rename_i h
    subst h
    split <;> simp_all
  · rename_i h
    constructor
    · exact .inl
    · rintro (h' | ⟨h', _⟩)
      · exact h'
      · exact absurd h'.symm h

theorem Inv.grant {role : ByteArray → Bool} {g : Gr} (h : Inv role g) (s : ByteArray) : Inv role (g.grant s) := by
  have h1 := h.add s
  exact ⟨by simp [Gr.grant, h1.lgr], h1.lus, h1.uniq, h1.e1, h1.nodup, h1.memU, h1.usE, h1.Eus⟩

theorem bl_snoc (E : List (Nat × Nat)) (a b i : Nat) : bl (E ++ [(a, b)]) i = if a = i then bl E i ++ [b] else bl E i := by
  unfold bl
  rw [List.filter_append, List.map_append]
  by_cases h : a = i <;> simp [h]

theorem Inv.link {role : ByteArray → Bool} {g : Gr} (h : Inv role g) (s t : ByteArray) : Inv role (g.link role s t) := by
  have h1 := h.add s
  have h2 := h1.add t
  have hga := add_get g s
  have hga2 : ((g.add s).add t).names[ix g.names s]? = some s := add_old hga
  have hal : ix g.names s < ((g.add s).add t).names.length := (List.getElem?_eq_some_iff.1 hga2).1
  have hbl' : ix (g.add s).names t < ((g.add s).add t).names.length := add_lt (g.add s) t
  have hb0 : ∀ u, (bl (((g.add s).add t).E ++ [(ix g.names s, ix (g.add s).names t)]) u).length ≠ 0 ↔ ((bl ((g.add s).add t).E u).length ≠ 0 ∨ u = ix g.names s) := fun u => by
    rw [bl_snoc]
    split
    · rename_i e; simp [e]
    · rename_i e
      constructor
      · exact .inl
      · rintro (h' | h')
        · exact h'
        · exact absurd h'.symm e
  show Inv role (((g.add s).add t).tie (role s) (ix g.names s) (ix (g.add s).names t))
  generalize ix (g.add s).names t = b at *
  generalize ix g.names s = a at *
  generalize (g.add s).add t = g2 at *
  unfold Gr.tie
  by_cases hr : role s = true
  · simp only [hr, if_true]
    have hf : ¬ ((true = false) ∧ (bl g2.E a).length = 0) := by simp
    rw [if_neg hf]
    refine ⟨h2.lgr, h2.lus, h2.uniq, ?_, h2.nodup, h2.memU, ?_, ?_⟩
    · intro e he
      rcases List.mem_append.1 he with he | he
      · exact h2.e1 e he
      · simp at he; subst he; exact ⟨hal, hbl'⟩
    · intro u hu
      exact (hb0 u).2 (.inl (h2.usE u hu))
    · intro u x hb hx hrx
      rcases (hb0 u).1 hb with hb | hb
      · exact h2.Eus u x hb hx hrx
      · subst hb
        have hx' : g2.names[u]? = some x := hx
        rw [hga2] at hx'
        simp at hx'
        subst hx'
        rw [hr] at hrx
        cases hrx
  · have hr' : role s = false := by simpa using hr
    simp only [hr', Bool.false_eq_true, if_false, true_and]
    have husz : a < g2.us.length := by rw [h2.lus]; exact hal
    have hus : ∀ u, (g2.us.set a true)[u]? = some true ↔ (g2.us[u]? = some true ∨ u = a) := fun u => by
      rw [getElem?_set_true]
      constructor
      · rintro (h' | ⟨h', _⟩)
        · exact .inl h'
        · exact .inr h'
      · rintro (h' | h')
        · exact .inl h'
        · exact .inr ⟨h', husz⟩
    refine ⟨h2.lgr, by simp [h2.lus], h2.uniq, ?_, ?_, ?_, ?_, ?_⟩
    · intro e he
      rcases List.mem_append.1 he with he | he
      · exact h2.e1 e he
      · simp at he; subst he; exact ⟨hal, hbl'⟩
    · split
      · rename_i h0
        have hna : a ∉ g2.U := fun hm => h2.usE a ((h2.memU a).1 hm) h0
        rw [List.nodup_append]
        refine ⟨h2.nodup, by simp, ?_⟩
        intro x hx y hy
        simp at hy
        subst hy
        intro e
        subst e
        exact hna hx
      · exact h2.nodup
    · intro u
      rw [hus u]
      split
      · rw [List.mem_append, h2.memU u]; simp
      · rename_i h0
        rw [h2.memU u]
        constructor
        · exact .inl
        · rintro (h' | h')
          · exact h'
          · subst h'
            exact h2.Eus u s h0 hga2 hr'
    · intro u hu
      rcases (hus u).1 hu with hu | hu
      · exact (hb0 u).2 (.inl (h2.usE u hu))
      · exact (hb0 u).2 (.inr hu)
    · intro u x hb hx hrx
      refine (hus u).2 ?_
      rcases (hb0 u).1 hb with hb | hb
      · exact .inl (h2.Eus u x hb hx hrx)
      · exact .inr hb

theorem Inv.step {role : ByteArray → Bool} {g : Gr} (h : Inv role g) (r : Rc) : Inv role (g.step role r) := by
  unfold Gr.step
  split
  · exact h.grant _
  · exact h.link _ _
theorem Inv.upto (role : ByteArray → Bool) (rc : Nat → Rc) : ∀ k, Inv role (Gr.upto role rc k)
  | 0 => Inv.empty role
  | k + 1 => (Inv.upto role rc k).step (rc k)
theorem upto_len (role : ByteArray → Bool) (rc : Nat → Rc) : ∀ k, (Gr.upto role rc k).names.length ≤ 2 * k ∧ (Gr.upto role rc k).E.length ≤ k
  | 0 => by simp [Gr.upto, Gr.empty]
  | k + 1 => by
    have ih := upto_len role rc k
    have h1 := (add_len (Gr.upto role rc k) (rc k).a).2
    have h2 := (add_len ((Gr.upto role rc k).add (rc k).a) (rc k).b).2
    have e1 := (add_E (Gr.upto role rc k) (rc k).a).1
    have e2 := (add_E ((Gr.upto role rc k).add (rc k).a) (rc k).b).1
    show ((Gr.upto role rc k).step role (rc k)).names.length ≤ _ ∧ ((Gr.upto role rc k).step role (rc k)).E.length ≤ _
    unfold Gr.step
    split
    · simp only [Gr.grant, e1]
      omega
    · simp only [Gr.link, Gr.tie, List.length_append, List.length_cons, List.length_nil, e2, e1]
      omega

/-! ### Reaching -/
def wi (E : List (Nat × Nat)) (u : Nat) : Nat → Nat → Prop
  | 0, r => r = u
  | k + 1, r => wi E u k r ∨ ∃ n, wi E u k n ∧ (n, r) ∈ E
def deepP (g : Gr) (u : Nat) : Prop := ∃ r, g.gr[r]? = some true ∧ (∃ k, wi g.E u k r) ∧ ¬ wi g.E u 10 r
theorem wi_mono {E : List (Nat × Nat)} {u r : Nat} {j k : Nat} (h : j ≤ k) (hw : wi E u j r) : wi E u k r := by
  induction k with
  | zero => have : j = 0 := by omega
            subst this; exact hw
  | succ k ih =>
    by_cases e : j = k + 1
    · subst e; exact hw
    · exact .inl (ih (by omega))
theorem mem_bl {E : List (Nat × Nat)} {n r : Nat} : r ∈ bl E n ↔ (n, r) ∈ E := by
  unfold bl
  simp only [List.mem_map, List.mem_filter, beq_iff_eq]
  constructor
  · rintro ⟨e, ⟨he, h1⟩, h2⟩
    obtain ⟨x, y⟩ := e
    simp at h1 h2
    subst h1; subst h2
    exact he
  · intro h
    exact ⟨(n, r), ⟨h, rfl⟩, rfl⟩
/-- A set that holds u and is closed under links holds all that is reached. -/
theorem wi_closed {E : List (Nat × Nat)} {u : Nat} {S : Nat → Prop} (hu : S u) (hc : ∀ n r, S n → (n, r) ∈ E → S r) : ∀ k r, wi E u k r → S r
  | 0, r, h => by cases h; exact hu
  | k + 1, r, h => by
    rcases h with h | ⟨n, h1, h2⟩
    · exact wi_closed hu hc k r h
    · exact hc n r (wi_closed hu hc k n h1) h2

/-! ### Counting -/
def IsCnt (p : Nat → Prop) (c : Nat) : Prop := ∃ l : List Nat, l.Nodup ∧ (∀ u, u ∈ l ↔ p u) ∧ l.length = c
theorem nodup_le : ∀ (l m : List Nat), l.Nodup → (∀ x, x ∈ l → x ∈ m) → l.length ≤ m.length
  | [], _, _, _ => by simp
  | x :: l, m, hn, hs => by
    obtain ⟨h1, h2⟩ := List.nodup_cons.1 hn
    have hx : x ∈ m := hs x (by simp)
    have := nodup_le l (m.erase x) h2 (fun y hy => (List.mem_erase_of_ne (fun e : y = x => h1 (by rw [← e]; exact hy))).2 (hs y (by simp [hy])))
    rw [List.length_erase_of_mem hx] at this
    have hpos : 0 < m.length := List.length_pos_of_mem hx
    simp
    omega
theorem IsCnt.unique {p : Nat → Prop} {c d : Nat} (h : IsCnt p c) (h' : IsCnt p d) : c = d := by
  obtain ⟨l, h1, h2, h3⟩ := h
  obtain ⟨m, h4, h5, h6⟩ := h'
  have a := nodup_le l m h1 (fun x hx => (h5 x).2 ((h2 x).1 hx))
  have b := nodup_le m l h4 (fun x hx => (h2 x).2 ((h5 x).1 hx))
  omega
theorem IsCnt.zero {p : Nat → Prop} (h : ∀ u, ¬ p u) : IsCnt p 0 := ⟨[], by simp, fun u => by simp [h u], rfl⟩
theorem IsCnt.add {p q : Nat → Prop} {c u : Nat} (h : IsCnt p c) (hu : ¬ p u) (hq : ∀ x, q x ↔ (p x ∨ x = u)) : IsCnt q (c + 1) := by
  obtain ⟨l, h1, h2, h3⟩ := h
  refine ⟨u :: l, List.nodup_cons.2 ⟨fun hm => hu ((h2 u).1 hm), h1⟩, fun x => ?_, by simp [h3]⟩
  rw [hq x, ← h2 x]
  simp
  exact Or.comm
theorem IsCnt.same {p q : Nat → Prop} {c : Nat} (h : IsCnt p c) (hq : ∀ x, q x ↔ p x) : IsCnt q c := by
  obtain ⟨l, h1, h2, h3⟩ := h
  exact ⟨l, h1, fun x => by rw [hq x]; exact h2 x, h3⟩
end Go.Proofs.Qxb6601564a

/-
  The plain law of the model's rounds: no Go in sight.
-/
import Derived.Test.Qxb6601564aP1
namespace Go.Proofs.Qxb6601564a

/-- After t rounds. -/
structure Near (g : Gr) (u t : Nat) (nr : List Bool) : Prop where
  len : nr.length = g.names.length
  mem : ∀ r, nr[r]? = some true ↔ (r < g.names.length ∧ wi g.E u t r)
/-- Inside a round: e links are read. -/
structure Nmid (g : Gr) (pv : List Bool) (e : Nat) (nr : List Bool) : Prop where
  len : nr.length = g.names.length
  mem : ∀ r, nr[r]? = some true ↔ (pv[r]? = some true ∨ ∃ i n, i < e ∧ g.E[i]? = some (n, r) ∧ pv[n]? = some true)

theorem set_true_iff (l : List Bool) (a r : Nat) (ha : a < l.length) : (l.set a true)[r]? = some true ↔ (l[r]? = some true ∨ r = a) := by
  by_cases e : r = a
  · subst e; rw [List.getElem?_set_self ha]; simp
  · rw [List.getElem?_set_ne (fun e' => e e'.symm)]; simp [e]
theorem Near.start {g : Gr} {u : Nat} (hu : u < g.names.length) : Near g u 0 ((List.replicate g.names.length false).set u true) := by
  refine ⟨by simp, fun r => ?_⟩
  rw [set_true_iff _ _ _ (by simpa using hu)]
  constructor
  · rintro (h | h)
    · have := List.getElem?_replicate (a := false) (n := g.names.length) (i := r)
      rw [this] at h
      split at h <;> simp at h
    · subst h; exact ⟨hu, rfl⟩
  · rintro ⟨_, h⟩; exact .inr h
theorem Near.mid {g : Gr} {u t : Nat} {nr : List Bool} (h : Near g u t nr) : Nmid g nr 0 nr := ⟨h.len, fun r => by simp⟩
theorem Nmid.hit {g : Gr} {pv nr : List Bool} {e n r0 : Nat} (h : Nmid g pv e nr) (he : g.E[e]? = some (n, r0)) (hn : pv[n]? = some true) (hr : r0 < g.names.length) : Nmid g pv (e + 1) (nr.set r0 true) := by
  refine ⟨by simp [h.len], fun r => ?_⟩
  rw [set_true_iff _ _ _ (by rw [h.len]; exact hr), h.mem r]
  constructor
  · rintro ((h1 | ⟨i, n', h1, h2, h3⟩) | h1)
    · exact .inl h1
    · exact .inr ⟨i, n', by omega, h2, h3⟩
    · subst h1; exact .inr ⟨e, n, by omega, he, hn⟩
  · rintro (h1 | ⟨i, n', h1, h2, h3⟩)
    · exact .inl (.inl h1)
    · by_cases e' : i = e
      · subst e'
        rw [he] at h2
        obtain ⟨rfl, rfl⟩ := Prod.mk.inj (Option.some.inj h2)
        exact .inr rfl
      · exact .inl (.inr ⟨i, n', by omega, h2, h3⟩)
theorem Nmid.miss {g : Gr} {pv nr : List Bool} {e n r0 : Nat} (h : Nmid g pv e nr) (he : g.E[e]? = some (n, r0)) (hn : pv[n]? ≠ some true) : Nmid g pv (e + 1) nr := by
  refine ⟨h.len, fun r => ?_⟩
  rw [h.mem r]
  constructor
  · rintro (h1 | ⟨i, n', h1, h2, h3⟩)
    · exact .inl h1
    · exact .inr ⟨i, n', by omega, h2, h3⟩
  · rintro (h1 | ⟨i, n', h1, h2, h3⟩)
    · exact .inl h1
    · by_cases e' : i = e
      · subst e'
        rw [he] at h2
        obtain ⟨rfl, rfl⟩ := Prod.mk.inj (Option.some.inj h2)
        exact absurd h3 hn
      · exact .inr ⟨i, n', by omega, h2, h3⟩
theorem Near.next {g : Gr} {u t : Nat} {pv nr : List Bool} (h : Near g u t pv) (hm : Nmid g pv g.E.length nr) (hE : ∀ e ∈ g.E, e.1 < g.names.length ∧ e.2 < g.names.length) : Near g u (t + 1) nr := by
  refine ⟨hm.len, fun r => ?_⟩
  rw [hm.mem r, h.mem r]
  constructor
  · rintro (h1 | ⟨i, n, h1, h2, h3⟩)
    · exact ⟨h1.1, .inl h1.2⟩
    · have hmem := List.mem_of_getElem? h2
      exact ⟨(hE _ hmem).2, .inr ⟨n, ((h.mem n).1 h3).2, hmem⟩⟩
  · rintro ⟨hr, h1 | ⟨n, h1, h2⟩⟩
    · exact .inl ⟨hr, h1⟩
    · obtain ⟨i, hi, hg⟩ := List.getElem_of_mem h2
      exact .inr ⟨i, n, hi, by rw [List.getElem?_eq_getElem hi, hg], (h.mem n).2 ⟨(hE _ h2).1, h1⟩⟩

/-- What the closure holds at every time. -/
structure Al (g : Gr) (u : Nat) (al : List Bool) : Prop where
  len : al.length = g.names.length
  hu : al[u]? = some true
  sound : ∀ r, al[r]? = some true → ∃ k, wi g.E u k r
/-- The places not in it. -/
def nf (al : List Bool) : Nat := (al.filter (fun b => !b)).length
theorem nf_le (al : List Bool) : nf al ≤ al.length := List.length_filter_le _ _
theorem nf_set {al : List Bool} {r : Nat} (h : al[r]? = some false) : nf (al.set r true) + 1 = nf al := by
  unfold nf
  induction al generalizing r with
  | nil => simp at h
  | cons x al ih =>
    cases r with
    | zero =>
      have hx : x = false := by simpa using h
      subst hx
      simp
    | succ r =>
      have := ih (r := r) (by simpa using h)
      simp only [List.set_cons_succ, List.filter_cons]
      split
      · simp only [List.length_cons]; omega
      · exact this
/-- Inside a pass: e links are read; c: has anything changed. -/
structure Pass (g : Gr) (u : Nat) (al0 : List Bool) (e : Nat) (c : Bool) (al : List Bool) : Prop where
  ok : Al g u al
  no : c = false → al = al0 ∧ ∀ i n r, i < e → g.E[i]? = some (n, r) → al[n]? = some true → al[r]? = some true
  yes : c = true → nf al < nf al0
theorem Al.start {g : Gr} {u : Nat} (hu : u < g.names.length) : Al g u ((List.replicate g.names.length false).set u true) := by
  have h := Near.start hu
  exact ⟨h.len, (h.mem u).2 ⟨hu, rfl⟩, fun r hr => ⟨0, ((h.mem r).1 hr).2⟩⟩
theorem Al.pass {g : Gr} {u : Nat} {al : List Bool} (h : Al g u al) : Pass g u al 0 false al := ⟨h, fun _ => ⟨rfl, fun i n r hi => by omega⟩, fun h => by cases h⟩
theorem Pass.hit {g : Gr} {u e n r : Nat} {al0 al : List Bool} {c : Bool} (h : Pass g u al0 e c al) (he : g.E[e]? = some (n, r)) (hn : al[n]? = some true) (hr : al[r]? = some false) : Pass g u al0 (e + 1) true (al.set r true) := by
  have hrl : r < al.length := (List.getElem?_eq_some_iff.1 hr).1
  refine ⟨⟨by simp [h.ok.len], ?_, fun x hx => ?_⟩, fun h => (by cases h), fun _ => ?_⟩
  · rw [set_true_iff _ _ _ hrl]; exact .inl h.ok.hu
  · rcases (set_true_iff _ _ _ hrl).1 hx with h1 | h1
    · exact h.ok.sound x h1
    · subst h1
      obtain ⟨k, hk⟩ := h.ok.sound n hn
      exact ⟨k + 1, .inr ⟨n, hk, List.mem_of_getElem? he⟩⟩
  · have h1 := nf_set hr
    cases c with
    | true => have := h.yes rfl; omega
    | false => have := (h.no rfl).1; subst this; omega
theorem Pass.miss {g : Gr} {u e n r : Nat} {al0 al : List Bool} {c : Bool} (h : Pass g u al0 e c al) (he : g.E[e]? = some (n, r)) (hn : al[n]? = some true → al[r]? = some true) : Pass g u al0 (e + 1) c al := by
  refine ⟨h.ok, fun hc => ⟨(h.no hc).1, fun i n' r' hi hE hn' => ?_⟩, h.yes⟩
  by_cases e' : i = e
  · subst e'
    rw [he] at hE
    obtain ⟨rfl, rfl⟩ := Prod.mk.inj (Option.some.inj hE)
    exact hn hn'
  · exact (h.no hc).2 i n' r' (by omega) hE hn'
/-- A pass that changes nothing: the closure stands. -/
theorem Pass.closed {g : Gr} {u : Nat} {al0 al : List Bool} (h : Pass g u al0 g.E.length false al) : ∀ r, al[r]? = some true ↔ ∃ k, wi g.E u k r := by
  intro r
  refine ⟨h.ok.sound r, fun ⟨k, hk⟩ => ?_⟩
  exact wi_closed (S := fun x => al[x]? = some true) h.ok.hu (fun n r hn hr => by
    obtain ⟨i, hi, hg⟩ := List.getElem_of_mem hr
    exact (h.no rfl).2 i n r hi (by rw [List.getElem?_eq_getElem hi, hg]) hn) k r hk
theorem cnt_next_no {g : Gr} {j c : Nat} (h : IsCnt (fun x => x < j ∧ g.us[x]? = some true ∧ deepP g x) c) (hn : ¬ (g.us[j]? = some true ∧ deepP g j)) : IsCnt (fun x => x < j + 1 ∧ g.us[x]? = some true ∧ deepP g x) c :=
  h.same (fun x => by
    constructor
    · rintro ⟨h1, h2⟩
      by_cases e : x = j
      · subst e; exact absurd h2 hn
      · exact ⟨by omega, h2⟩
    · rintro ⟨h1, h2⟩; exact ⟨by omega, h2⟩)
theorem cnt_next_yes {g : Gr} {j c : Nat} (h : IsCnt (fun x => x < j ∧ g.us[x]? = some true ∧ deepP g x) c) (hy : g.us[j]? = some true ∧ deepP g j) : IsCnt (fun x => x < j + 1 ∧ g.us[x]? = some true ∧ deepP g x) (c + 1) :=
  h.add (u := j) (fun h => by omega) (fun x => by
    constructor
    · rintro ⟨h1, h2⟩
      by_cases e : x = j
      · exact .inr e
      · exact .inl ⟨by omega, h2⟩
    · rintro (⟨h1, h2⟩ | rfl)
      · exact ⟨by omega, h2⟩
      · exact ⟨by omega, hy⟩)
end Go.Proofs.Qxb6601564a

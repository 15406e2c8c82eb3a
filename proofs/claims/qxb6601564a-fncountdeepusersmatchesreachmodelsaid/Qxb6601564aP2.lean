/-
  The plain law of the walk level by level: no Go in sight.
-/
import Derived.Test.Qxb6601564aP1
namespace Go.Proofs.Qxb6601564a

/-- What holds at the head of round t of the walk from u: L: the level; 'rs': the marks, m: the mark of this walk. -/
structure Lev (g : Gr) (u t m : Nat) (L rs : List Nat) : Prop where
  len : rs.length = g.names.length
  mark : ∀ r, rs[r]? = some m ↔ (r < g.names.length ∧ wi g.E u t r)
  lev : ∀ x, x ∈ L → wi g.E u t x ∧ x < g.names.length
  closed : ∀ n, wi g.E u t n → n ∉ L → ∀ r, (n, r) ∈ g.E → wi g.E u t r
  calm : ∀ r, g.gr[r]? = some true → wi g.E u t r → wi g.E u 10 r
  le : ∀ r, r ∈ rs → r ≤ m
/-- The number of places without the mark. -/
def um (rs : List Nat) (m : Nat) : Nat := (rs.filter (fun r => r != m)).length
/-- Inside a round: the first p names of the level are done, and the first q links of the next: 'done r'. -/
structure Mid (g : Gr) (u t m : Nat) (done : Nat → Prop) (M rs : List Nat) (um0 : Nat) : Prop where
  len : rs.length = g.names.length
  mark : ∀ r, rs[r]? = some m ↔ (r < g.names.length ∧ (wi g.E u t r ∨ done r))
  nxt : ∀ r, r ∈ M ↔ (r < g.names.length ∧ done r ∧ ¬ wi g.E u t r)
  calm : ∀ r, r ∈ M → 10 ≤ t → g.gr[r]? ≠ some true
  le : ∀ r, r ∈ rs → r ≤ m
  cnt : um rs m + M.length = um0

theorem um_le (rs : List Nat) (m : Nat) : um rs m ≤ rs.length := List.length_filter_le _ _
theorem um_set {rs : List Nat} {m r : Nat} (hr : r < rs.length) (hne : rs[r]? ≠ some m) : um (rs.set r m) m + 1 = um rs m := by
  unfold um
  induction rs generalizing r with
  | nil => simp at hr
  | cons x rs ih =>
    cases r with
    | zero =>
      have hx : x ≠ m := fun e => hne (by simp [e])
      simp [hx]
    | succ r =>
      have := ih (r := r) (by simpa using hr) (by simpa using hne)
      simp only [List.set_cons_succ, List.filter_cons]
      split
      · simp only [List.length_cons]; omega
      · exact this
theorem um_mem {rs : List Nat} {m r : Nat} {x : Nat} (h : rs[r]? = some x) (hne : x ≠ m) : 1 ≤ um rs m := by
  unfold um
  have : x ∈ rs.filter (fun r => r != m) := List.mem_filter.2 ⟨List.mem_of_getElem? h, by simpa using hne⟩
  exact List.length_pos_of_mem this

theorem Lev.mid {g : Gr} {u t m : Nat} {L rs : List Nat} (h : Lev g u t m L rs) : Mid g u t m (fun _ => False) [] rs (um rs m) :=
  ⟨h.len, fun r => by rw [h.mark r]; simp, fun r => by simp, fun r hr => by simp at hr, h.le, by simp⟩
theorem Mid.congr {g : Gr} {u t m : Nat} {d d' : Nat → Prop} {M rs : List Nat} {k : Nat} (h : Mid g u t m d M rs k) (hd : ∀ r, d' r ↔ d r) : Mid g u t m d' M rs k :=
  ⟨h.len, fun r => by rw [h.mark r, hd r], fun r => by rw [h.nxt r, hd r], h.calm, h.le, h.cnt⟩
/-- A link to r, which is marked already. -/
theorem Mid.old {g : Gr} {u t m : Nat} {d d' : Nat → Prop} {M rs : List Nat} {k : Nat} (h : Mid g u t m d M rs k) {r0 : Nat} (hm : rs[r0]? = some m) (hd : ∀ r, d' r ↔ (d r ∨ r = r0)) : Mid g u t m d' M rs k := by
  have h0 := (h.mark r0).1 hm
  have key : ∀ r, (wi g.E u t r ∨ d' r) ↔ (wi g.E u t r ∨ d r) := fun r => by
    rw [hd r]
    constructor
    · rintro (a | a | a)
      · exact .inl a
      · exact .inr a
      · subst a; exact h0.2
    · rintro (a | a)
      · exact .inl a
      · exact .inr (.inl a)
  refine ⟨h.len, fun r => by rw [h.mark r, key r], fun r => ?_, h.calm, h.le, h.cnt⟩
  rw [h.nxt r]
  constructor
  · rintro ⟨a, b, c⟩; exact ⟨a, (hd r).2 (.inl b), c⟩
  · rintro ⟨a, b, c⟩
    rcases (key r).1 (.inr b) with e | e
    · exact absurd e c
    · exact ⟨a, e, c⟩
/-- A link to r, which is not marked yet. -/
theorem Mid.new {g : Gr} {u t m : Nat} {d d' : Nat → Prop} {M rs : List Nat} {k : Nat} (h : Mid g u t m d M rs k) {r0 : Nat} (hr : r0 < g.names.length) (hm : rs[r0]? ≠ some m) (hg : 10 ≤ t → g.gr[r0]? ≠ some true) (hd : ∀ r, d' r ↔ (d r ∨ r = r0)) :
    Mid g u t m d' (M ++ [r0]) (rs.set r0 m) k := by
  have hr' : r0 < rs.length := by rw [h.len]; exact hr
  have hnw : ¬ wi g.E u t r0 ∧ ¬ d r0 := ⟨fun e => hm ((h.mark r0).2 ⟨hr, .inl e⟩), fun e => hm ((h.mark r0).2 ⟨hr, .inr e⟩)⟩
  refine ⟨by simp [h.len], fun r => ?_, fun r => ?_, fun r hrM ht => ?_, fun r hrs => ?_, ?_⟩
  · by_cases e : r = r0
    · subst e
      rw [List.getElem?_set_self hr', hd r]
      simp [hr]
    · rw [List.getElem?_set_ne (fun e' => e e'.symm), h.mark r, hd r]
      simp [e]
  · rw [List.mem_append, h.nxt r, hd r]
    simp only [List.mem_singleton]
    constructor
    · rintro (⟨a, b, c⟩ | a)
      · exact ⟨a, .inl b, c⟩
      · subst a; exact ⟨hr, .inr rfl, hnw.1⟩
    · rintro ⟨a, b | b, c⟩
      · exact .inl ⟨a, b, c⟩
      · exact .inr b
  · rcases List.mem_append.1 hrM with a | a
    · exact h.calm r a ht
    · simp at a; subst a; exact hg ht
  · rcases List.mem_or_eq_of_mem_set hrs with a | a
    · exact h.le r a
    · omega
  · have := um_set hr' hm
    have := h.cnt
    simp
    omega
/-- The round's end: the next level stands. -/
theorem Mid.next {g : Gr} {u t m : Nat} {L M rs rs0 : List Nat} {k : Nat} (hL : Lev g u t m L rs0) (h : Mid g u t m (fun r => ∃ n, n ∈ L ∧ (n, r) ∈ g.E) M rs k) (hE : ∀ e ∈ g.E, e.2 < g.names.length) : Lev g u (t + 1) m M rs := by
  have hw : ∀ r, wi g.E u (t + 1) r ↔ (wi g.E u t r ∨ ∃ n, n ∈ L ∧ (n, r) ∈ g.E) := fun r => by
    constructor
    · rintro (a | ⟨n, a, b⟩)
      · exact .inl a
      · by_cases hn : n ∈ L
        · exact .inr ⟨n, hn, b⟩
        · exact .inl (hL.closed n a hn r b)
    · rintro (a | ⟨n, a, b⟩)
      · exact .inl a
      · exact .inr ⟨n, (hL.lev n a).1, b⟩
  refine ⟨h.len, fun r => by rw [h.mark r, hw r], fun x hx => ?_, fun n hn hnM r hr => ?_, fun r hg hr => ?_, h.le⟩
  · have := (h.nxt x).1 hx
    exact ⟨(hw x).2 (.inr this.2.1), this.1⟩
  · by_cases hwn : wi g.E u t n
    · exact .inr ⟨n, hwn, hr⟩
    · exfalso
      rcases (hw n).1 hn with a | ⟨n', a, b⟩
      · exact hwn a
      · exact hnM ((h.nxt n).2 ⟨hE _ b, ⟨n', a, b⟩, hwn⟩)
  · by_cases hwr : wi g.E u t r
    · exact hL.calm r hg hwr
    · rcases (hw r).1 hr with a | ⟨n', a, b⟩
      · exact absurd a hwr
      · have hrM : r ∈ M := (h.nxt r).2 ⟨hE _ b, ⟨n', a, b⟩, hwr⟩
        by_cases ht : 10 ≤ t
        · exact absurd hg (h.calm r hrM ht)
        · exact wi_mono (by omega) hr
/-- The walk ends with an empty level: the user is not deep. -/
theorem Lev.done {g : Gr} {u t m : Nat} {rs : List Nat} (h : Lev g u t m [] rs) : ¬ deepP g u := by
  rintro ⟨r, hg, ⟨k, hk⟩, h10⟩
  have hu : wi g.E u t u := wi_mono (Nat.zero_le t) rfl
  have := wi_closed (S := fun x => wi g.E u t x) hu (fun n r hn hr => h.closed n hn (by simp) r hr) k r hk
  exact h10 (h.calm r hg this)
/-- A granted name is met beyond ten links: the user is deep. -/
theorem Lev.deep {g : Gr} {u t m : Nat} {L rs0 rs M : List Nat} {d : Nat → Prop} {k : Nat} (hL : Lev g u t m L rs0) (h : Mid g u t m d M rs k) {n r : Nat} (hn : n ∈ L) (hr : (n, r) ∈ g.E) (hlt : r < g.names.length) (hm : rs[r]? ≠ some m) (ht : 10 ≤ t) (hg : g.gr[r]? = some true) : deepP g u := by
  refine ⟨r, hg, ⟨t + 1, .inr ⟨n, (hL.lev n hn).1, hr⟩⟩, fun h10 => hm ((h.mark r).2 ⟨hlt, .inl (wi_mono ht h10)⟩)⟩
/-- The walk's start. -/
theorem Lev.start {g : Gr} {u m : Nat} {rs : List Nat} (hl : rs.length = g.names.length) (hu : u < g.names.length) (hle : ∀ r, r ∈ rs → r < m) : Lev g u 0 m [u] (rs.set u m) := by
  have hu' : u < rs.length := by omega
  refine ⟨by simp [hl], fun r => ?_, fun x hx => ?_, fun n hn hnL => ?_, fun r _ hr => wi_mono (Nat.zero_le _) hr, fun r hr => ?_⟩
  · by_cases e : r = u
    · subst e
      rw [List.getElem?_set_self hu']
      simp [wi, hu]
    · rw [List.getElem?_set_ne (fun e' => e e'.symm)]
      constructor
      · intro h
        have := hle m (List.mem_of_getElem? h)
        omega
      · rintro ⟨_, h⟩; exact absurd h e
  · simp at hx; subst hx; exact ⟨rfl, hu⟩
  · exact absurd hn (by simpa [wi] using hnL)
  · rcases List.mem_or_eq_of_mem_set hr with a | a
    · exact Nat.le_of_lt (hle r a)
    · omega
theorem um_start {rs : List Nat} {u m : Nat} (hu : u < rs.length) (hle : ∀ r, r ∈ rs → r < m) : um (rs.set u m) m + 1 ≤ rs.length := by
  have := um_set hu (m := m) (fun h => by have := hle m (List.mem_of_getElem? h); omega)
  have := um_le rs m
  omega
end Go.Proofs.Qxb6601564a

import Derived.Test.Qxb6602276aRows
import Derived.Laws.BitsLemmas
import Derived.RowKit
namespace Go.Proofs.Qxb6602276a
open Go.RowKit
set_option linter.unusedVariables false

/-! The plain law: tokens, depths, skips. -/
def byt (s : ByteArray) (i : Nat) : Int := if h : i < s.size then (s[i].toNat : Int) else 0
theorem byt_eq {s : ByteArray} {i : Nat} (h : i < s.size) : byt s i = (s[i].toNat : Int) := by unfold byt; rw [dif_pos h]
/-- One byte more of a uvarint. -/
def stepX (X b : Int) (c : Nat) : Int := bits .or .u64 X (IntKind.u64.wrap (IntKind.u64.wrap (bits .and .u8 b 127) * 2 ^ (7 * c)))
def acc (s : ByteArray) (p : Nat) : Nat → Int
  | 0 => 0
  | c + 1 => stepX (acc s p c) (byt s (p + c)) c
theorem wrap_u64_range (n : Int) : 0 ≤ IntKind.u64.wrap n ∧ IntKind.u64.wrap n < 18446744073709551616 := by
  have : IntKind.u64.wrap n = n % 18446744073709551616 := by simp [IntKind.wrap, IntKind.bits, IntKind.signed]
  rw [this]
  omega
theorem acc_range (s : ByteArray) (p c : Nat) : 0 ≤ acc s p c ∧ acc s p c < 18446744073709551616 := by
  cases c with
  | zero => exact ⟨by simp [acc], by simp [acc]⟩
  | succ c => exact wrap_u64_range _

/-- The uvarint at p is c bytes long. -/
structure Tk (s : ByteArray) (p c : Nat) : Prop where
  pos : 0 < c
  le : p + c ≤ s.size
  ten : c ≤ 10
  big : ∀ d, d + 1 < c → 128 ≤ byt s (p + d)
  last : byt s (p + (c - 1)) < 128
/-- Its length, counted. -/
def cntF (s : ByteArray) : Nat → Nat → Nat
  | 0, _ => 1
  | f + 1, p => if byt s p < 128 then 1 else cntF s f (p + 1) + 1
def cnt (s : ByteArray) (p : Nat) : Nat := cntF s 10 p
theorem cntF_eq (s : ByteArray) : ∀ (f p c : Nat), c ≤ f → 0 < c → (∀ d, d + 1 < c → 128 ≤ byt s (p + d)) → byt s (p + (c - 1)) < 128 → cntF s f p = c
  | 0, p, c, h1, h2, _, _ => by omega
  | f + 1, p, c, h1, h2, h3, h4 => by
    unfold cntF
    by_cases h : byt s p < 128
    · rw [if_pos h]
      by_cases e : c = 1
      · omega
      · have := h3 0 (by omega)
        rw [Nat.add_zero] at this
        omega
    · rw [if_neg h]
      have hc : c ≠ 1 := fun e => by subst e; exact h (by simpa using h4)
      have := cntF_eq s f (p + 1) (c - 1) (by omega) (by omega) (fun d hd => by
        have := h3 (d + 1) (by omega)
        rwa [show p + 1 + d = p + (d + 1) by omega]) (by
        rw [show p + 1 + (c - 1 - 1) = p + (c - 1) by omega]; exact h4)
      omega
theorem Tk.cnt {s : ByteArray} {p c : Nat} (h : Tk s p c) : cnt s p = c := cntF_eq s 10 p c h.ten h.pos h.big h.last
theorem cnt_pos (s : ByteArray) (p : Nat) : 0 < cnt s p := by
  unfold Qxb6602276a.cnt cntF
  split <;> omega

def kdOf (s : ByteArray) (p : Nat) : Int := wrap64 (bits .and .u64 (acc s p (cnt s p)) 3)
def nOf (s : ByteArray) (p : Nat) : Int := wrap64 (acc s p (cnt s p) / 4)
def dl (k : Int) : Int := if k = 2 then 1 else if k = 3 then -1 else 0
/-- Where the k-th token starts, the depth before it, where its text starts. -/
def P (s : ByteArray) : Nat → Nat
  | 0 => 0
  | k + 1 => P s k + cnt s (P s k)
def D (s : ByteArray) : Nat → Int
  | 0 => 0
  | k + 1 => D s k + dl (kdOf s (P s k))
def TX (s : ByteArray) : Nat → Int
  | 0 => 0
  | k + 1 => TX s k + nOf s (P s k)
theorem P_lt (s : ByteArray) (k : Nat) : P s k < P s (k + 1) := by have := cnt_pos s (P s k); simp only [P]; omega
theorem P_mono (s : ByteArray) {i j : Nat} (h : i < j) : P s i < P s j := by
  induction j with
  | zero => omega
  | succ j ih =>
    by_cases e : i = j
    · subst e; exact P_lt s i
    · exact Nat.lt_trans (ih (by omega)) (P_lt s j)
theorem P_inj (s : ByteArray) {i j : Nat} (h : P s i = P s j) : i = j := by
  rcases Nat.lt_trichotomy i j with h1 | h1 | h1
  · have := P_mono s h1; omega
  · exact h1
  · have := P_mono s h1; omega

/-- The nesting at token k ends where token e starts. -/
def Closed (s : ByteArray) (k e : Nat) : Prop := k < e ∧ D s e = D s k ∧ ∀ r, k < r → r < e → D s k < D s r
theorem Closed.unique {s : ByteArray} {k e e' : Nat} (h : Closed s k e) (h' : Closed s k e') : e = e' := by
  rcases Nat.lt_trichotomy e e' with h1 | h1 | h1
  · have := h'.2.2 e h.1 h1; have := h.2.1; omega
  · exact h1
  · have := h.2.2 e' h'.1 h1; have := h'.2.1; omega

def upd {α : Type} (f : Nat → α) (p : Nat) (v : α) : Nat → α := fun q => if q = p then v else f q

/-- While the tokens are read: m of them are; i = P m; a: the stack. -/
structure Rd (s : ByteArray) (m : Nat) (st : Nat → Bool) (kd tx af ta : Nat → Int) (a : Nat → Nat) : Prop where
  tok : ∀ k, k < m → (∃ c, Tk s (P s k) c) ∧ P s (k + 1) ≤ s.size ∧ 0 ≤ nOf s (P s k)
  dep : 0 ≤ D s m
  st1 : ∀ p, st p = true → ∃ k, k < m ∧ p = P s k
  kd1 : ∀ k, k < m → st (P s k) = true ∧ kd (P s k) = kdOf s (P s k) ∧ tx (P s k) = TX s k
  stk : ∀ j : Nat, (j : Int) < D s m → a j < m ∧ kdOf s (P s (a j)) = 2 ∧ D s (a j) = j ∧ ∀ k, a j < k → k ≤ m → (j : Int) < D s k
  cl : ∀ k, k < m → kdOf s (P s k) = 2 → (∃ j : Nat, (j : Int) < D s m ∧ a j = k) ∨ ∃ e, e ≤ m ∧ Closed s k e ∧ af (P s k) = P s e ∧ ta (P s k) = TX s e

theorem Rd.start (s : ByteArray) (a : Nat → Nat) : Rd s 0 (fun _ => false) (fun _ => 0) (fun _ => 0) (fun _ => 0) (fun _ => 0) a := by
  refine ⟨fun k hk => by omega, by simp [D], fun p hp => by simp at hp, fun k hk => by omega, fun j hj => by simp [D] at hj; omega, fun k hk => by omega⟩
section
variable {s : ByteArray} {m : Nat} {st : Nat → Bool} {kd tx af ta : Nat → Int} {a : Nat → Nat}
/-- What every token writes. -/
theorem Rd.base (h : Rd s m st kd tx af ta a) : (∀ p, upd st (P s m) true p = true → ∃ k, k < m + 1 ∧ p = P s k) ∧
    (∀ k, k < m + 1 → upd st (P s m) true (P s k) = true ∧ upd kd (P s m) (kdOf s (P s m)) (P s k) = kdOf s (P s k) ∧ upd tx (P s m) (TX s m) (P s k) = TX s k) := by
  constructor
  · intro p hp
    unfold upd at hp
    by_cases e : p = P s m
    · exact ⟨m, by omega, e⟩
    · rw [if_neg e] at hp
      obtain ⟨k, hk, rfl⟩ := h.st1 p hp
      exact ⟨k, by omega, rfl⟩
  · intro k hk
    unfold upd
    by_cases e : k = m
    · subst e; simp
    · have hne : ¬ P s k = P s m := fun e' => e (P_inj s e')
      simp only [if_neg hne]
      exact h.kd1 k (by omega)
theorem Rd.toks (h : Rd s m st kd tx af ta a) (ht : (∃ c, Tk s (P s m) c) ∧ P s (m + 1) ≤ s.size ∧ 0 ≤ nOf s (P s m)) : ∀ k, k < m + 1 → (∃ c, Tk s (P s k) c) ∧ P s (k + 1) ≤ s.size ∧ 0 ≤ nOf s (P s k) := by
  intro k hk
  by_cases e : k = m
  · subst e; exact ht
  · exact h.tok k (by omega)
/-- A token that opens. -/
theorem Rd.opens (h : Rd s m st kd tx af ta a) (ht : (∃ c, Tk s (P s m) c) ∧ P s (m + 1) ≤ s.size ∧ 0 ≤ nOf s (P s m)) (hk : kdOf s (P s m) = 2) :
    Rd s (m + 1) (upd st (P s m) true) (upd kd (P s m) (kdOf s (P s m))) (upd tx (P s m) (TX s m)) af ta (upd a (D s m).toNat m) := by
  have hD : D s (m + 1) = D s m + 1 := by simp [D, dl, hk]
  have hd := h.dep
  refine ⟨h.toks ht, by omega, h.base.1, h.base.2, fun j hj => ?_, fun k hkm hk2 => ?_⟩
  · unfold upd
    by_cases e : j = (D s m).toNat
    · rw [if_pos e]
      refine ⟨by omega, hk, by omega, fun k h1 h2 => ?_⟩
      obtain rfl : k = m + 1 := by omega
      omega
    · rw [if_neg e]
      obtain ⟨h1, h2, h3, h4⟩ := h.stk j (by omega)
      refine ⟨by omega, h2, h3, fun k h5 h6 => ?_⟩
      by_cases e' : k = m + 1
      · subst e'; omega
      · exact h4 k h5 (by omega)
  · by_cases e : k = m
    · subst e
      exact .inl ⟨(D s k).toNat, by omega, by simp [upd]⟩
    · rcases h.cl k (by omega) hk2 with ⟨j, h1, h2⟩ | ⟨e', h1, h2⟩
      · refine .inl ⟨j, by omega, ?_⟩
        unfold upd
        rw [if_neg (by omega)]
        exact h2
      · exact .inr ⟨e', by omega, h2⟩
/-- A token that shuts. -/
theorem Rd.shuts (h : Rd s m st kd tx af ta a) (ht : (∃ c, Tk s (P s m) c) ∧ P s (m + 1) ≤ s.size ∧ 0 ≤ nOf s (P s m)) (hk : kdOf s (P s m) = 3) (hd : 0 < D s m) :
    Rd s (m + 1) (upd st (P s m) true) (upd kd (P s m) (kdOf s (P s m))) (upd tx (P s m) (TX s m)) (upd af (P s (a ((D s m).toNat - 1))) (P s (m + 1))) (upd ta (P s (a ((D s m).toNat - 1))) (TX s (m + 1))) a := by
  have hD : D s (m + 1) = D s m - 1 := by simp [D, dl, hk]; omega
  obtain ⟨t1, t2, t3, t4⟩ := h.stk ((D s m).toNat - 1) (by omega)
  refine ⟨h.toks ht, by omega, h.base.1, h.base.2, fun j hj => ?_, fun k hkm hk2 => ?_⟩
  · obtain ⟨h1, h2, h3, h4⟩ := h.stk j (by omega)
    refine ⟨by omega, h2, h3, fun k h5 h6 => ?_⟩
    by_cases e' : k = m + 1
    · subst e'; omega
    · exact h4 k h5 (by omega)
  · have hkm' : k ≠ m := fun e => by subst e; omega
    by_cases e : k = a ((D s m).toNat - 1)
    · subst e
      right
      refine ⟨m + 1, by omega, ⟨by omega, by omega, fun r h1 h2 => ?_⟩, by simp [upd], by simp [upd]⟩
      have := t4 r h1 (by omega)
      omega
    · have hne : ¬ P s k = P s (a ((D s m).toNat - 1)) := fun e' => e (P_inj s e')
      rcases h.cl k (by omega) hk2 with ⟨j, h1, h2⟩ | ⟨e', h1, h2, h3, h4⟩
      · left
        refine ⟨j, ?_, h2⟩
        have : j ≠ (D s m).toNat - 1 := fun ej => e (by rw [← h2, ej])
        omega
      · right
        refine ⟨e', by omega, h2, ?_, ?_⟩
        · unfold upd; rw [if_neg hne]; exact h3
        · unfold upd; rw [if_neg hne]; exact h4
/-- Any other token. -/
theorem Rd.other (h : Rd s m st kd tx af ta a) (ht : (∃ c, Tk s (P s m) c) ∧ P s (m + 1) ≤ s.size ∧ 0 ≤ nOf s (P s m)) (hk2' : kdOf s (P s m) ≠ 2) (hk3' : kdOf s (P s m) ≠ 3) :
    Rd s (m + 1) (upd st (P s m) true) (upd kd (P s m) (kdOf s (P s m))) (upd tx (P s m) (TX s m)) af ta a := by
  have hD : D s (m + 1) = D s m := by simp [D, dl, hk2', hk3']
  have hd := h.dep
  refine ⟨h.toks ht, by omega, h.base.1, h.base.2, fun j hj => ?_, fun k hkm hk2 => ?_⟩
  · obtain ⟨h1, h2, h3, h4⟩ := h.stk j (by omega)
    refine ⟨by omega, h2, h3, fun k h5 h6 => ?_⟩
    by_cases e' : k = m + 1
    · subst e'; omega
    · exact h4 k h5 (by omega)
  · have hkm' : k ≠ m := fun e => by subst e; exact hk2' hk2
    rcases h.cl k (by omega) hk2 with ⟨j, h1, h2⟩ | ⟨e', h1, h2⟩
    · exact .inl ⟨j, by omega, h2⟩
    · exact .inr ⟨e', by omega, h2⟩
end

/-- The whole layout. -/
structure Lay (s : ByteArray) (T : Int) (m : Nat) (st : Nat → Bool) (kd tx af ta : Nat → Int) : Prop where
  tok : ∀ k, k < m → (∃ c, Tk s (P s k) c) ∧ P s (k + 1) ≤ s.size ∧ 0 ≤ nOf s (P s k)
  fin : P s m = s.size
  txm : TX s m = T
  st1 : ∀ p, st p = true → ∃ k, k < m ∧ p = P s k
  kd1 : ∀ k, k < m → kd (P s k) = kdOf s (P s k) ∧ tx (P s k) = TX s k
  cl : ∀ k, k < m → kdOf s (P s k) = 2 → ∃ e, e ≤ m ∧ Closed s k e ∧ af (P s k) = P s e ∧ ta (P s k) = TX s e
theorem Rd.lay {s : ByteArray} {m : Nat} {st : Nat → Bool} {kd tx af ta : Nat → Int} {a : Nat → Nat} {T : Int} (h : Rd s m st kd tx af ta a) (h1 : P s m = s.size) (h2 : D s m = 0) (h3 : TX s m = T) : Lay s T m st kd (upd tx s.size T) af ta := by
  refine ⟨h.tok, h1, h3, h.st1, fun k hk => ⟨(h.kd1 k hk).2.1, ?_⟩, fun k hk hk2 => ?_⟩
  · unfold upd
    rw [if_neg (by have := P_mono s hk; omega)]
    exact (h.kd1 k hk).2.2
  · rcases h.cl k hk hk2 with ⟨j, hj, _⟩ | h'
    · omega
    · exact h'

/-! ### skips -/
/-- b of the skips (m of them, at N 0 < N 1 < ..) stand before p. -/
structure IsBf (N : Nat → Int) (q : Nat) (p : Int) (b : Nat) : Prop where
  le : b ≤ q
  lo : ∀ j, j < b → N j < p
  hi : b < q → p ≤ N b
theorem IsBf.unique {N : Nat → Int} {q : Nat} {p : Int} {b b' : Nat} (h : IsBf N q p b) (h' : IsBf N q p b') : b = b' := by
  rcases Nat.lt_trichotomy b b' with h1 | h1 | h1
  · have := h'.lo b h1; have := h.hi (by have := h'.le; omega); omega
  · exact h1
  · have := h.lo b' h1; have := h'.hi (by have := h.le; omega); omega
end Go.Proofs.Qxb6602276a

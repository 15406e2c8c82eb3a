import Derived.Test.Qxb6600999aA7
namespace Go.Proofs.Qxb6600999a
open Go.RowKit Go.WideMaps
set_option linter.unusedVariables false

/-! ### The map of places, asked -/
theorem Try.zero3 (w : World) : (zeroValue 3).run Try.prog w = .ok (.int .i64 0) w := by kernel_rfl
theorem look_ok_int {W : World} {M n : Nat} {D : DataW Unit} (h : W.ownsMap Try.prog 45 (plainElem Try.prog 3) M n D) {key : Value} {l : Lit} (hkey : keyOf Try.prog 45 key = some l) {c : Int} {d : Bool}
    (hd : Maps.has D l = d) (hc : D.atKey l (.lit (.int .i64 0)) = .lit (.int .i64 c)) : (Instr.lookup 77 (.map (some M)) key true).run Try.prog W = .ok (.tuple #[.int .i64 c, .bool d]) W := by
  obtain ⟨v, ps, hrun, hv⟩ := h.look_ok Try.keyed Try.underlying77 (Try.zero3 W) (plainElem_int (H := Unit) Try.underlying3 (by decide)) hkey
  obtain ⟨c', rfl, hc', _⟩ := plainElem_int_inv Try.underlying3 hv
  simp only [Prod.mk.injEq] at hc'
  have e : c' = c := by
    have := hc'.1
    rw [hc] at this
    simpa using this.symm
  rw [hrun, hd, e]

section
variable {W : World} {M n : Nat} {K I : Nat → Int} {S : Nat → ByteArray} {kl : Nat → Lit} {a b : Int} {s : ByteArray}
theorem look_hit (h : W.ownsMap Try.prog 45 (plainElem Try.prog 3) M n (Dm kl n)) (hd : Distinct K I S n) (ht : Tells K I S n kl) {i : Nat} (hi : i < n) (hh : hits K I S a b s i) :
    (Instr.lookup 77 (.map (some M)) (.agg #[.int .u8 a, .int .i64 b, .string s]) true).run Try.prog W = .ok (.tuple #[.int .i64 i, .bool true]) W := by
  obtain ⟨rfl, rfl, rfl⟩ := hh
  have := Dm_hit hd ht (.lit (.int .i64 0)) n (Nat.le_refl _) i hi
  exact look_ok_int h (ht i hi) this.1 this.2
theorem look_miss (h : W.ownsMap Try.prog 45 (plainElem Try.prog 3) M n (Dm kl n)) (ht : Tells K I S n kl) (hq : KeyOk a b s) (hh : ∀ i, i < n → ¬ hits K I S a b s i) :
    (Instr.lookup 77 (.map (some M)) (.agg #[.int .u8 a, .int .i64 b, .string s]) true).run Try.prog W = .ok (.tuple #[.int .i64 0, .bool false]) W := by
  obtain ⟨l, hl⟩ := keyOf_some hq
  have hm : Maps.has (Dm kl n) l = false := Dm_miss n (fun i hi e => by
    have h1 := ht i hi
    rw [e] at h1
    exact hh i hi (keyVal_inj (Try.keyed.inj h1 hl)))
  exact look_ok_int h hl hm (Maps.atKey_of_not_has hm _)
end

/-- What the row of a staged is: the row of the place that bears the key; nil where none does. -/
def RowIs (w : World) (n : Nat) (K I : Nat → Int) (S : Nat → ByteArray) (R : Nat) (a b : Int) (s : ByteArray) (v : Value) : Prop :=
  (∃ i p, i < n ∧ hits K I S a b s i ∧ v = .pointer (some p) ∧ w.cell? ⟨R, i, none⟩ = some v) ∨ (v = .pointer none ∧ ∀ i, i < n → ¬ hits K I S a b s i)

set_option maxHeartbeats 800000 in
theorem row_nil (a b : Int) (s : ByteArray) (w : World) :
    Calls Try.prog 36 #[.pointer none, .agg #[.int .u8 a, .int .i64 b, .string s]] w fun e w' => e = .returned (.pointer none) ∧ Below w.heap.size w w' := by
  go_enter Try.func36, Try.ntmps36
  go_wp2
  go_ret
  exact ⟨rfl, (Below.refl _ _).alloc (Nat.le_refl _) _⟩

theorem run_neq_map {P : Program} (w : World) (t k e : TypeId) (m : Option Nat) (h : P.underlying t = some (.map k e)) : (binOp .neq t (.map m) (.map none)).run P w = .ok (.bool m.isSome) w := by
  have h' : ∀ d : Nat, (Op.equalIn (d + 1) t (.map m) (.map none)).run P w = .ok m.isNone w := fun d => by
    cases m <;> simp [Op.equalIn, run_underlying h]
  simp only [binOp]
  simp [Op.equal, Op.maxDepth, h' 9999]

set_option maxHeartbeats 1600000 in
theorem row_places_hit (n : Nat) (K I : Nat → Int) (S : Nat → ByteArray) (B R P M : Nat) (kl : Nat → Lit) (a b : Int) (s : ByteArray) (w : World) (hn : n ≤ 4096)
    (H : StagedAt w n K I S B R P (some M) kl) (hd : Distinct K I S n) (ht : Tells K I S n kl) (i : Nat) (hi : i < n) (hh : hits K I S a b s i) :
    Calls Try.prog 36 #[.pointer (some ⟨P, 0, none⟩), .agg #[.int .u8 a, .int .i64 b, .string s]] w fun e w' => (∃ v, e = .returned v ∧ RowIs w n K I S R a b s v) ∧ Below w.heap.size w w' := by
  have hb : Below w.heap.size w (w.alloc (.cells #[.int .u8 a, .int .i64 b, .string s] 45)) := (Below.refl _ _).alloc (Nat.le_refl _) _
  obtain ⟨_, h1, h2, h3, h4, h5⟩ := H.below hb
  obtain ⟨p, hp⟩ := h1 i hi
  have hp0 : w.cell? ⟨R, i, none⟩ = some (.pointer (some p)) := by
    obtain ⟨p', hp'⟩ := H.rows i hi
    have := cell_below hb hp'
    rw [hp] at this
    rw [hp', this]
  have hl : ∀ q, (Instr.lookup 77 (.map (some M)) (.agg #[.int .u8 a, .int .i64 b, .string s]) true).run Try.prog ((w.alloc (.cells #[.int .u8 a, .int .i64 b, .string s] 45)).drewN q) = .ok (.tuple #[.int .i64 i, .bool true]) ((w.alloc (.cells #[.int .u8 a, .int .i64 b, .string s] 45)).drewN q) :=
    fun q => look_hit (W := (w.alloc (.cells #[.int .u8 a, .int .i64 b, .string s] 45)).drewN q) (by exact h5 M rfl) hd ht hi hh
  have hnq := fun W m => run_neq_map (P := Try.prog) W 77 45 3 m Try.underlying77
  have e0 : (i : Int) < n := by omega
  have HP : Hid _ := And.intro hp0 hh
  clear hp0 hh h5 H h1 hd ht hb
  go_enter Try.func36, Try.ntmps36
  go_wp2
  go_quiet (fail)
  go_wp2
  go_ret
  exact ⟨⟨_, rfl, .inl ⟨i, p, hi, HP.out.2, rfl, HP.out.1⟩⟩, ((Below.refl _ _).alloc (Nat.le_refl _) _).trans (below_drewN _ _ _)⟩

set_option maxHeartbeats 1600000 in
theorem row_places_miss (n : Nat) (K I : Nat → Int) (S : Nat → ByteArray) (B R P M : Nat) (kl : Nat → Lit) (a b : Int) (s : ByteArray) (w : World) (hn : n ≤ 4096)
    (H : StagedAt w n K I S B R P (some M) kl) (hd : Distinct K I S n) (ht : Tells K I S n kl) (hq : KeyOk a b s) (hh : ∀ i, i < n → ¬ hits K I S a b s i) :
    Calls Try.prog 36 #[.pointer (some ⟨P, 0, none⟩), .agg #[.int .u8 a, .int .i64 b, .string s]] w fun e w' => (∃ v, e = .returned v ∧ RowIs w n K I S R a b s v) ∧ Below w.heap.size w w' := by
  have hb : Below w.heap.size w (w.alloc (.cells #[.int .u8 a, .int .i64 b, .string s] 45)) := (Below.refl _ _).alloc (Nat.le_refl _) _
  obtain ⟨_, h1, h2, h3, h4, h5⟩ := H.below hb
  have hl : ∀ q, (Instr.lookup 77 (.map (some M)) (.agg #[.int .u8 a, .int .i64 b, .string s]) true).run Try.prog ((w.alloc (.cells #[.int .u8 a, .int .i64 b, .string s] 45)).drewN q) = .ok (.tuple #[.int .i64 0, .bool false]) ((w.alloc (.cells #[.int .u8 a, .int .i64 b, .string s] 45)).drewN q) :=
    fun q => look_miss (W := (w.alloc (.cells #[.int .u8 a, .int .i64 b, .string s] 45)).drewN q) (by exact h5 M rfl) ht hq hh
  have hnq := fun W m => run_neq_map (P := Try.prog) W 77 45 3 m Try.underlying77
  have HP : Hid _ := hh
  clear hh h5 H h1 hd ht hb hq
  go_enter Try.func36, Try.ntmps36
  go_wp2
  go_quiet (fail)
  go_wp2
  go_ret
  exact ⟨⟨_, rfl, .inr ⟨rfl, HP.out⟩⟩, ((Below.refl _ _).alloc (Nat.le_refl _) _).trans (below_drewN _ _ _)⟩

set_option maxHeartbeats 1600000 in
set_option maxRecDepth 100000 in
theorem row_scan (n : Nat) (K I : Nat → Int) (S : Nat → ByteArray) (B R P : Nat) (kl : Nat → Lit) (a b : Int) (s : ByteArray) (w : World) (hn : n ≤ 4096)
    (H : StagedAt w n K I S B R P none kl) :
    Calls Try.prog 36 #[.pointer (some ⟨P, 0, none⟩), .agg #[.int .u8 a, .int .i64 b, .string s]] w fun e w' => (∃ v, e = .returned v ∧ RowIs w n K I S R a b s v) ∧ Below w.heap.size w w' := by
  have hb : Below w.heap.size w (w.alloc (.cells #[.int .u8 a, .int .i64 b, .string s] 45)) := (Below.refl _ _).alloc (Nat.le_refl _) _
  have hK := (H.below hb).keys
  obtain ⟨_, h1, h2, h3, h4, h5⟩ := H.below hb
  have hnq := fun W m => run_neq_map (P := Try.prog) W 77 45 3 m Try.underlying77
  have keepS : ∀ w', Below (w.alloc (.cells #[.int .u8 a, .int .i64 b, .string s] 45)).drew.heap.size (w.alloc (.cells #[.int .u8 a, .int .i64 b, .string s] 45)).drew w' → (w'.cell? ⟨P, 0, none⟩ = some (.slice (some ⟨B, 0, none⟩) n n) ∧ w'.cell? ⟨w.heap.size, 0, none⟩ = some (.int .u8 a) ∧ w'.cell? ⟨w.heap.size, 1, none⟩ = some (.int .i64 b) ∧ w'.cell? ⟨w.heap.size, 2, none⟩ = some (.string s)) ∧
      Below w.heap.size w w' ∧ StagedAt w' n K I S B R P none kl := fun w' h' => by
    have h'' : Below (w.alloc (.cells #[.int .u8 a, .int .i64 b, .string s] 45)).heap.size (w.alloc (.cells #[.int .u8 a, .int .i64 b, .string s] 45)) w' := ⟨h'.os, h'.tape, h'.output, h'.size, h'.block⟩
    have hb2 : Below w.heap.size w w' := hb.trans (h''.mono (by simp))
    refine ⟨⟨cell_below hb2 H.c0, ?_, ?_, ?_⟩, hb2, H.below hb2⟩
    all_goals (refine cell_below h'' ?_; simp)
  have HK : Hid _ := hK
  have HS : Hid _ := keepS
  have HR : Hid _ := H.rows
  have nP := World.new_ne w _ H.c0
  clear h5 H h1 hb hK keepS
  go_enter Try.func36, Try.ntmps36
  go_wp2
  go_region_held3 (fun w' => w'.cell? ⟨P, 0, none⟩ = some (.slice (some ⟨B, 0, none⟩) n n) ∧ w'.cell? ⟨w.heap.size, 0, none⟩ = some (.int .u8 a) ∧ w'.cell? ⟨w.heap.size, 1, none⟩ = some (.int .i64 b) ∧ w'.cell? ⟨w.heap.size, 2, none⟩ = some (.string s))
    (go_keep)
    (first | (go_at_call 41; refine (index_any n K I S B a b s _ hn ?_).mono ?_; (first | exact HK.out); rintro e w' ⟨⟨r, rfl, hr⟩, hbw⟩; obtain ⟨⟨s0, s1, s2, s3⟩, hB2, hS2⟩ := HS.out w' hbw))
  clear hbw HS HK s0 s1 s2 s3
  obtain ⟨_, r1, r2, r3, r4, _⟩ := hS2
  rcases hr with ⟨i, hi, hri, hh⟩ | ⟨hri, hno⟩
  · rw [hri]
    obtain ⟨p, hp⟩ := r1 i hi
    have hp0 : w.cell? ⟨R, i, none⟩ = some (.pointer (some p)) := by
      obtain ⟨p', hp'⟩ := HR.out i hi
      have := cell_below hB2 hp'
      rw [hp] at this
      rw [hp', this]
    have e0 : (i : Int) < n := by omega
    have HP : Hid _ := And.intro hp0 hh
    clear hp0 hh hri r1
    go_wp2
    go_ret
    exact ⟨⟨_, rfl, .inl ⟨i, p, hi, HP.out.2, rfl, HP.out.1⟩⟩, hB2⟩
  · rw [hri]
    have HP : Hid _ := hno
    clear hno hri r1
    go_wp2
    go_ret
    exact ⟨⟨_, rfl, .inr ⟨rfl, HP.out⟩⟩, hB2⟩
end Go.Proofs.Qxb6600999a

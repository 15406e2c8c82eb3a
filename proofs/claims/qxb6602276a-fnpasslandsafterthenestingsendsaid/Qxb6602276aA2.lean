import Derived.Test.Qxb6602276aA1
import Derived.Orders
namespace Go.Proofs.Qxb6602276a
open Go.RowKit
set_option linter.unusedVariables false

/-! ### A region that draws its order, by an invariant -/
section
variable {Pr : Program} {ops : Array Oper} {Q : Exit → Act → World → Prop} {md : Region.Mode}
def left (listed : Array Bool) : Nat := (listed.toList.filter (fun b => !b)).length
theorem left_set {l : List Bool} {i : Nat} (h : l[i]? = some false) : ((l.set i true).filter (fun b => !b)).length + 1 = (l.filter (fun b => !b)).length := by
  induction l generalizing i with
  | nil => simp at h
  | cons x l ih =>
    cases i with
    | zero =>
      have hx : x = false := by simpa using h
      subst hx
      simp
    | succ i =>
      have := ih (i := i) (by simpa using h)
      simp only [List.set_cons_succ, List.filter_cons]
      split
      · simp only [List.length_cons]; omega
      · exact this
theorem ready_mem {listed : Array Bool} {i : Nat} (h : i ∈ Region.ready md ops listed) : listed[i]? = some false ∧ ∃ o, ops[i]? = some o ∧ ∀ e ∈ o.after, Region.binds md e = true → listed.getD e.on false = true := by
  unfold Region.ready at h
  rw [List.mem_filter] at h
  obtain ⟨h1, h2⟩ := h
  simp only [Bool.and_eq_true, Bool.not_eq_true'] at h2
  have hi : i < ops.size := List.mem_range.1 h1
  refine ⟨?_, ops[i], by simp [hi], ?_⟩
  · have := h2.1
    rw [Array.getD_eq_getD_getElem?] at this
    cases hl : listed[i]? with
    | none => rw [hl] at this; simp at this
    | some b => rw [hl] at this; simpa using this
  · have h3 := h2.2
    rw [Array.getElem?_eq_getElem hi] at h3
    simp only [Option.map_some, Option.getD_some] at h3
    intro e he hb
    have := Array.all_eq_true_iff_forall_mem.1 h3 e he
    rw [hb] at this
    simpa using this
theorem mem_ready {listed : Array Bool} {i : Nat} {o : Oper} (h : listed[i]? = some false) (ho : ops[i]? = some o) (ha : ∀ e ∈ o.after, listed.getD e.on false = true) : i ∈ Region.ready md ops listed := by
  unfold Region.ready
  rw [List.mem_filter]
  have hi : i < ops.size := (Array.getElem?_eq_some_iff.1 ho).1
  refine ⟨List.mem_range.2 hi, ?_⟩
  simp only [Bool.and_eq_true, Bool.not_eq_true']
  refine ⟨by rw [Array.getD_eq_getD_getElem?, h]; rfl, ?_⟩
  rw [ho]
  simp only [Option.map_some, Option.getD_some]
  refine Array.all_eq_true_iff_forall_mem.2 (fun e he => ?_)
  rw [ha e he]
  simp
/-- Every operation hangs on earlier ones alone. -/
def depB (ops : Array Oper) : Bool := (List.range ops.size).all fun i => (ops[i]?).all fun o => o.after.all fun e => e.on < i
theorem all_listed {listed : Array Bool} (hd : depB ops = true) (hsz : listed.size = ops.size) (hr : Region.ready md ops listed = []) : ∀ i, i < ops.size → listed.getD i false = true := by
  intro i
  induction i using Nat.strongRecOn with
  | _ i ih =>
    intro hi
    cases hl : listed[i]? with
    | none =>
      have := Array.getElem?_eq_none_iff.1 hl
      omega
    | some b =>
      cases b with
      | true => rw [Array.getD_eq_getD_getElem?, hl]; rfl
      | false =>
        exfalso
        have ho : ops[i]? = some ops[i] := Array.getElem?_eq_getElem hi
        have hm : i ∈ Region.ready md ops listed := mem_ready hl ho (fun e he => by
          have h1 := List.all_eq_true.1 hd i (List.mem_range.2 hi)
          rw [ho] at h1
          have h3 : e.on < i := by
            obtain ⟨q, hq, rfl⟩ := Array.mem_iff_getElem.1 he
            simp at h1
            exact h1 q hq
          exact ih e.on h3 (by omega))
        rw [hr] at hm
        simp at hm
theorem wpAny_inv (Inv : Array Bool → Act → World → Prop) (hd : depB ops = true)
    (hstep : ∀ listed a w, listed.size = ops.size → Inv listed a w → ∀ i o, ops[i]? = some o → listed[i]? = some false → (∀ e ∈ o.after, Region.binds md e = true → listed.getD e.on false = true) → wpOp Pr ops Q i (fun a' w' => Inv (listed.setIfInBounds i true) a' w') a w)
    (hdone : ∀ listed a w, Inv listed a w → (∀ i, i < ops.size → listed.getD i false = true) → Q .normal a w) :
    ∀ (fuel : Nat) (listed : Array Bool) (a : Act) (w : World), listed.size = ops.size → left listed ≤ fuel → Inv listed a w → wpAny Pr md ops Q fuel listed a w := by
  intro fuel
  induction fuel with
  | zero =>
    intro listed a w hsz hl hI
    have hr : Region.ready md ops listed = [] := by
      cases hr : Region.ready md ops listed with
      | nil => rfl
      | cons i r =>
        exfalso
        have hm : i ∈ Region.ready md ops listed := by rw [hr]; exact List.mem_cons_self
        have h1 := (ready_mem hm).1
        have h2 : listed.toList[i]? = some false := by simpa using h1
        have := left_set h2
        unfold left at hl
        omega
    exact ⟨hr, hdone _ _ _ hI (all_listed hd hsz hr)⟩
  | succ fuel ih =>
    intro listed a w hsz hl hI
    refine ⟨fun hr => hdone _ _ _ hI (all_listed hd hsz hr), fun i hi => ?_⟩
    obtain ⟨h1, o, ho, ha⟩ := ready_mem hi
    refine wpOp_mono (fun a' w' h => ih _ _ _ (by simp [hsz]) ?_ h) (hstep _ _ _ hsz hI i o ho h1 ha)
    have h2 : listed.toList[i]? = some false := by simpa using h1
    have := left_set h2
    unfold left at hl ⊢
    have e : (listed.setIfInBounds i true).toList = listed.toList.set i true := by simp
    rw [e]
    omega
end

theorem left_le (listed : Array Bool) : left listed ≤ listed.size := by
  unfold left
  have := List.length_filter_le (fun b => !b) listed.toList
  simpa using this
end Go.Proofs.Qxb6602276a

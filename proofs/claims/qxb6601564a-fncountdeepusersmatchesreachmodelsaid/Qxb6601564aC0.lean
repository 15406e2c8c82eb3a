import Derived.Test.Qxb6601564aRows
import Derived.Test.Qxb6601564aB3
import Derived.WalkKit
import Derived.ProofKit
import Derived.OpenShut
import Derived.ShutString
import Derived.ChangeOld
import Derived.Below
import Derived.Deep.Slices
import Derived.Deep.Strs
import Derived.WideKeyArgs2
import Derived.Maps.OwnSet
namespace Go.Proofs.Qxb6601564a
open Go.ChangeShapes Go.WideShapes Go.ChangeAt Go.RowKit Go.WideMaps
set_option linter.unusedVariables false

theorem Try.own : ownKnob Try.prog.godebug = none := by kernel_rfl
theorem Try.laidOut : laidOutB Try.prog = true := by kernel_rfl
theorem Try.cells31 : Try.prog.cellsOf 31 = 3 := by kernel_rfl
theorem Try.cells3 : Try.prog.cellsOf 3 = 1 := by kernel_rfl
theorem Try.cells9 : Try.prog.cellsOf 9 = 1 := by kernel_rfl
theorem Try.cells29 : Try.prog.cellsOf 29 = 1 := by kernel_rfl
theorem Try.zero4 (w : World) : (zeroValue 4).run Try.prog w = .ok (.bool false) w := by kernel_rfl

theorem add_plain (b off i : Nat) : (⟨b, off, none⟩ : Addr).add i = ⟨b, off + i, none⟩ := by unfold Addr.add; split <;> simp_all
theorem row_of_cells {w : World} {x : Addr} {n L : Nat} {f : Nat → Value} (hn : n ≤ L) (hcell : ∀ i, i < L → w.cell? (x.add i) = some (f i)) : Row w (some x) n f x.block x.off := by
  obtain ⟨b, off, spot⟩ := x
  by_cases h0 : n = 0
  · exact ⟨fun h => by omega, fun i hi => by omega⟩
  · have hspot : spot = none := by simpa [Addr.add] using World.cell?_spot (hcell 0 (by omega))
    subst hspot
    exact ⟨fun _ => rfl, fun i hi => by rw [← add_plain]; exact hcell i (by omega)⟩

/-- One record, as it was read. -/
theorem rec_of_trod {H : Type} {enc : TypeId × Value → H} {W : World} {sp : Nat → Bool} {n b off i : Nat} {cs : List Value} {x : DataW H × List MemPlace}
    (hc : W.cells? 0 ((⟨b, off, none⟩ : Addr).add (i * Try.prog.cellsOf 31)) (Try.prog.cellsOf 31) = some cs) (ht : DataW.trod enc Try.prog W 0 sp true n 31 cs = some x) :
    ∃ (kd : ByteArray) (fl : Nat) (fs : Nat → ByteArray), RecAt W b (off + i * 3) kd fl fs ∧ kd.size ≤ maxLen ∧ fl ≤ maxLen ∧ ∀ j, j < fl → (fs j).size ≤ maxLen := by
  rw [Try.cells31, add_plain] at hc
  obtain ⟨_, hl, hcell⟩ := World.cells?_some hc
  obtain ⟨y0, y1, y2, m, _, _, h0, h1, h2⟩ := Go.Deep.trod_struct3 Try.underlying31 ht
  match cs, hl with
  | [c0, c1, c2], _ =>
    have e0 : W.cell? ⟨b, off + i * 3, none⟩ = some c0 := by have := hcell 0 (by omega); rw [add_plain] at this; exact this
    have e1 : W.cell? ⟨b, off + i * 3 + 1, none⟩ = some c1 := by have := hcell 1 (by omega); rw [add_plain] at this; exact this
    have e2 : W.cell? ⟨b, off + i * 3 + 2, none⟩ = some c2 := by have := hcell 2 (by omega); rw [add_plain] at this; exact this
    simp only [Try.cells3, Try.cells9, Try.cells29, List.drop_zero, List.drop_succ_cons, List.take_succ_cons, List.take_zero] at h0 h1 h2
    obtain ⟨line, hc0, _⟩ := DataW.trod_int Try.underlying3 h0
    obtain ⟨kd, hc1, _, hk⟩ := DataW.trod_string Try.underlying9 h1
    obtain rfl : c0 = .int .i64 line := by simpa using hc0
    obtain rfl : c1 = .string kd := by simpa using hc1
    rcases Go.Deep.open_strs Try.underlying29 Try.underlying9 Try.cells9 h2 with ⟨hc2, _⟩ | ⟨a, len, cap, mm, Sx, hc2, _, hl2, hm2, hmm, _, hs⟩
    · obtain rfl : c2 = .slice none 0 0 := by simpa using hc2
      exact ⟨kd, 0, fun _ => ByteArray.empty, ⟨line, none, 0, 0, 0, e0, e1, e2, ⟨fun h => by omega, fun i hi => by omega⟩, fun _ => rfl⟩, hk, Nat.zero_le _, fun j hj => by omega⟩
    · obtain rfl : c2 = .slice (some a) len cap := by simpa using hc2
      have hlm : len ≤ mm := by rw [hmm]; split <;> omega
      exact ⟨kd, len, Sx, ⟨line, some a, cap, a.block, a.off, e0, e1, e2, row_of_cells hlm (fun i hi => (hs i hi).1), fun h => by simp at h⟩, hk, by omega, fun j hj => (hs j (by omega)).2⟩

theorem recs_of_trod {H : Type} {enc : TypeId × Value → H} {W : World} {fuel : Nat} {a0 : Option Addr} {len0 cap0 : Nat} {x : DataW H × List MemPlace}
    (hf : DataW.trod enc Try.prog W 0 (fun _ => true) true fuel 22 [.slice a0 len0 cap0] = some x) :
    ∃ (kd : Nat → ByteArray) (fl : Nat → Nat) (fs : Nat → Nat → ByteArray) (b off : Nat), len0 ≤ maxLen ∧ (a0 = none → len0 = 0) ∧ RecsAt W a0 len0 kd fl fs b off ∧ RecsOk len0 kd fl fs := by
  rcases Go.Deep.open_slice Try.underlying22 hf with ⟨hcs, _⟩ | ⟨a, len, cap, m, n, D, Pl, hcs, _, hl, hm, hmm, _, hx⟩
  · obtain ⟨rfl, rfl, rfl⟩ : a0 = none ∧ len0 = 0 ∧ cap0 = 0 := by simpa using hcs
    exact ⟨fun _ => ByteArray.empty, fun _ => 0, fun _ _ => ByteArray.empty, 0, 0, Nat.zero_le _, fun _ => rfl, ⟨fun h => by omega, fun i hi => by omega⟩, ⟨fun i hi => by omega, fun i hi => by omega, fun i hi => by omega⟩⟩
  · obtain ⟨rfl, rfl, rfl⟩ : a0 = some a ∧ len0 = len ∧ cap0 = cap := by simpa using hcs
    have hlm : len0 ≤ m := by rw [hmm]; simp; omega
    by_cases h0 : len0 = 0
    · subst h0
      exact ⟨fun _ => ByteArray.empty, fun _ => 0, fun _ _ => ByteArray.empty, 0, 0, Nat.zero_le _, fun _ => rfl, ⟨fun h => by omega, fun i hi => by omega⟩, ⟨fun i hi => by omega, fun i hi => by omega, fun i hi => by omega⟩⟩
    · obtain ⟨b, off, spot⟩ := a
      have hspot : spot = none := by
        obtain ⟨cs', h1, _⟩ := hx 0 (by omega)
        rw [Try.cells31] at h1
        obtain ⟨_, hl3, hc3⟩ := World.cells?_some h1
        have := hc3 0 (by omega)
        rw [List.getElem?_eq_getElem (by omega)] at this
        simpa [Addr.add] using World.cell?_spot this
      subst hspot
      have hch : ∀ i, ∃ t : ByteArray × Nat × (Nat → ByteArray), i < len0 → RecAt W b (off + i * 3) t.1 t.2.1 t.2.2 ∧ t.1.size ≤ maxLen ∧ t.2.1 ≤ maxLen ∧ ∀ j, j < t.2.1 → (t.2.2 j).size ≤ maxLen := by
        intro i
        by_cases hi : i < len0
        · obtain ⟨cs', h1, h2⟩ := hx i (by omega)
          obtain ⟨kd, fl, fs, hr⟩ := rec_of_trod h1 h2
          exact ⟨(kd, fl, fs), fun _ => hr⟩
        · exact ⟨(ByteArray.empty, 0, fun _ => ByteArray.empty), fun h => absurd h hi⟩
      obtain ⟨T, hT⟩ := Classical.skolem.1 hch
      exact ⟨fun i => (T i).1, fun i => (T i).2.1, fun i => (T i).2.2, b, off, by omega, fun h => by simp at h, ⟨fun _ => rfl, fun i hi => (hT i hi).1⟩, ⟨fun i hi => (hT i hi).2.1, fun i hi => (hT i hi).2.2.1, fun i hi => (hT i hi).2.2.2⟩⟩

/-- The map of roles, as it was read. -/
theorem role_of_trod {H : Type} {enc : TypeId × Value → H} {W : World} {fuel : Nat} {m : Option Nat} {x : DataW H × List MemPlace}
    (hf : DataW.trod enc Try.prog W 0 (fun _ => true) true fuel 23 [.map m] = some x) :
    ∃ (role : ByteArray → Bool) (lm : Nat), RoleAt W m role ∧ ∀ ty, (Builtin.len_ #[23] ty #[.map m]).run Try.prog W = .ok (.int .i64 (lm : Int)) W := by
  rcases Go.WideElems.open_map Try.underlying23 hf with ⟨hcs, _⟩ | ⟨b, es, clock, n, _, hcs, hb, _, F, _⟩
  · obtain rfl : m = none := by simpa using hcs
    refine ⟨fun _ => false, 0, fun w' _ s hs => ?_, fun ty => Maps.len_nil Try.underlying23 ty⟩
    exact Maps.look_nil false Try.keyed9 Try.underlying23 (Try.zero4 w') (WideMaps.keyOf_string_mk Try.underlying9 hs)
  · obtain rfl : m = some b := by simpa using hcs
    have hown := World.ownsMap_of_fit (R := plainElem Try.prog 4) hb F (fun x _ z hz => by
      obtain ⟨r, hv, hz'⟩ := Go.WideElems.elemAt_bool Try.underlying4 hz
      rw [hv, hz']
      exact plainElem_bool Try.underlying4 r)
    generalize hD : DataW.map ((es.toList.map (Go.WideElems.rg Try.prog 9 (Go.WideElems.elemAt enc Try.prog W 0 (fun _ => true) true n 4))).foldr DataW.insert []) = D at hown
    clear hD
    have hlt : b < W.heap.size := (Array.getElem?_eq_some_iff.1 hb).1
    refine ⟨fun s => match D.atKey (.string s.data.toList) (.lit (.bool false)) with | .lit (.bool x) => x | _ => false, es.size, fun w' hb' s hs => ?_, fun ty => ?_⟩
    · have hown' := ownsMap_congr hown (hb'.block b hlt)
      obtain ⟨v, ps, hrun, hv⟩ := hown'.lookup Try.keyed9 Try.underlying23 (Try.zero4 w') (plainElem_bool Try.underlying4 false) (keyOf_string_mk Try.underlying9 hs)
      obtain ⟨x, rfl, hx⟩ : ∃ x, v = .bool x ∧ D.atKey (.string s.data.toList) (.lit (.bool false)) = .lit (.bool x) := by
        unfold plainElem at hv
        rw [Try.underlying4] at hv
        cases v <;> simp at hv
        exact ⟨_, rfl, hv.1.symm⟩
      rw [hrun]
      simp only [hx]
    · have hg : (getObj b).run Try.prog W = .ok (.map es clock) W := by simp [getObj, Sem.run, hb]
      simp [Builtin.len_, run_underlying Try.underlying23, hg, goInt]
end Go.Proofs.Qxb6601564a

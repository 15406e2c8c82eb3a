import Derived.Test.Qxb6603303aA2
import Derived.Laws.BytesArg
namespace Go.Proofs.Qxb6603303a
open Go.RowKit
set_option linter.unusedVariables false

theorem toList_data (s : ByteArray) : s.toList = s.data.toList := by
  have : ∀ (n i : Nat) (r : List UInt8), s.size - i = n → i ≤ s.size → ByteArray.toList.loop s i r = r.reverse ++ s.data.toList.drop i := by
    intro n
    induction n with
    | zero =>
      intro i r h hi
      have hd : s.data.toList.drop i = [] := List.drop_eq_nil_of_le (by simp only [Array.length_toList]; show s.size ≤ i; omega)
      rw [ByteArray.toList.loop, if_neg (by omega), hd, List.append_nil]
    | succ n ih =>
      intro i r h hi
      have hlt : i < s.size := by omega
      rw [ByteArray.toList.loop, if_pos hlt, ih (i + 1) _ (by omega) (by omega)]
      have hl : i < s.data.toList.length := by simp only [Array.length_toList]; exact hlt
      rw [List.drop_eq_getElem_cons hl]
      simp [ByteArray.get!, Array.getElem_toList, getElem!_pos s.data i hlt]
  unfold ByteArray.toList
  rw [this (s.size - 0) 0 [] rfl (by omega)]
  simp

/-- The bytes f o, f (o+1), .., l of them. -/
def bs (f : Nat → Int) (o l : Nat) : List Int := (List.range l).map (fun q => f (o + q))
theorem bs_length (f : Nat → Int) (o l : Nat) : (bs f o l).length = l := by simp [bs]
theorem bs_getD (f : Nat → Int) (o l i : Nat) (h : i < l) : (bs f o l).getD i 0 = f (o + i) := by
  simp [bs, List.getD_eq_getElem?_getD, List.getElem?_map, List.getElem?_range h]

/-- "u0022". -/
def tl (q : Nat) : Int := [117, 48, 48, 50, 50].getD q 0

theorem byte_eq {x : Int} (h0 : 0 ≤ x) (h1 : x < 256) (m : Nat) (hm : m < 256) : UInt8.ofNat x.toNat = UInt8.ofNat m ↔ x = m := by
  constructor
  · intro h
    have := congrArg UInt8.toNat h
    simp only [UInt8.toNat_ofNat'] at this
    omega
  · rintro rfl
    simp

theorem str_eq (f : Nat → Int) (o l : Nat) (g : Nat → Nat) (hf : ∀ q, q < l → 0 ≤ f (o + q) ∧ f (o + q) < 256) (hg : ∀ q, q < l → g q < 256) :
    (strOfNums (bs f o l)).toList = (List.range l).map (fun q => UInt8.ofNat (g q)) ↔ ∀ q, q < l → f (o + q) = g q := by
  rw [toList_data, strOfNums_data]
  unfold bs
  rw [List.map_map]
  constructor
  · intro h q hq
    have h2 := congrArg (fun x => x[q]?) h
    simp [List.getElem?_map, List.getElem?_range hq] at h2
    exact (byte_eq (hf q hq).1 (hf q hq).2 (g q) (hg q hq)).1 h2
  · intro h
    apply List.map_congr_left
    intro q hq
    have hq' := List.mem_range.1 hq
    exact (byte_eq (hf q hq').1 (hf q hq').2 (g q) (hg q hq')).2 (h q hq')

/-! ### escapedQuoteAt (40) -/
def gq (q : Nat) : Nat := [92, 117, 48, 48, 50, 50].getD q 0
set_option maxHeartbeats 400000 in
theorem escQ_any (n cap : Nat) (f : Nat → Int) (b p : Nat) (w : World) (hn : n ≤ 1048576) (hcap : cap = n) (hp : p ≤ n) (hc : ∀ i, i < n → w.cell? ⟨b, i, none⟩ = some (.int .u8 (f i))) (hf : ∀ i, i < n → 0 ≤ f i ∧ f i < 256)
    (t : Bool) (ht : t = true ↔ p + 6 ≤ n ∧ ∀ q, q < 6 → f (p + q) = gq q) :
    Calls Try.prog 40 #[.slice (some ⟨b, 0, none⟩) n cap, .int .i64 (p : Int)] w fun e w' => e = .returned (.bool t) ∧ w = w' := by
  subst hcap
  by_cases h6 : p + 6 ≤ cap
  · have hconv := fun w' (hw : w' = w) cap' => run_convert_bytes_arg (P := Try.prog) w' 22 5 Try.underlying22 Try.underlying5 b p 6 cap' (bs f p 6) (bs_length _ _ _) (fun i hi => by rw [bs_getD _ _ _ _ hi, hw]; exact hc (p + i) (by omega)) 9 Try.underlying9
    have hconv := hconv w rfl
    have hs := str_eq f p 6 gq (fun q hq => hf (p + q) (by omega)) (by decide)
    have e : ((strOfNums (bs f p 6)).toList == [92, 117, 48, 48, 50, 50]) = t := by
      have hl : (List.range 6).map (fun q => UInt8.ofNat (gq q)) = [92, 117, 48, 48, 50, 50] := by decide
      rw [hl] at hs
      cases t with
      | true => rw [beq_iff_eq]; exact hs.2 (ht.1 rfl).2
      | false =>
        rw [beq_eq_false_iff_ne]
        intro h
        have := ht.2 ⟨h6, hs.1 h⟩
        simp at this
    have HE : Hid (((strOfNums (bs f p 6)).toList == [92, 117, 48, 48, 50, 50]) = t) := e
    clear hs ht hc hf e
    go_enter Try.func40, Try.ntmps40
    go_wp2
    go_ret
    exact ⟨congrArg (fun x => Ending.returned (.bool x)) HE.out, rfl⟩
  · have e : t = false := by
      cases t with
      | false => rfl
      | true => exact absurd (ht.1 rfl).1 h6
    subst e
    clear ht hc hf
    go_enter Try.func40, Try.ntmps40
    go_wp2
    go_ret
    exact ⟨rfl, rfl⟩

/-! ### strings.HasPrefix (42, 41) -/
theorem has_any (s p : ByteArray) (w : World) (hs : s.size ≤ 1048576) (hp : p.size ≤ s.size) (t : Bool) (ht : ((s.extract 0 p.size).toList == p.toList) = t) :
    Calls Try.prog 42 #[.string s, .string p] w fun e w' => e = .returned (.bool t) ∧ w = w' := by
  go_enter Try.func42, Try.ntmps42
  go_wp2
  go_ret
  exact ⟨rfl, rfl⟩
theorem hasPrefix_any (s p : ByteArray) (w : World) (hs : s.size ≤ 1048576) (hp : p.size ≤ s.size) (t : Bool) (ht : ((s.extract 0 p.size).toList == p.toList) = t) :
    Calls Try.prog 41 #[.string s, .string p] w fun e w' => e = .returned (.bool t) ∧ w = w' := by
  have h := has_any s p w hs hp t ht
  go_enter Try.func41, Try.ntmps41
  go_wp2
  go_ret
  exact ⟨rfl, rfl⟩
end Go.Proofs.Qxb6603303a

/-
  NARROWER THAN 'FOR EVERY INPUT', by the rows' own cells (each row's printed sentence says how): FnCountDeepUsersMatchesReachModel: maps · FnCountDeepUsersIgnoresRecordOrder: maps · FnCountDeepUsersGrowsWithGrant: maps.
  DERIVED. THE GIVEN ROWS OF THIS SEAT. 3 by the template 'for every input the law returns true; each argument reads behind the call as it read before'; 0 by the template 'total and deterministic' (their statements: Qxb6601564aTotals.lean).
  GIVEN WITH THE SEED: the statements are not yours to turn. If you find one false, say at which input.
  Laid BY PROGRAM, IN A SANDBOX (cutbox-rows.mjs): the forced cells as the released guide's own fill.sh prints them over the translation 1f76f88e1c90fee4… (all of the seat's roots in one cut). By AI agents, Wed Nov 11 2026. No macro, syntax, notation, axiom, sorry.
-/
import Derived.Test.Qxb6601564aChecked
import GoSem.Claim
import GoSem.ClaimJoined
import GoSem.ClaimMapViews
import Derived.JoinedTies
import Derived.KernelRfl
namespace Go.Proofs.Qxb6601564a
/- THE CELL 'sum', in the pinned program and in every row, IS THE sha256 OF THE DUMP (.gsa) THAT Qxb6601564aProg.lean LOADS. Nothing in Lean hashes anything: it is a label: what it is worth is what the hold of that sum in a sandbox is worth. -/
noncomputable def Try.pinned : Pinned := { name := "qxb6601564a", sum := "1f76f88e1c90fee46f4b3260a3ff8e173f86d3e917edce3754354af5c05c7b00", checked := Try.checked }
namespace Rows
def none {H : Type} : Left H := { results := [], args := [] }

/-- 'zzlaws_internal_csvpolicy_b1.FnCountDeepUsersMatchesReachModel': WHATEVER THE INPUT: true; the input reads as it did. -/
def fnCountDeepUsersMatchesReachModelSpec : ChangeSpec := { name := "fnCountDeepUsersMatchesReachModel", fn := fun _ => fun
  | [d1, d2] => { results := [.lit (.bool true)], args := [d1, d2] }
  | _ => none }
def fnCountDeepUsersMatchesReachModelRow : OpenClaim := { program := "qxb6601564a", sum := "1f76f88e1c90fee46f4b3260a3ff8e173f86d3e917edce3754354af5c05c7b00", func := "example.com/acrol/acrol/zzlaws_internal_csvpolicy_b1.FnCountDeepUsersMatchesReachModel", spec := "fnCountDeepUsersMatchesReachModel", unfollowed := true, recurses := true, maps := true, apart := false }
def FnCountDeepUsersMatchesReachModelSaid : Prop := fnCountDeepUsersMatchesReachModelRow.holds Try.pinned (OpenSpec.ofChange fnCountDeepUsersMatchesReachModelSpec)

/-- ITS FALSE NEIGHBOUR: 'it returns false'. Refute it at one input. -/
def fnCountDeepUsersMatchesReachModelWrong : ChangeSpec := { name := "fnCountDeepUsersMatchesReachModel", fn := fun _ => fun
  | [d1, d2] => { results := [.lit (.bool false)], args := [d1, d2] }
  | _ => none }
def FnCountDeepUsersMatchesReachModelWrongFalsely : Prop := fnCountDeepUsersMatchesReachModelRow.holds Try.pinned (OpenSpec.ofChange fnCountDeepUsersMatchesReachModelWrong)

/-- 'zzlaws_internal_csvpolicy_b1.FnCountDeepUsersIgnoresRecordOrder': WHATEVER THE INPUT: true; the input reads as it did. -/
def fnCountDeepUsersIgnoresRecordOrderSpec : ChangeSpec := { name := "fnCountDeepUsersIgnoresRecordOrder", fn := fun _ => fun
  | [d1, d2] => { results := [.lit (.bool true)], args := [d1, d2] }
  | _ => none }
def fnCountDeepUsersIgnoresRecordOrderRow : OpenClaim := { program := "qxb6601564a", sum := "1f76f88e1c90fee46f4b3260a3ff8e173f86d3e917edce3754354af5c05c7b00", func := "example.com/acrol/acrol/zzlaws_internal_csvpolicy_b1.FnCountDeepUsersIgnoresRecordOrder", spec := "fnCountDeepUsersIgnoresRecordOrder", unfollowed := true, recurses := true, maps := true, apart := false }
def FnCountDeepUsersIgnoresRecordOrderSaid : Prop := fnCountDeepUsersIgnoresRecordOrderRow.holds Try.pinned (OpenSpec.ofChange fnCountDeepUsersIgnoresRecordOrderSpec)

/-- ITS FALSE NEIGHBOUR: 'it returns false'. Refute it at one input. -/
def fnCountDeepUsersIgnoresRecordOrderWrong : ChangeSpec := { name := "fnCountDeepUsersIgnoresRecordOrder", fn := fun _ => fun
  | [d1, d2] => { results := [.lit (.bool false)], args := [d1, d2] }
  | _ => none }
def FnCountDeepUsersIgnoresRecordOrderWrongFalsely : Prop := fnCountDeepUsersIgnoresRecordOrderRow.holds Try.pinned (OpenSpec.ofChange fnCountDeepUsersIgnoresRecordOrderWrong)

/-- 'zzlaws_internal_csvpolicy_b1.FnCountDeepUsersGrowsWithGrant': WHATEVER THE INPUT: true; the input reads as it did. -/
def fnCountDeepUsersGrowsWithGrantSpec : ChangeSpec := { name := "fnCountDeepUsersGrowsWithGrant", fn := fun _ => fun
  | [d1, d2, d3] => { results := [.lit (.bool true)], args := [d1, d2, d3] }
  | _ => none }
def fnCountDeepUsersGrowsWithGrantRow : OpenClaim := { program := "qxb6601564a", sum := "1f76f88e1c90fee46f4b3260a3ff8e173f86d3e917edce3754354af5c05c7b00", func := "example.com/acrol/acrol/zzlaws_internal_csvpolicy_b1.FnCountDeepUsersGrowsWithGrant", spec := "fnCountDeepUsersGrowsWithGrant", unfollowed := true, recurses := true, maps := true, apart := false }
def FnCountDeepUsersGrowsWithGrantSaid : Prop := fnCountDeepUsersGrowsWithGrantRow.holds Try.pinned (OpenSpec.ofChange fnCountDeepUsersGrowsWithGrantSpec)

/-- ITS FALSE NEIGHBOUR: 'it returns false'. Refute it at one input. -/
def fnCountDeepUsersGrowsWithGrantWrong : ChangeSpec := { name := "fnCountDeepUsersGrowsWithGrant", fn := fun _ => fun
  | [d1, d2, d3] => { results := [.lit (.bool false)], args := [d1, d2, d3] }
  | _ => none }
def FnCountDeepUsersGrowsWithGrantWrongFalsely : Prop := fnCountDeepUsersGrowsWithGrantRow.holds Try.pinned (OpenSpec.ofChange fnCountDeepUsersGrowsWithGrantWrong)

end Rows
end Go.Proofs.Qxb6601564a

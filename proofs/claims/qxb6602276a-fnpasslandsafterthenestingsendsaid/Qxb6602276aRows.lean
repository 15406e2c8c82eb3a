/-
  No cell of these rows narrows 'for every input' (looked for: loops, veiled, ifaces, maps, wideKeys, modest, calm, conditions, laid).
  DERIVED. THE GIVEN ROWS OF THIS SEAT. 2 by the template 'for every input the law returns true; each argument reads behind the call as it read before'; 0 by the template 'total and deterministic' (their statements: Qxb6602276aTotals.lean).
  GIVEN WITH THE SEED: the statements are not yours to turn. If you find one false, say at which input.
  Laid BY PROGRAM, IN A SANDBOX (cutbox-rows.mjs): the forced cells as the released guide's own fill.sh prints them over the translation 248c9f304184bcdd… (all of the seat's roots in one cut). By AI agents, Wed Nov 11 2026. No macro, syntax, notation, axiom, sorry.
-/
import Derived.Test.Qxb6602276aChecked
import GoSem.Claim
import GoSem.ClaimJoined
import GoSem.ClaimMapViews
import Derived.JoinedTies
import Derived.KernelRfl
namespace Go.Proofs.Qxb6602276a
/- THE CELL 'sum', in the pinned program and in every row, IS THE sha256 OF THE DUMP (.gsa) THAT Qxb6602276aProg.lean LOADS. Nothing in Lean hashes anything: it is a label: what it is worth is what the hold of that sum in a sandbox is worth. -/
noncomputable def Try.pinned : Pinned := { name := "qxb6602276a", sum := "248c9f304184bcdde3562d8ee180cdbb9f08c01d0b7b28e3785621cfabbe08cf", checked := Try.checked }
namespace Rows
def none {H : Type} : Left H := { results := [], args := [] }

/-- 'zzlaws_stif_b1.FnPassLandsAfterTheNestingsEnd': WHATEVER THE INPUT: true; the input reads as it did. -/
def fnPassLandsAfterTheNestingsEndSpec : ChangeSpec := { name := "fnPassLandsAfterTheNestingsEnd", fn := fun _ => fun
  | [d1, d2, d3, d4, d5, d6, d7, d8, d9] => { results := [.lit (.bool true)], args := [d1, d2, d3, d4, d5, d6, d7, d8, d9] }
  | _ => none }
def fnPassLandsAfterTheNestingsEndRow : OpenClaim := { program := "qxb6602276a", sum := "248c9f304184bcdde3562d8ee180cdbb9f08c01d0b7b28e3785621cfabbe08cf", func := "example.com/delrec/delrec/zzlaws_stif_b1.FnPassLandsAfterTheNestingsEnd", spec := "fnPassLandsAfterTheNestingsEnd", apart := false }
def FnPassLandsAfterTheNestingsEndSaid : Prop := fnPassLandsAfterTheNestingsEndRow.holds Try.pinned (OpenSpec.ofChange fnPassLandsAfterTheNestingsEndSpec)

/-- ITS FALSE NEIGHBOUR: 'it returns false'. Refute it at one input. -/
def fnPassLandsAfterTheNestingsEndWrong : ChangeSpec := { name := "fnPassLandsAfterTheNestingsEnd", fn := fun _ => fun
  | [d1, d2, d3, d4, d5, d6, d7, d8, d9] => { results := [.lit (.bool false)], args := [d1, d2, d3, d4, d5, d6, d7, d8, d9] }
  | _ => none }
def FnPassLandsAfterTheNestingsEndWrongFalsely : Prop := fnPassLandsAfterTheNestingsEndRow.holds Try.pinned (OpenSpec.ofChange fnPassLandsAfterTheNestingsEndWrong)

/-- 'zzlaws_stif_b1.FnPassSkipsChangeNoLanding': WHATEVER THE INPUT: true; the input reads as it did. -/
def fnPassSkipsChangeNoLandingSpec : ChangeSpec := { name := "fnPassSkipsChangeNoLanding", fn := fun _ => fun
  | [d1, d2, d3, d4, d5, d6, d7, d8, d9] => { results := [.lit (.bool true)], args := [d1, d2, d3, d4, d5, d6, d7, d8, d9] }
  | _ => none }
def fnPassSkipsChangeNoLandingRow : OpenClaim := { program := "qxb6602276a", sum := "248c9f304184bcdde3562d8ee180cdbb9f08c01d0b7b28e3785621cfabbe08cf", func := "example.com/delrec/delrec/zzlaws_stif_b1.FnPassSkipsChangeNoLanding", spec := "fnPassSkipsChangeNoLanding", apart := false }
def FnPassSkipsChangeNoLandingSaid : Prop := fnPassSkipsChangeNoLandingRow.holds Try.pinned (OpenSpec.ofChange fnPassSkipsChangeNoLandingSpec)

/-- ITS FALSE NEIGHBOUR: 'it returns false'. Refute it at one input. -/
def fnPassSkipsChangeNoLandingWrong : ChangeSpec := { name := "fnPassSkipsChangeNoLanding", fn := fun _ => fun
  | [d1, d2, d3, d4, d5, d6, d7, d8, d9] => { results := [.lit (.bool false)], args := [d1, d2, d3, d4, d5, d6, d7, d8, d9] }
  | _ => none }
def FnPassSkipsChangeNoLandingWrongFalsely : Prop := fnPassSkipsChangeNoLandingRow.holds Try.pinned (OpenSpec.ofChange fnPassSkipsChangeNoLandingWrong)

end Rows
end Go.Proofs.Qxb6602276a

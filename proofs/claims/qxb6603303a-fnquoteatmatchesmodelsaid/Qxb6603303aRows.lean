/-
  No cell of these rows narrows 'for every input' (looked for: loops, veiled, ifaces, maps, wideKeys, modest, calm, conditions, laid).
  DERIVED. THE GIVEN ROWS OF THIS SEAT. 7 by the template 'for every input the law returns true; each argument reads behind the call as it read before'; 0 by the template 'total and deterministic' (their statements: Qxb6603303aTotals.lean).
  GIVEN WITH THE SEED: the statements are not yours to turn. If you find one false, say at which input.
  Laid BY PROGRAM, IN A SANDBOX (cutbox-rows.mjs): the forced cells as the released guide's own fill.sh prints them over the translation 830a0937f9c160ac… (all of the seat's roots in one cut). By AI agents, Wed Nov 11 2026. No macro, syntax, notation, axiom, sorry.
-/
import Derived.Test.Qxb6603303aChecked
import GoSem.Claim
import GoSem.ClaimJoined
import GoSem.ClaimMapViews
import Derived.JoinedTies
import Derived.KernelRfl
namespace Go.Proofs.Qxb6603303a
/- THE CELL 'sum', in the pinned program and in every row, IS THE sha256 OF THE DUMP (.gsa) THAT Qxb6603303aProg.lean LOADS. Nothing in Lean hashes anything: it is a label: what it is worth is what the hold of that sum in a sandbox is worth. -/
noncomputable def Try.pinned : Pinned := { name := "qxb6603303a", sum := "830a0937f9c160ac2b0a3c50832fa03c2337e80b5c00c0aea17ffcbba52ac9c3", checked := Try.checked }
namespace Rows
def none {H : Type} : Left H := { results := [], args := [] }

/-- 'zzlaws_internal_mask_b1.FnQuoteAtMatchesModel': WHATEVER THE INPUT: true; the input reads as it did. -/
def fnQuoteAtMatchesModelSpec : ChangeSpec := { name := "fnQuoteAtMatchesModel", fn := fun _ => fun
  | [d1, d2] => { results := [.lit (.bool true)], args := [d1, d2] }
  | _ => none }
def fnQuoteAtMatchesModelRow : OpenClaim := { program := "qxb6603303a", sum := "830a0937f9c160ac2b0a3c50832fa03c2337e80b5c00c0aea17ffcbba52ac9c3", func := "example.com/pipewright/pipewright/zzlaws_internal_mask_b1.FnQuoteAtMatchesModel", spec := "fnQuoteAtMatchesModel", apart := false }
def FnQuoteAtMatchesModelSaid : Prop := fnQuoteAtMatchesModelRow.holds Try.pinned (OpenSpec.ofChange fnQuoteAtMatchesModelSpec)

/-- ITS FALSE NEIGHBOUR: 'it returns false'. Refute it at one input. -/
def fnQuoteAtMatchesModelWrong : ChangeSpec := { name := "fnQuoteAtMatchesModel", fn := fun _ => fun
  | [d1, d2] => { results := [.lit (.bool false)], args := [d1, d2] }
  | _ => none }
def FnQuoteAtMatchesModelWrongFalsely : Prop := fnQuoteAtMatchesModelRow.holds Try.pinned (OpenSpec.ofChange fnQuoteAtMatchesModelWrong)

/-- 'zzlaws_internal_mask_b1.FnQuoteAtDecisionIsFinal': WHATEVER THE INPUT: true; the input reads as it did. -/
def fnQuoteAtDecisionIsFinalSpec : ChangeSpec := { name := "fnQuoteAtDecisionIsFinal", fn := fun _ => fun
  | [d1, d2, d3] => { results := [.lit (.bool true)], args := [d1, d2, d3] }
  | _ => none }
def fnQuoteAtDecisionIsFinalRow : OpenClaim := { program := "qxb6603303a", sum := "830a0937f9c160ac2b0a3c50832fa03c2337e80b5c00c0aea17ffcbba52ac9c3", func := "example.com/pipewright/pipewright/zzlaws_internal_mask_b1.FnQuoteAtDecisionIsFinal", spec := "fnQuoteAtDecisionIsFinal", apart := false }
def FnQuoteAtDecisionIsFinalSaid : Prop := fnQuoteAtDecisionIsFinalRow.holds Try.pinned (OpenSpec.ofChange fnQuoteAtDecisionIsFinalSpec)

/-- ITS FALSE NEIGHBOUR: 'it returns false'. Refute it at one input. -/
def fnQuoteAtDecisionIsFinalWrong : ChangeSpec := { name := "fnQuoteAtDecisionIsFinal", fn := fun _ => fun
  | [d1, d2, d3] => { results := [.lit (.bool false)], args := [d1, d2, d3] }
  | _ => none }
def FnQuoteAtDecisionIsFinalWrongFalsely : Prop := fnQuoteAtDecisionIsFinalRow.holds Try.pinned (OpenSpec.ofChange fnQuoteAtDecisionIsFinalWrong)

/-- 'zzlaws_internal_mask_b1.FnQuoteReaderStepMatchesModel': WHATEVER THE INPUT: true; the input reads as it did. -/
def fnQuoteReaderStepMatchesModelSpec : ChangeSpec := { name := "fnQuoteReaderStepMatchesModel", fn := fun _ => fun
  | [d1, d2, d3] => { results := [.lit (.bool true)], args := [d1, d2, d3] }
  | _ => none }
def fnQuoteReaderStepMatchesModelRow : OpenClaim := { program := "qxb6603303a", sum := "830a0937f9c160ac2b0a3c50832fa03c2337e80b5c00c0aea17ffcbba52ac9c3", func := "example.com/pipewright/pipewright/zzlaws_internal_mask_b1.FnQuoteReaderStepMatchesModel", spec := "fnQuoteReaderStepMatchesModel", apart := false }
def FnQuoteReaderStepMatchesModelSaid : Prop := fnQuoteReaderStepMatchesModelRow.holds Try.pinned (OpenSpec.ofChange fnQuoteReaderStepMatchesModelSpec)

/-- ITS FALSE NEIGHBOUR: 'it returns false'. Refute it at one input. -/
def fnQuoteReaderStepMatchesModelWrong : ChangeSpec := { name := "fnQuoteReaderStepMatchesModel", fn := fun _ => fun
  | [d1, d2, d3] => { results := [.lit (.bool false)], args := [d1, d2, d3] }
  | _ => none }
def FnQuoteReaderStepMatchesModelWrongFalsely : Prop := fnQuoteReaderStepMatchesModelRow.holds Try.pinned (OpenSpec.ofChange fnQuoteReaderStepMatchesModelWrong)

/-- 'zzlaws_internal_mask_b1.FnQuoteReaderReadsQuotesBackward': WHATEVER THE INPUT: true; the input reads as it did. -/
def fnQuoteReaderReadsQuotesBackwardSpec : ChangeSpec := { name := "fnQuoteReaderReadsQuotesBackward", fn := fun _ => fun
  | [d] => { results := [.lit (.bool true)], args := [d] }
  | _ => none }
def fnQuoteReaderReadsQuotesBackwardRow : OpenClaim := { program := "qxb6603303a", sum := "830a0937f9c160ac2b0a3c50832fa03c2337e80b5c00c0aea17ffcbba52ac9c3", func := "example.com/pipewright/pipewright/zzlaws_internal_mask_b1.FnQuoteReaderReadsQuotesBackward", spec := "fnQuoteReaderReadsQuotesBackward", apart := false }
def FnQuoteReaderReadsQuotesBackwardSaid : Prop := fnQuoteReaderReadsQuotesBackwardRow.holds Try.pinned (OpenSpec.ofChange fnQuoteReaderReadsQuotesBackwardSpec)

/-- ITS FALSE NEIGHBOUR: 'it returns false'. Refute it at one input. -/
def fnQuoteReaderReadsQuotesBackwardWrong : ChangeSpec := { name := "fnQuoteReaderReadsQuotesBackward", fn := fun _ => fun
  | [d] => { results := [.lit (.bool false)], args := [d] }
  | _ => none }
def FnQuoteReaderReadsQuotesBackwardWrongFalsely : Prop := fnQuoteReaderReadsQuotesBackwardRow.holds Try.pinned (OpenSpec.ofChange fnQuoteReaderReadsQuotesBackwardWrong)

/-- 'zzlaws_internal_mask_b1.FnQuoteReaderAgreesWithQuoteAt': WHATEVER THE INPUT: true; the input reads as it did. -/
def fnQuoteReaderAgreesWithQuoteAtSpec : ChangeSpec := { name := "fnQuoteReaderAgreesWithQuoteAt", fn := fun _ => fun
  | [d] => { results := [.lit (.bool true)], args := [d] }
  | _ => none }
def fnQuoteReaderAgreesWithQuoteAtRow : OpenClaim := { program := "qxb6603303a", sum := "830a0937f9c160ac2b0a3c50832fa03c2337e80b5c00c0aea17ffcbba52ac9c3", func := "example.com/pipewright/pipewright/zzlaws_internal_mask_b1.FnQuoteReaderAgreesWithQuoteAt", spec := "fnQuoteReaderAgreesWithQuoteAt", apart := false }
def FnQuoteReaderAgreesWithQuoteAtSaid : Prop := fnQuoteReaderAgreesWithQuoteAtRow.holds Try.pinned (OpenSpec.ofChange fnQuoteReaderAgreesWithQuoteAtSpec)

/-- ITS FALSE NEIGHBOUR: 'it returns false'. Refute it at one input. -/
def fnQuoteReaderAgreesWithQuoteAtWrong : ChangeSpec := { name := "fnQuoteReaderAgreesWithQuoteAt", fn := fun _ => fun
  | [d] => { results := [.lit (.bool false)], args := [d] }
  | _ => none }
def FnQuoteReaderAgreesWithQuoteAtWrongFalsely : Prop := fnQuoteReaderAgreesWithQuoteAtRow.holds Try.pinned (OpenSpec.ofChange fnQuoteReaderAgreesWithQuoteAtWrong)

/-- 'zzlaws_internal_mask_b1.FnJSONValueMatchesModel': WHATEVER THE INPUT: true; the input reads as it did. -/
def fnJSONValueMatchesModelSpec : ChangeSpec := { name := "fnJSONValueMatchesModel", fn := fun _ => fun
  | [d1, d2, d3] => { results := [.lit (.bool true)], args := [d1, d2, d3] }
  | _ => none }
def fnJSONValueMatchesModelRow : OpenClaim := { program := "qxb6603303a", sum := "830a0937f9c160ac2b0a3c50832fa03c2337e80b5c00c0aea17ffcbba52ac9c3", func := "example.com/pipewright/pipewright/zzlaws_internal_mask_b1.FnJSONValueMatchesModel", spec := "fnJSONValueMatchesModel", apart := false }
def FnJSONValueMatchesModelSaid : Prop := fnJSONValueMatchesModelRow.holds Try.pinned (OpenSpec.ofChange fnJSONValueMatchesModelSpec)

/-- ITS FALSE NEIGHBOUR: 'it returns false'. Refute it at one input. -/
def fnJSONValueMatchesModelWrong : ChangeSpec := { name := "fnJSONValueMatchesModel", fn := fun _ => fun
  | [d1, d2, d3] => { results := [.lit (.bool false)], args := [d1, d2, d3] }
  | _ => none }
def FnJSONValueMatchesModelWrongFalsely : Prop := fnJSONValueMatchesModelRow.holds Try.pinned (OpenSpec.ofChange fnJSONValueMatchesModelWrong)

/-- 'zzlaws_internal_mask_b1.FnJSONValueDecisionIsFinal': WHATEVER THE INPUT: true; the input reads as it did. -/
def fnJSONValueDecisionIsFinalSpec : ChangeSpec := { name := "fnJSONValueDecisionIsFinal", fn := fun _ => fun
  | [d1, d2, d3, d4] => { results := [.lit (.bool true)], args := [d1, d2, d3, d4] }
  | _ => none }
def fnJSONValueDecisionIsFinalRow : OpenClaim := { program := "qxb6603303a", sum := "830a0937f9c160ac2b0a3c50832fa03c2337e80b5c00c0aea17ffcbba52ac9c3", func := "example.com/pipewright/pipewright/zzlaws_internal_mask_b1.FnJSONValueDecisionIsFinal", spec := "fnJSONValueDecisionIsFinal", apart := false }
def FnJSONValueDecisionIsFinalSaid : Prop := fnJSONValueDecisionIsFinalRow.holds Try.pinned (OpenSpec.ofChange fnJSONValueDecisionIsFinalSpec)

/-- ITS FALSE NEIGHBOUR: 'it returns false'. Refute it at one input. -/
def fnJSONValueDecisionIsFinalWrong : ChangeSpec := { name := "fnJSONValueDecisionIsFinal", fn := fun _ => fun
  | [d1, d2, d3, d4] => { results := [.lit (.bool false)], args := [d1, d2, d3, d4] }
  | _ => none }
def FnJSONValueDecisionIsFinalWrongFalsely : Prop := fnJSONValueDecisionIsFinalRow.holds Try.pinned (OpenSpec.ofChange fnJSONValueDecisionIsFinalWrong)

end Rows
end Go.Proofs.Qxb6603303a

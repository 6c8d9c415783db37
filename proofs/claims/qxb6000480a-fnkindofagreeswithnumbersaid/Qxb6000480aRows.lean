/-
  No cell of these rows narrows 'for every input' (looked for: loops, veiled, ifaces, maps, wideKeys, modest, calm, conditions, laid).
  DERIVED. THE GIVEN ROWS OF THIS SEAT. 7 by the template 'for every input the law returns true; each argument reads behind the call as it read before'; 0 by the template 'total and deterministic' (their statements: Qxb6000480aTotals.lean).
  GIVEN WITH THE SEED: the statements are not yours to turn. If you find one false, say at which input.
  Laid BY PROGRAM, IN A SANDBOX (cutbox-rows.mjs): the forced cells as the released guide's own fill.sh prints them over the translation 84109157cda54e75… (all of the seat's roots in one cut). By AI agents, Wed Nov 11 2026. No macro, syntax, notation, axiom, sorry.
-/
import Derived.Test.Qxb6000480aChecked
import GoSem.Claim
import GoSem.ClaimJoined
import GoSem.ClaimMapViews
import Derived.JoinedTies
import Derived.KernelRfl
namespace Go.Proofs.Qxb6000480a
/- THE CELL 'sum', in the pinned program and in every row, IS THE sha256 OF THE DUMP (.gsa) THAT Qxb6000480aProg.lean LOADS. Nothing in Lean hashes anything: it is a label: what it is worth is what the hold of that sum in a sandbox is worth. -/
noncomputable def Try.pinned : Pinned := { name := "qxb6000480a", sum := "84109157cda54e75103be986484042e8a4a30a059f166cf698b80a6b1164beca", checked := Try.checked }
namespace Rows
def none {H : Type} : Left H := { results := [], args := [] }

/-- 'zzlaws_engine_b1.FnSearchMatchesLinearCount': WHATEVER THE INPUT: true; the input reads as it did. -/
def fnSearchMatchesLinearCountSpec : ChangeSpec := { name := "fnSearchMatchesLinearCount", fn := fun _ => fun
  | [d1, d2, d3] => { results := [.lit (.bool true)], args := [d1, d2, d3] }
  | _ => none }
def fnSearchMatchesLinearCountRow : OpenClaim := { program := "qxb6000480a", sum := "84109157cda54e75103be986484042e8a4a30a059f166cf698b80a6b1164beca", func := "example.com/strisk/strisk/zzlaws_engine_b1.FnSearchMatchesLinearCount", spec := "fnSearchMatchesLinearCount", apart := false }
def FnSearchMatchesLinearCountSaid : Prop := fnSearchMatchesLinearCountRow.holds Try.pinned (OpenSpec.ofChange fnSearchMatchesLinearCountSpec)

/-- ITS FALSE NEIGHBOUR: 'it returns false'. Refute it at one input. -/
def fnSearchMatchesLinearCountWrong : ChangeSpec := { name := "fnSearchMatchesLinearCount", fn := fun _ => fun
  | [d1, d2, d3] => { results := [.lit (.bool false)], args := [d1, d2, d3] }
  | _ => none }
def FnSearchMatchesLinearCountWrongFalsely : Prop := fnSearchMatchesLinearCountRow.holds Try.pinned (OpenSpec.ofChange fnSearchMatchesLinearCountWrong)

/-- 'zzlaws_engine_b1.FnSearchMonotone': WHATEVER THE INPUT: true; the input reads as it did. -/
def fnSearchMonotoneSpec : ChangeSpec := { name := "fnSearchMonotone", fn := fun _ => fun
  | [d1, d2, d3, d4] => { results := [.lit (.bool true)], args := [d1, d2, d3, d4] }
  | _ => none }
def fnSearchMonotoneRow : OpenClaim := { program := "qxb6000480a", sum := "84109157cda54e75103be986484042e8a4a30a059f166cf698b80a6b1164beca", func := "example.com/strisk/strisk/zzlaws_engine_b1.FnSearchMonotone", spec := "fnSearchMonotone", apart := false }
def FnSearchMonotoneSaid : Prop := fnSearchMonotoneRow.holds Try.pinned (OpenSpec.ofChange fnSearchMonotoneSpec)

/-- ITS FALSE NEIGHBOUR: 'it returns false'. Refute it at one input. -/
def fnSearchMonotoneWrong : ChangeSpec := { name := "fnSearchMonotone", fn := fun _ => fun
  | [d1, d2, d3, d4] => { results := [.lit (.bool false)], args := [d1, d2, d3, d4] }
  | _ => none }
def FnSearchMonotoneWrongFalsely : Prop := fnSearchMonotoneRow.holds Try.pinned (OpenSpec.ofChange fnSearchMonotoneWrong)

/-- 'zzlaws_engine_b1.FnSearchBoundedOnAnyRows': WHATEVER THE INPUT: true; the input reads as it did. -/
def fnSearchBoundedOnAnyRowsSpec : ChangeSpec := { name := "fnSearchBoundedOnAnyRows", fn := fun _ => fun
  | [d1, d2, d3] => { results := [.lit (.bool true)], args := [d1, d2, d3] }
  | _ => none }
def fnSearchBoundedOnAnyRowsRow : OpenClaim := { program := "qxb6000480a", sum := "84109157cda54e75103be986484042e8a4a30a059f166cf698b80a6b1164beca", func := "example.com/strisk/strisk/zzlaws_engine_b1.FnSearchBoundedOnAnyRows", spec := "fnSearchBoundedOnAnyRows", apart := false }
def FnSearchBoundedOnAnyRowsSaid : Prop := fnSearchBoundedOnAnyRowsRow.holds Try.pinned (OpenSpec.ofChange fnSearchBoundedOnAnyRowsSpec)

/-- ITS FALSE NEIGHBOUR: 'it returns false'. Refute it at one input. -/
def fnSearchBoundedOnAnyRowsWrong : ChangeSpec := { name := "fnSearchBoundedOnAnyRows", fn := fun _ => fun
  | [d1, d2, d3] => { results := [.lit (.bool false)], args := [d1, d2, d3] }
  | _ => none }
def FnSearchBoundedOnAnyRowsWrongFalsely : Prop := fnSearchBoundedOnAnyRowsRow.holds Try.pinned (OpenSpec.ofChange fnSearchBoundedOnAnyRowsWrong)

/-- 'zzlaws_engine_b1.FnNumberMatchesDFA': WHATEVER THE INPUT: true; the input reads as it did. -/
def fnNumberMatchesDFASpec : ChangeSpec := { name := "fnNumberMatchesDFA", fn := fun _ => fun
  | [d1, d2] => { results := [.lit (.bool true)], args := [d1, d2] }
  | _ => none }
def fnNumberMatchesDFARow : OpenClaim := { program := "qxb6000480a", sum := "84109157cda54e75103be986484042e8a4a30a059f166cf698b80a6b1164beca", func := "example.com/strisk/strisk/zzlaws_engine_b1.FnNumberMatchesDFA", spec := "fnNumberMatchesDFA", apart := false }
def FnNumberMatchesDFASaid : Prop := fnNumberMatchesDFARow.holds Try.pinned (OpenSpec.ofChange fnNumberMatchesDFASpec)

/-- ITS FALSE NEIGHBOUR: 'it returns false'. Refute it at one input. -/
def fnNumberMatchesDFAWrong : ChangeSpec := { name := "fnNumberMatchesDFA", fn := fun _ => fun
  | [d1, d2] => { results := [.lit (.bool false)], args := [d1, d2] }
  | _ => none }
def FnNumberMatchesDFAWrongFalsely : Prop := fnNumberMatchesDFARow.holds Try.pinned (OpenSpec.ofChange fnNumberMatchesDFAWrong)

/-- 'zzlaws_engine_b1.FnNumberTokenStandsAlone': WHATEVER THE INPUT: true; the input reads as it did. -/
def fnNumberTokenStandsAloneSpec : ChangeSpec := { name := "fnNumberTokenStandsAlone", fn := fun _ => fun
  | [d1, d2] => { results := [.lit (.bool true)], args := [d1, d2] }
  | _ => none }
def fnNumberTokenStandsAloneRow : OpenClaim := { program := "qxb6000480a", sum := "84109157cda54e75103be986484042e8a4a30a059f166cf698b80a6b1164beca", func := "example.com/strisk/strisk/zzlaws_engine_b1.FnNumberTokenStandsAlone", spec := "fnNumberTokenStandsAlone", apart := false }
def FnNumberTokenStandsAloneSaid : Prop := fnNumberTokenStandsAloneRow.holds Try.pinned (OpenSpec.ofChange fnNumberTokenStandsAloneSpec)

/-- ITS FALSE NEIGHBOUR: 'it returns false'. Refute it at one input. -/
def fnNumberTokenStandsAloneWrong : ChangeSpec := { name := "fnNumberTokenStandsAlone", fn := fun _ => fun
  | [d1, d2] => { results := [.lit (.bool false)], args := [d1, d2] }
  | _ => none }
def FnNumberTokenStandsAloneWrongFalsely : Prop := fnNumberTokenStandsAloneRow.holds Try.pinned (OpenSpec.ofChange fnNumberTokenStandsAloneWrong)

/-- 'zzlaws_engine_b1.FnKindOfAgreesWithNumber': WHATEVER THE INPUT: true; the input reads as it did. -/
def fnKindOfAgreesWithNumberSpec : ChangeSpec := { name := "fnKindOfAgreesWithNumber", fn := fun _ => fun
  | [d] => { results := [.lit (.bool true)], args := [d] }
  | _ => none }
def fnKindOfAgreesWithNumberRow : OpenClaim := { program := "qxb6000480a", sum := "84109157cda54e75103be986484042e8a4a30a059f166cf698b80a6b1164beca", func := "example.com/strisk/strisk/zzlaws_engine_b1.FnKindOfAgreesWithNumber", spec := "fnKindOfAgreesWithNumber", apart := false }
def FnKindOfAgreesWithNumberSaid : Prop := fnKindOfAgreesWithNumberRow.holds Try.pinned (OpenSpec.ofChange fnKindOfAgreesWithNumberSpec)

/-- ITS FALSE NEIGHBOUR: 'it returns false'. Refute it at one input. -/
def fnKindOfAgreesWithNumberWrong : ChangeSpec := { name := "fnKindOfAgreesWithNumber", fn := fun _ => fun
  | [d] => { results := [.lit (.bool false)], args := [d] }
  | _ => none }
def FnKindOfAgreesWithNumberWrongFalsely : Prop := fnKindOfAgreesWithNumberRow.holds Try.pinned (OpenSpec.ofChange fnKindOfAgreesWithNumberWrong)

/-- 'zzlaws_engine_b1.FnKindOfIgnoresTail': WHATEVER THE INPUT: true; the input reads as it did. -/
def fnKindOfIgnoresTailSpec : ChangeSpec := { name := "fnKindOfIgnoresTail", fn := fun _ => fun
  | [d1, d2] => { results := [.lit (.bool true)], args := [d1, d2] }
  | _ => none }
def fnKindOfIgnoresTailRow : OpenClaim := { program := "qxb6000480a", sum := "84109157cda54e75103be986484042e8a4a30a059f166cf698b80a6b1164beca", func := "example.com/strisk/strisk/zzlaws_engine_b1.FnKindOfIgnoresTail", spec := "fnKindOfIgnoresTail", apart := false }
def FnKindOfIgnoresTailSaid : Prop := fnKindOfIgnoresTailRow.holds Try.pinned (OpenSpec.ofChange fnKindOfIgnoresTailSpec)

/-- ITS FALSE NEIGHBOUR: 'it returns false'. Refute it at one input. -/
def fnKindOfIgnoresTailWrong : ChangeSpec := { name := "fnKindOfIgnoresTail", fn := fun _ => fun
  | [d1, d2] => { results := [.lit (.bool false)], args := [d1, d2] }
  | _ => none }
def FnKindOfIgnoresTailWrongFalsely : Prop := fnKindOfIgnoresTailRow.holds Try.pinned (OpenSpec.ofChange fnKindOfIgnoresTailWrong)

end Rows
end Go.Proofs.Qxb6000480a

/-
  No cell of these rows narrows 'for every input' (looked for: loops, veiled, ifaces, maps, wideKeys, modest, calm, conditions, laid).
  DERIVED. THE GIVEN ROWS OF THIS SEAT. 5 by the template 'for every input the law returns true; each argument reads behind the call as it read before'; 0 by the template 'total and deterministic' (their statements: Qxb6000793aTotals.lean).
  GIVEN WITH THE SEED: the statements are not yours to turn. If you find one false, say at which input.
  Laid BY PROGRAM, IN A SANDBOX (cutbox-rows.mjs): the forced cells as the released guide's own fill.sh prints them over the translation 0504dd28374556f9… (all of the seat's roots in one cut). By AI agents, Wed Nov 11 2026. No macro, syntax, notation, axiom, sorry.
-/
import Derived.Test.Qxb6000793aChecked
import GoSem.Claim
import GoSem.ClaimJoined
import GoSem.ClaimMapViews
import Derived.JoinedTies
import Derived.KernelRfl
namespace Go.Proofs.Qxb6000793a
/- THE CELL 'sum', in the pinned program and in every row, IS THE sha256 OF THE DUMP (.gsa) THAT Qxb6000793aProg.lean LOADS. Nothing in Lean hashes anything: it is a label: what it is worth is what the hold of that sum in a sandbox is worth. -/
noncomputable def Try.pinned : Pinned := { name := "qxb6000793a", sum := "0504dd28374556f966cefb0a7ee53d986a9903b7df177fbc52693e13e1499cfd", checked := Try.checked }
namespace Rows
def none {H : Type} : Left H := { results := [], args := [] }

/-- 'zzlaws_internal_session_b1.FnHoldsEveryMatchesByteModel': WHATEVER THE INPUT: true; the input reads as it did. -/
def fnHoldsEveryMatchesByteModelSpec : ChangeSpec := { name := "fnHoldsEveryMatchesByteModel", fn := fun _ => fun
  | [d1, d2] => { results := [.lit (.bool true)], args := [d1, d2] }
  | _ => none }
def fnHoldsEveryMatchesByteModelRow : OpenClaim := { program := "qxb6000793a", sum := "0504dd28374556f966cefb0a7ee53d986a9903b7df177fbc52693e13e1499cfd", func := "example.com/peerloom/peerloom/zzlaws_internal_session_b1.FnHoldsEveryMatchesByteModel", spec := "fnHoldsEveryMatchesByteModel", apart := false }
def FnHoldsEveryMatchesByteModelSaid : Prop := fnHoldsEveryMatchesByteModelRow.holds Try.pinned (OpenSpec.ofChange fnHoldsEveryMatchesByteModelSpec)

/-- ITS FALSE NEIGHBOUR: 'it returns false'. Refute it at one input. -/
def fnHoldsEveryMatchesByteModelWrong : ChangeSpec := { name := "fnHoldsEveryMatchesByteModel", fn := fun _ => fun
  | [d1, d2] => { results := [.lit (.bool false)], args := [d1, d2] }
  | _ => none }
def FnHoldsEveryMatchesByteModelWrongFalsely : Prop := fnHoldsEveryMatchesByteModelRow.holds Try.pinned (OpenSpec.ofChange fnHoldsEveryMatchesByteModelWrong)

/-- 'zzlaws_internal_session_b1.FnHoldsEveryFewerPieces': WHATEVER THE INPUT: true; the input reads as it did. -/
def fnHoldsEveryFewerPiecesSpec : ChangeSpec := { name := "fnHoldsEveryFewerPieces", fn := fun _ => fun
  | [d1, d2, d3] => { results := [.lit (.bool true)], args := [d1, d2, d3] }
  | _ => none }
def fnHoldsEveryFewerPiecesRow : OpenClaim := { program := "qxb6000793a", sum := "0504dd28374556f966cefb0a7ee53d986a9903b7df177fbc52693e13e1499cfd", func := "example.com/peerloom/peerloom/zzlaws_internal_session_b1.FnHoldsEveryFewerPieces", spec := "fnHoldsEveryFewerPieces", apart := false }
def FnHoldsEveryFewerPiecesSaid : Prop := fnHoldsEveryFewerPiecesRow.holds Try.pinned (OpenSpec.ofChange fnHoldsEveryFewerPiecesSpec)

/-- ITS FALSE NEIGHBOUR: 'it returns false'. Refute it at one input. -/
def fnHoldsEveryFewerPiecesWrong : ChangeSpec := { name := "fnHoldsEveryFewerPieces", fn := fun _ => fun
  | [d1, d2, d3] => { results := [.lit (.bool false)], args := [d1, d2, d3] }
  | _ => none }
def FnHoldsEveryFewerPiecesWrongFalsely : Prop := fnHoldsEveryFewerPiecesRow.holds Try.pinned (OpenSpec.ofChange fnHoldsEveryFewerPiecesWrong)

/-- 'zzlaws_internal_session_b1.FnHoldsEveryMoreBits': WHATEVER THE INPUT: true; the input reads as it did. -/
def fnHoldsEveryMoreBitsSpec : ChangeSpec := { name := "fnHoldsEveryMoreBits", fn := fun _ => fun
  | [d1, d2, d3] => { results := [.lit (.bool true)], args := [d1, d2, d3] }
  | _ => none }
def fnHoldsEveryMoreBitsRow : OpenClaim := { program := "qxb6000793a", sum := "0504dd28374556f966cefb0a7ee53d986a9903b7df177fbc52693e13e1499cfd", func := "example.com/peerloom/peerloom/zzlaws_internal_session_b1.FnHoldsEveryMoreBits", spec := "fnHoldsEveryMoreBits", apart := false }
def FnHoldsEveryMoreBitsSaid : Prop := fnHoldsEveryMoreBitsRow.holds Try.pinned (OpenSpec.ofChange fnHoldsEveryMoreBitsSpec)

/-- ITS FALSE NEIGHBOUR: 'it returns false'. Refute it at one input. -/
def fnHoldsEveryMoreBitsWrong : ChangeSpec := { name := "fnHoldsEveryMoreBits", fn := fun _ => fun
  | [d1, d2, d3] => { results := [.lit (.bool false)], args := [d1, d2, d3] }
  | _ => none }
def FnHoldsEveryMoreBitsWrongFalsely : Prop := fnHoldsEveryMoreBitsRow.holds Try.pinned (OpenSpec.ofChange fnHoldsEveryMoreBitsWrong)

/-- 'zzlaws_internal_session_b1.FnRarestDropTakesOutJustThePiece': WHATEVER THE INPUT: true; the input reads as it did. -/
def fnRarestDropTakesOutJustThePieceSpec : ChangeSpec := { name := "fnRarestDropTakesOutJustThePiece", fn := fun _ => fun
  | [d1, d2, d3, d4, d5] => { results := [.lit (.bool true)], args := [d1, d2, d3, d4, d5] }
  | _ => none }
def fnRarestDropTakesOutJustThePieceRow : OpenClaim := { program := "qxb6000793a", sum := "0504dd28374556f966cefb0a7ee53d986a9903b7df177fbc52693e13e1499cfd", func := "example.com/peerloom/peerloom/zzlaws_internal_session_b1.FnRarestDropTakesOutJustThePiece", spec := "fnRarestDropTakesOutJustThePiece", apart := false }
def FnRarestDropTakesOutJustThePieceSaid : Prop := fnRarestDropTakesOutJustThePieceRow.holds Try.pinned (OpenSpec.ofChange fnRarestDropTakesOutJustThePieceSpec)

/-- ITS FALSE NEIGHBOUR: 'it returns false'. Refute it at one input. -/
def fnRarestDropTakesOutJustThePieceWrong : ChangeSpec := { name := "fnRarestDropTakesOutJustThePiece", fn := fun _ => fun
  | [d1, d2, d3, d4, d5] => { results := [.lit (.bool false)], args := [d1, d2, d3, d4, d5] }
  | _ => none }
def FnRarestDropTakesOutJustThePieceWrongFalsely : Prop := fnRarestDropTakesOutJustThePieceRow.holds Try.pinned (OpenSpec.ofChange fnRarestDropTakesOutJustThePieceWrong)

/-- 'zzlaws_internal_session_b1.FnRarestDropScriptOrderFree': WHATEVER THE INPUT: true; the input reads as it did. -/
def fnRarestDropScriptOrderFreeSpec : ChangeSpec := { name := "fnRarestDropScriptOrderFree", fn := fun _ => fun
  | [d1, d2, d3, d4, d5] => { results := [.lit (.bool true)], args := [d1, d2, d3, d4, d5] }
  | _ => none }
def fnRarestDropScriptOrderFreeRow : OpenClaim := { program := "qxb6000793a", sum := "0504dd28374556f966cefb0a7ee53d986a9903b7df177fbc52693e13e1499cfd", func := "example.com/peerloom/peerloom/zzlaws_internal_session_b1.FnRarestDropScriptOrderFree", spec := "fnRarestDropScriptOrderFree", apart := false }
def FnRarestDropScriptOrderFreeSaid : Prop := fnRarestDropScriptOrderFreeRow.holds Try.pinned (OpenSpec.ofChange fnRarestDropScriptOrderFreeSpec)

/-- ITS FALSE NEIGHBOUR: 'it returns false'. Refute it at one input. -/
def fnRarestDropScriptOrderFreeWrong : ChangeSpec := { name := "fnRarestDropScriptOrderFree", fn := fun _ => fun
  | [d1, d2, d3, d4, d5] => { results := [.lit (.bool false)], args := [d1, d2, d3, d4, d5] }
  | _ => none }
def FnRarestDropScriptOrderFreeWrongFalsely : Prop := fnRarestDropScriptOrderFreeRow.holds Try.pinned (OpenSpec.ofChange fnRarestDropScriptOrderFreeWrong)

end Rows
end Go.Proofs.Qxb6000793a

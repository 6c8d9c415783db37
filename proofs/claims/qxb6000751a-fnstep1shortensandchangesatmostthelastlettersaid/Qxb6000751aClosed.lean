/-
  The closed facts of the row, one by one (in one piece they outgrow the lid on memory: the order's words are read sign by sign).
-/
import Derived.Test.Qxb6000751aRows
import Derived.WalkKit
import Derived.ProofKit
import Derived.JoinedOf
namespace Go.Proofs.Qxb6000751a.fnStep1ShortensAndChangesAtMostTheLastLetter
open Go.RowKit

theorem and_tt {a b : Bool} (h1 : a = true) (h2 : b = true) : (a && b) = true := by rw [h1, h2]; rfl

/-- The signs of the program's order of setting up. -/
def signs : List Char := ['h', 'a', 'r', 'n', 'e', 's', 's', ' ', '9', '7', '0', '9', 'b', '3', '1', '9', 'e', '9', '5', '0', '8', '5', '3', 'f', '1', '7', 'c', '8', '0', '3', 'a', 'f', 'e', '0', '9', '1', '4', 'a', 'f', '9', 'e', '7', '4', 'b', '5', 'e', '2', '7', '3', '2', 'e', '2', '9', '2', 'e', 'a', 'c', '2', '2', 'a', 'f', '0', '3', 'd', '3', '4', 'e', '4', '7', '1', 'b', '5', ' ', 'c', 'u', 't', ' ', 'a', 't', ' ', 'e', 'x', 'a', 'm', 'p', 'l', 'e', '.', 'c', 'o', 'm', '/', 'l', 'o', 'n', 'g', 'h', 'a', 'n', 'd', '/', 'l', 'o', 'n', 'g', 'h', 'a', 'n', 'd', '/', 'z', 'z', 'l', 'a', 'w', 's', '_', 'i', 'n', 't', 'e', 'r', 'n', 'a', 'l', '_', 'w', 'o', 'r', 'd', 's', '_', 'b', '1', '.', 'F', 'n', 'M', 'e', 'a', 's', 'u', 'r', 'e', 'C', 'o', 'u', 'n', 't', 's', 'V', 'o', 'w', 'e', 'l', 'C', 'o', 'n', 's', 'o', 'n', 'a', 'n', 't', 'T', 'u', 'r', 'n', 's', ' ', 'e', 'x', 'a', 'm', 'p', 'l', 'e', '.', 'c', 'o', 'm', '/', 'l', 'o', 'n', 'g', 'h', 'a', 'n', 'd', '/', 'l', 'o', 'n', 'g', 'h', 'a', 'n', 'd', '/', 'z', 'z', 'l', 'a', 'w', 's', '_', 'i', 'n', 't', 'e', 'r', 'n', 'a', 'l', '_', 'w', 'o', 'r', 'd', 's', '_', 'b', '1', '.', 'F', 'n', 'M', 'e', 'a', 's', 'u', 'r', 'e', 'G', 'r', 'o', 'w', 's', 'B', 'y', 'A', 't', 'M', 'o', 's', 't', 'O', 'n', 'e', ' ', 'e', 'x', 'a', 'm', 'p', 'l', 'e', '.', 'c', 'o', 'm', '/', 'l', 'o', 'n', 'g', 'h', 'a', 'n', 'd', '/', 'l', 'o', 'n', 'g', 'h', 'a', 'n', 'd', '/', 'z', 'z', 'l', 'a', 'w', 's', '_', 'i', 'n', 't', 'e', 'r', 'n', 'a', 'l', '_', 'w', 'o', 'r', 'd', 's', '_', 'b', '1', '.', 'F', 'n', 'M', 'e', 'a', 's', 'u', 'r', 'e', 'S', 'e', 'e', 's', 'O', 'n', 'l', 'y', 'I', 't', 's', 'P', 'r', 'e', 'f', 'i', 'x', ' ', 'e', 'x', 'a', 'm', 'p', 'l', 'e', '.', 'c', 'o', 'm', '/', 'l', 'o', 'n', 'g', 'h', 'a', 'n', 'd', '/', 'l', 'o', 'n', 'g', 'h', 'a', 'n', 'd', '/', 'z', 'z', 'l', 'a', 'w', 's', '_', 'i', 'n', 't', 'e', 'r', 'n', 'a', 'l', '_', 'w', 'o', 'r', 'd', 's', '_', 'b', '1', '.', 'F', 'n', 'S', 't', 'e', 'p', '1', 'S', 'h', 'o', 'r', 't', 'e', 'n', 's', 'A', 'n', 'd', 'C', 'h', 'a', 'n', 'g', 'e', 's', 'A', 't', 'M', 'o', 's', 't', 'T', 'h', 'e', 'L', 'a', 's', 't', 'L', 'e', 't', 't', 'e', 'r', ' ', 'e', 'x', 'a', 'm', 'p', 'l', 'e', '.', 'c', 'o', 'm', '/', 'l', 'o', 'n', 'g', 'h', 'a', 'n', 'd', '/', 'l', 'o', 'n', 'g', 'h', 'a', 'n', 'd', '/', 'z', 'z', 'l', 'a', 'w', 's', '_', 'i', 'n', 't', 'e', 'r', 'n', 'a', 'l', '_', 'w', 'o', 'r', 'd', 's', '_', 'b', '1', '.', 'F', 'n', 'S', 't', 'e', 'p', '1', 'L', 'e', 'a', 'v', 'e', 's', 'O', 't', 'h', 'e', 'r', 'E', 'n', 'd', 'i', 'n', 'g', 's', 'A', 'l', 'o', 'n', 'e', ' ', 'e', 'x', 'a', 'm', 'p', 'l', 'e', '.', 'c', 'o', 'm', '/', 'l', 'o', 'n', 'g', 'h', 'a', 'n', 'd', '/', 'l', 'o', 'n', 'g', 'h', 'a', 'n', 'd', '/', 'z', 'z', 'l', 'a', 'w', 's', '_', 'i', 'n', 't', 'e', 'r', 'n', 'a', 'l', '_', 'w', 'o', 'r', 'd', 's', '_', 'b', '1', '.', 'F', 'n', 'S', 't', 'e', 'p', '1', 'T', 'a', 'k', 'e', 's', 'O', 'f', 'f', 'A', 'P', 'l', 'u', 'r', 'a', 'l', 'S', ' ', 'e', 'x', 'a', 'm', 'p', 'l', 'e', '.', 'c', 'o', 'm', '/', 'l', 'o', 'n', 'g', 'h', 'a', 'n', 'd', '/', 'l', 'o', 'n', 'g', 'h', 'a', 'n', 'd', '/', 'z', 'z', 'l', 'a', 'w', 's', '_', 'i', 'n', 't', 'e', 'r', 'n', 'a', 'l', '_', 'w', 'o', 'r', 'd', 's', '_', 'b', '1', '.', 'F', 'n', 'R', 'e', 'p', 'l', 'a', 'c', 'e', 'S', 'u', 'f', 'f', 'i', 'x', 'R', 'e', 'f', 'u', 's', 'e', 's', 'A', 'n', 'U', 'n', 'r', 'e', 'a', 'c', 'h', 'a', 'b', 'l', 'e', 'M', 'e', 'a', 's', 'u', 'r', 'e', ' ', 'e', 'x', 'a', 'm', 'p', 'l', 'e', '.', 'c', 'o', 'm', '/', 'l', 'o', 'n', 'g', 'h', 'a', 'n', 'd', '/', 'l', 'o', 'n', 'g', 'h', 'a', 'n', 'd', '/', 'z', 'z', 'l', 'a', 'w', 's', '_', 'i', 'n', 't', 'e', 'r', 'n', 'a', 'l', '_', 'w', 'o', 'r', 'd', 's', '_', 'b', '1', '.', 'F', 'n', 'R', 'e', 'p', 'l', 'a', 'c', 'e', 'S', 'u', 'f', 'f', 'i', 'x', 'K', 'e', 'e', 'p', 's', 'I', 't', 's', 'C', 'h', 'a', 'n', 'g', 'e', 'U', 'n', 'd', 'e', 'r', 'A', 'L', 'o', 'w', 'e', 'r', 'T', 'h', 'r', 'e', 's', 'h', 'o', 'l', 'd', ' ', 'e', 'x', 'a', 'm', 'p', 'l', 'e', '.', 'c', 'o', 'm', '/', 'l', 'o', 'n', 'g', 'h', 'a', 'n', 'd', '/', 'l', 'o', 'n', 'g', 'h', 'a', 'n', 'd', '/', 'z', 'z', 'l', 'a', 'w', 's', '_', 'i', 'n', 't', 'e', 'r', 'n', 'a', 'l', '_', 'w', 'o', 'r', 'd', 's', '_', 'b', '1', '.', 'F', 'n', 'R', 'e', 'p', 'l', 'a', 'c', 'e', 'S', 'u', 'f', 'f', 'i', 'x', 'I', 'g', 'n', 'o', 'r', 'e', 's', 'R', 'u', 'l', 'e', 's', 'I', 't', 'D', 'o', 'e', 's', 'N', 'o', 't', 'R', 'e', 'a', 'c', 'h']
theorem order_is : Try.prog.initOrder = String.ofList signs := by kernel_rfl
theorem signs_are : Try.prog.initOrder.toList = signs := by rw [order_is]; exact String.toList_ofList
theorem third : (behindMainWord (wordsSigns signs)).head? = some ['c', 'u', 't'] := by kernel_rfl
theorem words_are : ∃ r, behindMainWord (wordsSigns Try.prog.initOrder.toList) = ['c', 'u', 't'] :: r := by
  rw [signs_are]
  have h := third
  cases e : behindMainWord (wordsSigns signs) with
  | nil => rw [e] at h; cases h
  | cons c r => rw [e] at h; injection h with h; exact ⟨r, by rw [h]⟩
theorem strip (r : List (List Char)) : stripLifts liftWords (['c', 'u', 't'] :: r) = ([], ['c', 'u', 't'] :: r) := by kernel_rfl
/-! Of any program whose words lie so: the program stays a letter, lest the kernel read its signs anew. -/
theorem may_of (P : Program) (r : List (List Char)) (h : behindMainWord (wordsSigns P.initOrder.toList) = ['c', 'u', 't'] :: r) (h1 : P.laysLater = false) (h2 : P.bearsReflect = false) (h3 : P.doorFits [] = true) : P.mayEnter = true := by
  unfold Program.mayEnter
  rw [h]
  simp only [strip, h1, h2, h3]
  kernel_rfl
theorem make_of (P : Program) (r : List (List Char)) (h : behindMainWord (wordsSigns P.initOrder.toList) = ['c', 'u', 't'] :: r) : P.make = some .cut := by
  unfold Program.make
  rw [h]
  kernel_rfl
theorem lift_of (P : Program) (r : List (List Char)) (h : behindMainWord (wordsSigns P.initOrder.toList) = ['c', 'u', 't'] :: r) : P.liftsFinal = false := by
  unfold Program.liftsFinal Program.headLifts
  rw [h]
  kernel_rfl
theorem k1 : Try.prog.laysLater = false := by kernel_rfl
theorem k2 : Try.prog.bearsReflect = false := by kernel_rfl
theorem k3 : Try.prog.doorFits [] = true := by kernel_rfl
theorem k4 : (some Make.cut == some Rows.fnStep1ShortensAndChangesAtMostTheLastLetterRow.make) = true := by kernel_rfl
theorem k5 : (Rows.fnStep1ShortensAndChangesAtMostTheLastLetterRow.lifted == false) = true := by kernel_rfl
theorem limb_may : Try.prog.mayEnter = true := by
  obtain ⟨r, h⟩ := words_are
  exact may_of Try.prog r h k1 k2 k3
theorem limb_lift : (Rows.fnStep1ShortensAndChangesAtMostTheLastLetterRow.lifted == Try.prog.liftsFinal) = true := by
  obtain ⟨r, h⟩ := words_are
  exact (congrArg (fun b => Rows.fnStep1ShortensAndChangesAtMostTheLastLetterRow.lifted == b) (lift_of Try.prog r h)).trans k5
theorem limb_make : (Try.prog.make == some Rows.fnStep1ShortensAndChangesAtMostTheLastLetterRow.make) = true := by
  obtain ⟨r, h⟩ := words_are
  exact (congrArg (fun m => m == some Rows.fnStep1ShortensAndChangesAtMostTheLastLetterRow.make) (make_of Try.prog r h)).trans k4

set_option maxHeartbeats 2000000 in
set_option maxRecDepth 100000 in
theorem closedFacts : joinedFacts Try.prog 6 Try.f6 Rows.fnStep1ShortensAndChangesAtMostTheLastLetterSpec Rows.fnStep1ShortensAndChangesAtMostTheLastLetterRow = true := by
  unfold joinedFacts
  exact (and_tt (and_tt (and_tt (and_tt (and_tt (and_tt (and_tt (and_tt (and_tt (and_tt (and_tt (and_tt (and_tt (and_tt (and_tt (and_tt (and_tt (and_tt (and_tt (and_tt (and_tt (and_tt (and_tt (and_tt (and_tt (and_tt (and_tt (and_tt (and_tt (and_tt (and_tt (by as_aux_lemma => kernel_rfl)
    (by as_aux_lemma => kernel_rfl))
    (by as_aux_lemma => kernel_rfl))
    (by as_aux_lemma => kernel_rfl))
    (by as_aux_lemma => kernel_rfl))
    (by as_aux_lemma => kernel_rfl))
    (by as_aux_lemma => kernel_rfl))
    (by as_aux_lemma => kernel_rfl))
    (by as_aux_lemma => kernel_rfl))
    (by as_aux_lemma => kernel_rfl))
    (by as_aux_lemma => kernel_rfl))
    (by as_aux_lemma => kernel_rfl))
    (by as_aux_lemma => kernel_rfl))
    (by as_aux_lemma => kernel_rfl))
    (by as_aux_lemma => kernel_rfl))
    (by as_aux_lemma => kernel_rfl))
    (by as_aux_lemma => kernel_rfl))
    (by as_aux_lemma => kernel_rfl))
    (by as_aux_lemma => kernel_rfl))
    (by as_aux_lemma => kernel_rfl))
    (by as_aux_lemma => kernel_rfl))
    (by as_aux_lemma => kernel_rfl))
    (by as_aux_lemma => kernel_rfl))
    (by as_aux_lemma => kernel_rfl))
    (by as_aux_lemma => kernel_rfl))
    limb_may)
    limb_lift)
    limb_make)
    (by as_aux_lemma => kernel_rfl))
    (by as_aux_lemma => kernel_rfl))
    (by as_aux_lemma => kernel_rfl))
    (by as_aux_lemma => kernel_rfl))
end Go.Proofs.Qxb6000751a.fnStep1ShortensAndChangesAtMostTheLastLetter

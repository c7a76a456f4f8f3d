/-
  The row's closed facts, one by one. Two of them look at the program's head word; asked of the program outright they cost the kernel some 10 GB: so they are shown of any program whose head word is known, and the head word's signs are laid here.
-/
import Derived.Test.Qxb6600865aRows
import Derived.WalkKit
import Derived.ProofKit
namespace Go.Proofs.Qxb6600865a

/-- The signs of the program's head word. -/
def headCodes : List Nat := [104, 97, 114, 110, 101, 115, 115, 32, 54, 54, 99, 51, 51, 54, 54, 52, 48, 100, 52, 50, 55, 51, 50, 48, 57, 101, 49, 98, 56, 50, 97, 100, 54, 53, 49, 50, 99, 52, 55, 97,
    97, 53, 101, 55, 50, 55, 102, 48, 55, 51, 55, 102, 52, 52, 49, 48, 52, 98, 53, 97, 56, 98, 57, 56, 102, 51, 56, 99, 50, 99, 56, 51, 32, 99, 117, 116, 32, 97, 116, 32,
    101, 120, 97, 109, 112, 108, 101, 46, 99, 111, 109, 47, 115, 101, 97, 108, 116, 114, 97, 105, 108, 47, 115, 101, 97, 108, 116, 114, 97, 105, 108, 47, 122, 122, 108, 97, 119, 115, 95, 105,
    110, 116, 101, 114, 110, 97, 108, 95, 114, 101, 99, 111, 114, 100, 95, 98, 49, 46, 70, 110, 82, 97, 114, 101, 115, 116, 73, 115, 70, 105, 114, 115, 116, 80, 108, 97, 99, 101, 79, 102,
    76, 101, 97, 115, 116, 67, 111, 117, 110, 116, 32, 101, 120, 97, 109, 112, 108, 101, 46, 99, 111, 109, 47, 115, 101, 97, 108, 116, 114, 97, 105, 108, 47, 115, 101, 97, 108, 116, 114, 97,
    105, 108, 47, 122, 122, 108, 97, 119, 115, 95, 105, 110, 116, 101, 114, 110, 97, 108, 95, 114, 101, 99, 111, 114, 100, 95, 98, 49, 46, 70, 110, 83, 107, 105, 112, 83, 116, 114, 105, 110,
    103, 65, 103, 114, 101, 101, 115, 87, 105, 116, 104, 65, 110, 69, 115, 99, 97, 112, 101, 83, 99, 97, 110, 110, 101, 114, 32, 101, 120, 97, 109, 112, 108, 101, 46, 99, 111, 109, 47, 115,
    101, 97, 108, 116, 114, 97, 105, 108, 47, 115, 101, 97, 108, 116, 114, 97, 105, 108, 47, 122, 122, 108, 97, 119, 115, 95, 105, 110, 116, 101, 114, 110, 97, 108, 95, 114, 101, 99, 111, 114,
    100, 95, 98, 49, 46, 70, 110, 83, 107, 105, 112, 83, 116, 114, 105, 110, 103, 73, 103, 110, 111, 114, 101, 115, 84, 104, 101, 84, 101, 120, 116, 66, 101, 102, 111, 114, 101, 73, 116, 115,
    81, 117, 111, 116, 101, 32, 101, 120, 97, 109, 112, 108, 101, 46, 99, 111, 109, 47, 115, 101, 97, 108, 116, 114, 97, 105, 108, 47, 115, 101, 97, 108, 116, 114, 97, 105, 108, 47, 122, 122,
    108, 97, 119, 115, 95, 105, 110, 116, 101, 114, 110, 97, 108, 95, 114, 101, 99, 111, 114, 100, 95, 98, 49, 46, 70, 110, 83, 107, 105, 112, 83, 116, 114, 105, 110, 103, 69, 110, 100, 115,
    74, 117, 115, 116, 65, 102, 116, 101, 114, 84, 104, 101, 81, 117, 111, 116, 101, 84, 104, 97, 116, 67, 108, 111, 115, 101, 115, 69, 115, 99, 97, 112, 101, 100, 84, 101, 120, 116, 32, 101,
    120, 97, 109, 112, 108, 101, 46, 99, 111, 109, 47, 115, 101, 97, 108, 116, 114, 97, 105, 108, 47, 115, 101, 97, 108, 116, 114, 97, 105, 108, 47, 122, 122, 108, 97, 119, 115, 95, 105, 110,
    116, 101, 114, 110, 97, 108, 95, 114, 101, 99, 111, 114, 100, 95, 98, 49, 46, 70, 110, 65, 97, 100, 104, 97, 97, 114, 65, 116, 73, 115, 84, 104, 114, 101, 101, 74, 111, 105, 110, 101,
    100, 71, 114, 111, 117, 112, 115, 79, 102, 70, 111, 117, 114, 80, 97, 115, 115, 105, 110, 103, 86, 101, 114, 104, 111, 101, 102, 102, 32, 101, 120, 97, 109, 112, 108, 101, 46, 99, 111, 109,
    47, 115, 101, 97, 108, 116, 114, 97, 105, 108, 47, 115, 101, 97, 108, 116, 114, 97, 105, 108, 47, 122, 122, 108, 97, 119, 115, 95, 105, 110, 116, 101, 114, 110, 97, 108, 95, 114, 101, 99,
    111, 114, 100, 95, 98, 49, 46, 70, 110, 65, 97, 100, 104, 97, 97, 114, 65, 116, 82, 101, 102, 117, 115, 101, 115, 65, 110, 121, 79, 110, 101, 77, 105, 115, 116, 121, 112, 101, 100, 68,
    105, 103, 105, 116, 32, 101, 120, 97, 109, 112, 108, 101, 46, 99, 111, 109, 47, 115, 101, 97, 108, 116, 114, 97, 105, 108, 47, 115, 101, 97, 108, 116, 114, 97, 105, 108, 47, 122, 122, 108,
    97, 119, 115, 95, 105, 110, 116, 101, 114, 110, 97, 108, 95, 114, 101, 99, 111, 114, 100, 95, 98, 49, 46, 70, 110, 65, 97, 100, 104, 97, 97, 114, 65, 116, 84, 97, 107, 101, 115, 66,
    108, 97, 110, 107, 84, 97, 98, 79, 114, 72, 121, 112, 104, 101, 110, 65, 108, 105, 107, 101]
theorem head_is : Try.prog.initOrder = String.ofList (headCodes.map Char.ofNat) := by kernel_rfl
theorem head_list : Try.prog.initOrder.toList = headCodes.map Char.ofNat := by rw [head_is, String.toList_ofList]

/-- What stands behind the head's first two words. -/
def restWords : List (List Char) := (behindMainWord (wordsSigns (headCodes.map Char.ofNat))).tail
theorem head_words : behindMainWord (wordsSigns Try.prog.initOrder.toList) = [Char.ofNat 99, Char.ofNat 117, Char.ofNat 116] :: restWords := by
  rw [head_list]
  kernel_rfl

theorem make_of (P : Program) (r : List (List Char)) (h : behindMainWord (wordsSigns P.initOrder.toList) = [Char.ofNat 99, Char.ofNat 117, Char.ofNat 116] :: r) : P.make = some .cut := by
  unfold Program.make
  rw [h]
  rfl
theorem headLifts_of (P : Program) (r : List (List Char)) (h : behindMainWord (wordsSigns P.initOrder.toList) = [Char.ofNat 99, Char.ofNat 117, Char.ofNat 116] :: r) : P.headLifts = [] := by
  unfold Program.headLifts
  rw [h]
  rfl
theorem liftsFinal_of (P : Program) (r : List (List Char)) (h : behindMainWord (wordsSigns P.initOrder.toList) = [Char.ofNat 99, Char.ofNat 117, Char.ofNat 116] :: r) : P.liftsFinal = false := by
  unfold Program.liftsFinal
  rw [headLifts_of P r h, h]
  rfl
theorem mayEnter_of (P : Program) (r : List (List Char)) (h : behindMainWord (wordsSigns P.initOrder.toList) = [Char.ofNat 99, Char.ofNat 117, Char.ofNat 116] :: r) (h1 : P.laysLater = false) (h2 : P.bearsReflect = false) (h3 : P.doorFits [] = true) : P.mayEnter = true := by
  unfold Program.mayEnter
  rw [h]
  have e : stripLifts liftWords ([Char.ofNat 99, Char.ofNat 117, Char.ofNat 116] :: r) = ([], [Char.ofNat 99, Char.ofNat 117, Char.ofNat 116] :: r) := rfl
  simp only [e, h1, h2, h3]
  rfl

theorem fact_mayEnter : Try.prog.mayEnter = true := mayEnter_of Try.prog restWords head_words (by as_aux_lemma => kernel_rfl) (by as_aux_lemma => kernel_rfl) (by as_aux_lemma => kernel_rfl)
theorem fact_make : (Try.prog.make == some Rows.fnSkipStringAgreesWithAnEscapeScannerRow.make) = true := by
  rw [make_of Try.prog restWords head_words]
  rfl
theorem fact_lifted : (Rows.fnSkipStringAgreesWithAnEscapeScannerRow.lifted == Try.prog.liftsFinal) = true := by
  rw [liftsFinal_of Try.prog restWords head_words]
  rfl

theorem both {a b : Bool} (h : a = true) (k : b = true) : (a && b) = true := by rw [h, k]; rfl

theorem facts : joinedFacts Try.prog 4 Try.f4 Rows.fnSkipStringAgreesWithAnEscapeScannerSpec Rows.fnSkipStringAgreesWithAnEscapeScannerRow = true := by
  unfold joinedFacts
  iterate 31 (refine both ?_ ?_)
  · as_aux_lemma => kernel_rfl
  · as_aux_lemma => kernel_rfl
  · as_aux_lemma => kernel_rfl
  · as_aux_lemma => kernel_rfl
  · as_aux_lemma => kernel_rfl
  · as_aux_lemma => kernel_rfl
  · as_aux_lemma => kernel_rfl
  · as_aux_lemma => kernel_rfl
  · as_aux_lemma => kernel_rfl
  · as_aux_lemma => kernel_rfl
  · as_aux_lemma => kernel_rfl
  · as_aux_lemma => kernel_rfl
  · as_aux_lemma => kernel_rfl
  · as_aux_lemma => kernel_rfl
  · as_aux_lemma => kernel_rfl
  · as_aux_lemma => kernel_rfl
  · as_aux_lemma => kernel_rfl
  · as_aux_lemma => kernel_rfl
  · as_aux_lemma => kernel_rfl
  · as_aux_lemma => kernel_rfl
  · as_aux_lemma => kernel_rfl
  · as_aux_lemma => kernel_rfl
  · as_aux_lemma => kernel_rfl
  · as_aux_lemma => kernel_rfl
  · as_aux_lemma => kernel_rfl
  · exact fact_mayEnter
  · exact fact_lifted
  · exact fact_make
  · as_aux_lemma => kernel_rfl
  · as_aux_lemma => kernel_rfl
  · as_aux_lemma => kernel_rfl
  · as_aux_lemma => kernel_rfl

end Go.Proofs.Qxb6600865a

/-
  The row's closed facts, one by one. Two of them look at the program's head word; asked of the program outright they cost the kernel some 10 GB: so they are shown of any program whose head word is known, and the head word's signs are laid here.
-/
import Derived.Test.Qxb6601295aRows
import Derived.WalkKit
import Derived.ProofKit
namespace Go.Proofs.Qxb6601295a

/-- The signs of the program's head word. -/
def headCodes : List Nat := [104, 97, 114, 110, 101, 115, 115, 32, 55, 51, 100, 101, 56, 57, 99, 100, 98, 56, 52, 101, 54, 100, 49, 53, 102, 55, 98, 51, 97, 49, 50, 100, 50, 97, 56, 56, 102, 102, 51, 98,
    101, 55, 52, 100, 52, 56, 100, 55, 48, 49, 98, 57, 48, 102, 99, 57, 53, 101, 97, 56, 100, 57, 100, 55, 55, 102, 99, 50, 49, 55, 56, 55, 32, 99, 117, 116, 32, 97, 116, 32,
    101, 120, 97, 109, 112, 108, 101, 46, 99, 111, 109, 47, 103, 114, 97, 110, 116, 47, 103, 114, 97, 110, 116, 47, 122, 122, 108, 97, 119, 115, 95, 114, 111, 111, 116, 95, 98, 49, 46, 70,
    110, 84, 111, 112, 105, 99, 77, 97, 116, 99, 104, 101, 115, 65, 103, 114, 101, 101, 115, 87, 105, 116, 104, 87, 111, 114, 100, 84, 97, 98, 108, 101, 32, 101, 120, 97, 109, 112, 108, 101,
    46, 99, 111, 109, 47, 103, 114, 97, 110, 116, 47, 103, 114, 97, 110, 116, 47, 122, 122, 108, 97, 119, 115, 95, 114, 111, 111, 116, 95, 98, 49, 46, 70, 110, 84, 111, 112, 105, 99, 77,
    97, 116, 99, 104, 101, 115, 87, 105, 100, 101, 110, 105, 110, 103, 75, 101, 101, 112, 115, 77, 97, 116, 99, 104, 32, 101, 120, 97, 109, 112, 108, 101, 46, 99, 111, 109, 47, 103, 114, 97,
    110, 116, 47, 103, 114, 97, 110, 116, 47, 122, 122, 108, 97, 119, 115, 95, 114, 111, 111, 116, 95, 98, 49, 46, 70, 110, 84, 111, 112, 105, 99, 77, 97, 116, 99, 104, 101, 115, 68, 111,
    117, 98, 108, 101, 100, 72, 97, 115, 104, 67, 104, 97, 110, 103, 101, 115, 78, 111, 116, 104, 105, 110, 103, 32, 101, 120, 97, 109, 112, 108, 101, 46, 99, 111, 109, 47, 103, 114, 97, 110,
    116, 47, 103, 114, 97, 110, 116, 47, 122, 122, 108, 97, 119, 115, 95, 114, 111, 111, 116, 95, 98, 49, 46, 70, 110, 70, 105, 120, 101, 100, 69, 110, 100, 115, 65, 103, 114, 101, 101, 115,
    87, 105, 116, 104, 87, 111, 114, 100, 83, 112, 101, 99, 32, 101, 120, 97, 109, 112, 108, 101, 46, 99, 111, 109, 47, 103, 114, 97, 110, 116, 47, 103, 114, 97, 110, 116, 47, 122, 122, 108,
    97, 119, 115, 95, 114, 111, 111, 116, 95, 98, 49, 46, 70, 110, 70, 105, 120, 101, 100, 69, 110, 100, 115, 66, 111, 117, 110, 100, 69, 118, 101, 114, 121, 77, 97, 116, 99, 104, 101, 100,
    75, 101, 121, 32, 101, 120, 97, 109, 112, 108, 101, 46, 99, 111, 109, 47, 103, 114, 97, 110, 116, 47, 103, 114, 97, 110, 116, 47, 122, 122, 108, 97, 119, 115, 95, 114, 111, 111, 116, 95,
    98, 49, 46, 70, 110, 71, 114, 111, 117, 112, 83, 101, 116, 65, 100, 100, 82, 101, 112, 111, 114, 116, 115, 70, 105, 114, 115, 116, 65, 114, 114, 105, 118, 97, 108, 32, 101, 120, 97, 109,
    112, 108, 101, 46, 99, 111, 109, 47, 103, 114, 97, 110, 116, 47, 103, 114, 97, 110, 116, 47, 122, 122, 108, 97, 119, 115, 95, 114, 111, 111, 116, 95, 98, 49, 46, 70, 110, 71, 114, 111,
    117, 112, 83, 101, 116, 82, 101, 109, 101, 109, 98, 101, 114, 115, 65, 110, 100, 67, 111, 117, 110, 116, 115, 80, 108, 97, 99, 101, 115]
theorem head_is : Try.prog.initOrder = String.ofList (headCodes.map Char.ofNat) := by kernel_rfl
theorem head_list : Try.prog.initOrder.toList = headCodes.map Char.ofNat := by rw [head_is, String.toList_ofList]

/-- What stands behind the head's first two words. -/
def restWords : List (List Char) := (behindMainWord (wordsSigns (headCodes.map Char.ofNat))).tail
theorem head_words : behindMainWord (wordsSigns Try.prog.initOrder.toList) = [Char.ofNat 99, Char.ofNat 117, Char.ofNat 116] :: restWords := by
  rw [head_list]
  kernel_rfl

theorem make_of (P : Program) (r : List (List Char)) (h : behindMainWord (wordsSigns P.initOrder.toList) = [Char.ofNat 99, Char.ofNat 117, Char.ofNat 116] :: r) : P.make = some .cut := by
  unfold Program.make
  rw [h]
  rfl
theorem headLifts_of (P : Program) (r : List (List Char)) (h : behindMainWord (wordsSigns P.initOrder.toList) = [Char.ofNat 99, Char.ofNat 117, Char.ofNat 116] :: r) : P.headLifts = [] := by
  unfold Program.headLifts
  rw [h]
  rfl
theorem liftsFinal_of (P : Program) (r : List (List Char)) (h : behindMainWord (wordsSigns P.initOrder.toList) = [Char.ofNat 99, Char.ofNat 117, Char.ofNat 116] :: r) : P.liftsFinal = false := by
  unfold Program.liftsFinal
  rw [headLifts_of P r h, h]
  rfl
theorem mayEnter_of (P : Program) (r : List (List Char)) (h : behindMainWord (wordsSigns P.initOrder.toList) = [Char.ofNat 99, Char.ofNat 117, Char.ofNat 116] :: r) (h1 : P.laysLater = false) (h2 : P.bearsReflect = false) (h3 : P.doorFits [] = true) : P.mayEnter = true := by
  unfold Program.mayEnter
  rw [h]
  have e : stripLifts liftWords ([Char.ofNat 99, Char.ofNat 117, Char.ofNat 116] :: r) = ([], [Char.ofNat 99, Char.ofNat 117, Char.ofNat 116] :: r) := rfl
  simp only [e, h1, h2, h3]
  rfl

theorem fact_mayEnter : Try.prog.mayEnter = true := mayEnter_of Try.prog restWords head_words (by as_aux_lemma => kernel_rfl) (by as_aux_lemma => kernel_rfl) (by as_aux_lemma => kernel_rfl)
theorem fact_make : (Try.prog.make == some Rows.fnFixedEndsAgreesWithWordSpecRow.make) = true := by
  rw [make_of Try.prog restWords head_words]
  rfl
theorem fact_lifted : (Rows.fnFixedEndsAgreesWithWordSpecRow.lifted == Try.prog.liftsFinal) = true := by
  rw [liftsFinal_of Try.prog restWords head_words]
  rfl

theorem both {a b : Bool} (h : a = true) (k : b = true) : (a && b) = true := by rw [h, k]; rfl

theorem facts : joinedFacts Try.prog 6 Try.f6 Rows.fnFixedEndsAgreesWithWordSpecSpec Rows.fnFixedEndsAgreesWithWordSpecRow = true := by
  unfold joinedFacts
  iterate 31 (refine both ?_ ?_)
  · as_aux_lemma => kernel_rfl
  · as_aux_lemma => kernel_rfl
  · as_aux_lemma => kernel_rfl
  · as_aux_lemma => kernel_rfl
  · as_aux_lemma => kernel_rfl
  · as_aux_lemma => kernel_rfl
  · as_aux_lemma => kernel_rfl
  · as_aux_lemma => kernel_rfl
  · as_aux_lemma => kernel_rfl
  · as_aux_lemma => kernel_rfl
  · as_aux_lemma => kernel_rfl
  · as_aux_lemma => kernel_rfl
  · as_aux_lemma => kernel_rfl
  · as_aux_lemma => kernel_rfl
  · as_aux_lemma => kernel_rfl
  · as_aux_lemma => kernel_rfl
  · as_aux_lemma => kernel_rfl
  · as_aux_lemma => kernel_rfl
  · as_aux_lemma => kernel_rfl
  · as_aux_lemma => kernel_rfl
  · as_aux_lemma => kernel_rfl
  · as_aux_lemma => kernel_rfl
  · as_aux_lemma => kernel_rfl
  · as_aux_lemma => kernel_rfl
  · as_aux_lemma => kernel_rfl
  · exact fact_mayEnter
  · exact fact_lifted
  · exact fact_make
  · as_aux_lemma => kernel_rfl
  · as_aux_lemma => kernel_rfl
  · as_aux_lemma => kernel_rfl
  · as_aux_lemma => kernel_rfl

end Go.Proofs.Qxb6601295a

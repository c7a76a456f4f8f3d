/-
  The row's closed facts, one by one. Two of them look at the program's head word; asked of the program outright they cost the kernel some 10 GB: so they are shown of any program whose head word is known, and the head word's signs are laid here.
-/
import Derived.Test.Qxb6601067aRows
import Derived.WalkKit
import Derived.ProofKit
namespace Go.Proofs.Qxb6601067a

/-- The signs of the program's head word. -/
def headCodes : List Nat := [104, 97, 114, 110, 101, 115, 115, 32, 53, 56, 101, 49, 56, 102, 102, 49, 51, 53, 56, 51, 53, 98, 98, 49, 97, 51, 56, 51, 48, 51, 53, 52, 97, 51, 99, 56, 49, 101, 101, 54,
    100, 102, 102, 53, 52, 57, 100, 54, 101, 57, 100, 51, 102, 102, 50, 56, 52, 48, 51, 51, 51, 57, 49, 51, 102, 99, 52, 57, 50, 100, 100, 51, 32, 99, 117, 116, 32, 97, 116, 32,
    101, 120, 97, 109, 112, 108, 101, 46, 99, 111, 109, 47, 102, 111, 114, 103, 101, 103, 97, 116, 101, 47, 102, 111, 114, 103, 101, 103, 97, 116, 101, 47, 122, 122, 108, 97, 119, 115, 95, 105,
    110, 116, 101, 114, 110, 97, 108, 95, 112, 114, 111, 120, 121, 95, 98, 49, 46, 70, 110, 82, 101, 98, 97, 115, 101, 76, 105, 110, 107, 115, 77, 97, 116, 99, 104, 101, 115, 83, 116, 97,
    116, 101, 77, 97, 99, 104, 105, 110, 101, 32, 101, 120, 97, 109, 112, 108, 101, 46, 99, 111, 109, 47, 102, 111, 114, 103, 101, 103, 97, 116, 101, 47, 102, 111, 114, 103, 101, 103, 97, 116,
    101, 47, 122, 122, 108, 97, 119, 115, 95, 105, 110, 116, 101, 114, 110, 97, 108, 95, 112, 114, 111, 120, 121, 95, 98, 49, 46, 70, 110, 82, 101, 98, 97, 115, 101, 76, 105, 110, 107, 115,
    82, 111, 117, 110, 100, 84, 114, 105, 112, 32, 101, 120, 97, 109, 112, 108, 101, 46, 99, 111, 109, 47, 102, 111, 114, 103, 101, 103, 97, 116, 101, 47, 102, 111, 114, 103, 101, 103, 97, 116,
    101, 47, 122, 122, 108, 97, 119, 115, 95, 105, 110, 116, 101, 114, 110, 97, 108, 95, 112, 114, 111, 120, 121, 95, 98, 49, 46, 70, 110, 67, 108, 111, 115, 105, 110, 103, 77, 97, 116, 99,
    104, 101, 115, 66, 97, 99, 107, 115, 108, 97, 115, 104, 77, 111, 100, 101, 108, 32, 101, 120, 97, 109, 112, 108, 101, 46, 99, 111, 109, 47, 102, 111, 114, 103, 101, 103, 97, 116, 101, 47,
    102, 111, 114, 103, 101, 103, 97, 116, 101, 47, 122, 122, 108, 97, 119, 115, 95, 105, 110, 116, 101, 114, 110, 97, 108, 95, 112, 114, 111, 120, 121, 95, 98, 49, 46, 70, 110, 67, 108, 111,
    115, 105, 110, 103, 73, 103, 110, 111, 114, 101, 115, 87, 104, 97, 116, 70, 111, 108, 108, 111, 119, 115, 32, 101, 120, 97, 109, 112, 108, 101, 46, 99, 111, 109, 47, 102, 111, 114, 103, 101,
    103, 97, 116, 101, 47, 102, 111, 114, 103, 101, 103, 97, 116, 101, 47, 122, 122, 108, 97, 119, 115, 95, 105, 110, 116, 101, 114, 110, 97, 108, 95, 112, 114, 111, 120, 121, 95, 98, 49, 46,
    70, 110, 66, 117, 99, 107, 101, 116, 79, 102, 83, 101, 97, 114, 99, 104, 83, 117, 114, 118, 105, 118, 101, 115, 69, 120, 116, 101, 110, 115, 105, 111, 110]
theorem head_is : Try.prog.initOrder = String.ofList (headCodes.map Char.ofNat) := by kernel_rfl
theorem head_list : Try.prog.initOrder.toList = headCodes.map Char.ofNat := by rw [head_is, String.toList_ofList]

/-- What stands behind the head's first two words. -/
def restWords : List (List Char) := (behindMainWord (wordsSigns (headCodes.map Char.ofNat))).tail
theorem head_words : behindMainWord (wordsSigns Try.prog.initOrder.toList) = [Char.ofNat 99, Char.ofNat 117, Char.ofNat 116] :: restWords := by
  rw [head_list]
  kernel_rfl

theorem make_of (P : Program) (r : List (List Char)) (h : behindMainWord (wordsSigns P.initOrder.toList) = [Char.ofNat 99, Char.ofNat 117, Char.ofNat 116] :: r) : P.make = some .cut := by
  unfold Program.make
  rw [h]
  rfl
theorem headLifts_of (P : Program) (r : List (List Char)) (h : behindMainWord (wordsSigns P.initOrder.toList) = [Char.ofNat 99, Char.ofNat 117, Char.ofNat 116] :: r) : P.headLifts = [] := by
  unfold Program.headLifts
  rw [h]
  rfl
theorem liftsFinal_of (P : Program) (r : List (List Char)) (h : behindMainWord (wordsSigns P.initOrder.toList) = [Char.ofNat 99, Char.ofNat 117, Char.ofNat 116] :: r) : P.liftsFinal = false := by
  unfold Program.liftsFinal
  rw [headLifts_of P r h, h]
  rfl
theorem mayEnter_of (P : Program) (r : List (List Char)) (h : behindMainWord (wordsSigns P.initOrder.toList) = [Char.ofNat 99, Char.ofNat 117, Char.ofNat 116] :: r) (h1 : P.laysLater = false) (h2 : P.bearsReflect = false) (h3 : P.doorFits [] = true) : P.mayEnter = true := by
  unfold Program.mayEnter
  rw [h]
  have e : stripLifts liftWords ([Char.ofNat 99, Char.ofNat 117, Char.ofNat 116] :: r) = ([], [Char.ofNat 99, Char.ofNat 117, Char.ofNat 116] :: r) := rfl
  simp only [e, h1, h2, h3]
  rfl

theorem fact_mayEnter : Try.prog.mayEnter = true := mayEnter_of Try.prog restWords head_words (by as_aux_lemma => kernel_rfl) (by as_aux_lemma => kernel_rfl) (by as_aux_lemma => kernel_rfl)
theorem fact_make : (Try.prog.make == some Rows.fnClosingMatchesBackslashModelRow.make) = true := by
  rw [make_of Try.prog restWords head_words]
  rfl
theorem fact_lifted : (Rows.fnClosingMatchesBackslashModelRow.lifted == Try.prog.liftsFinal) = true := by
  rw [liftsFinal_of Try.prog restWords head_words]
  rfl

theorem both {a b : Bool} (h : a = true) (k : b = true) : (a && b) = true := by rw [h, k]; rfl

theorem facts : joinedFacts Try.prog 5 Try.f5 Rows.fnClosingMatchesBackslashModelSpec Rows.fnClosingMatchesBackslashModelRow = true := by
  unfold joinedFacts
  iterate 31 (refine both ?_ ?_)
  · as_aux_lemma => kernel_rfl
  · as_aux_lemma => kernel_rfl
  · as_aux_lemma => kernel_rfl
  · as_aux_lemma => kernel_rfl
  · as_aux_lemma => kernel_rfl
  · as_aux_lemma => kernel_rfl
  · as_aux_lemma => kernel_rfl
  · as_aux_lemma => kernel_rfl
  · as_aux_lemma => kernel_rfl
  · as_aux_lemma => kernel_rfl
  · as_aux_lemma => kernel_rfl
  · as_aux_lemma => kernel_rfl
  · as_aux_lemma => kernel_rfl
  · as_aux_lemma => kernel_rfl
  · as_aux_lemma => kernel_rfl
  · as_aux_lemma => kernel_rfl
  · as_aux_lemma => kernel_rfl
  · as_aux_lemma => kernel_rfl
  · as_aux_lemma => kernel_rfl
  · as_aux_lemma => kernel_rfl
  · as_aux_lemma => kernel_rfl
  · as_aux_lemma => kernel_rfl
  · as_aux_lemma => kernel_rfl
  · as_aux_lemma => kernel_rfl
  · as_aux_lemma => kernel_rfl
  · exact fact_mayEnter
  · exact fact_lifted
  · exact fact_make
  · as_aux_lemma => kernel_rfl
  · as_aux_lemma => kernel_rfl
  · as_aux_lemma => kernel_rfl
  · as_aux_lemma => kernel_rfl

end Go.Proofs.Qxb6601067a

/-
  The row's closed facts, one by one. Two of them look at the program's head word; asked of the program outright they cost the kernel some 10 GB: so they are shown of any program whose head word is known, and the head word's signs are laid here.
-/
import Derived.Test.Qxb6600347aRows
import Derived.WalkKit
import Derived.ProofKit
namespace Go.Proofs.Qxb6600347a

/-- The signs of the program's head word. -/
def headCodes : List Nat := [104, 97, 114, 110, 101, 115, 115, 32, 52, 54, 56, 97, 98, 57, 50, 101, 57, 102, 54, 51, 57, 102, 99, 48, 56, 52, 100, 49, 99, 98, 57, 48, 56, 98, 53, 102, 99, 55, 101, 53,
    49, 99, 101, 98, 102, 101, 48, 98, 52, 53, 48, 99, 101, 101, 102, 51, 101, 102, 52, 99, 55, 53, 49, 100, 49, 98, 99, 100, 99, 56, 57, 51, 32, 99, 117, 116, 32, 97, 116, 32,
    101, 120, 97, 109, 112, 108, 101, 46, 99, 111, 109, 47, 111, 115, 105, 101, 114, 47, 111, 115, 105, 101, 114, 47, 122, 122, 108, 97, 119, 115, 95, 105, 110, 116, 101, 114, 110, 97, 108, 95,
    112, 114, 111, 113, 117, 105, 110, 116, 95, 98, 49, 46, 70, 110, 82, 101, 97, 100, 87, 111, 114, 100, 65, 99, 99, 101, 112, 116, 101, 100, 82, 101, 101, 110, 99, 111, 100, 101, 115, 32,
    101, 120, 97, 109, 112, 108, 101, 46, 99, 111, 109, 47, 111, 115, 105, 101, 114, 47, 111, 115, 105, 101, 114, 47, 122, 122, 108, 97, 119, 115, 95, 105, 110, 116, 101, 114, 110, 97, 108, 95,
    112, 114, 111, 113, 117, 105, 110, 116, 95, 98, 49, 46, 70, 110, 65, 112, 112, 101, 110, 100, 87, 111, 114, 100, 82, 101, 97, 100, 87, 111, 114, 100, 82, 111, 117, 110, 100, 84, 114, 105,
    112, 32, 101, 120, 97, 109, 112, 108, 101, 46, 99, 111, 109, 47, 111, 115, 105, 101, 114, 47, 111, 115, 105, 101, 114, 47, 122, 122, 108, 97, 119, 115, 95, 105, 110, 116, 101, 114, 110, 97,
    108, 95, 112, 114, 111, 113, 117, 105, 110, 116, 95, 98, 49, 46, 70, 110, 65, 112, 112, 101, 110, 100, 87, 111, 114, 100, 75, 101, 101, 112, 115, 79, 114, 100, 101, 114, 32, 101, 120, 97,
    109, 112, 108, 101, 46, 99, 111, 109, 47, 111, 115, 105, 101, 114, 47, 111, 115, 105, 101, 114, 47, 122, 122, 108, 97, 119, 115, 95, 105, 110, 116, 101, 114, 110, 97, 108, 95, 112, 114, 111,
    113, 117, 105, 110, 116, 95, 98, 49, 46, 70, 110, 69, 110, 99, 111, 100, 101, 77, 97, 116, 99, 104, 101, 115, 77, 111, 100, 101, 108, 32, 101, 120, 97, 109, 112, 108, 101, 46, 99, 111,
    109, 47, 111, 115, 105, 101, 114, 47, 111, 115, 105, 101, 114, 47, 122, 122, 108, 97, 119, 115, 95, 105, 110, 116, 101, 114, 110, 97, 108, 95, 112, 114, 111, 113, 117, 105, 110, 116, 95, 98,
    49, 46, 70, 110, 69, 110, 99, 111, 100, 101, 82, 101, 97, 100, 87, 111, 114, 100, 82, 111, 117, 110, 100, 84, 114, 105, 112, 32, 101, 120, 97, 109, 112, 108, 101, 46, 99, 111, 109, 47,
    111, 115, 105, 101, 114, 47, 111, 115, 105, 101, 114, 47, 122, 122, 108, 97, 119, 115, 95, 105, 110, 116, 101, 114, 110, 97, 108, 95, 112, 114, 111, 113, 117, 105, 110, 116, 95, 98, 49, 46,
    70, 110, 69, 110, 99, 111, 100, 101, 74, 111, 105, 110, 115, 72, 97, 108, 118, 101, 115]
theorem head_is : Try.prog.initOrder = String.ofList (headCodes.map Char.ofNat) := by kernel_rfl
theorem head_list : Try.prog.initOrder.toList = headCodes.map Char.ofNat := by rw [head_is, String.toList_ofList]

/-- What stands behind the head's first two words. -/
def restWords : List (List Char) := (behindMainWord (wordsSigns (headCodes.map Char.ofNat))).tail
theorem head_words : behindMainWord (wordsSigns Try.prog.initOrder.toList) = [Char.ofNat 99, Char.ofNat 117, Char.ofNat 116] :: restWords := by
  rw [head_list]
  kernel_rfl

theorem make_of (P : Program) (r : List (List Char)) (h : behindMainWord (wordsSigns P.initOrder.toList) = [Char.ofNat 99, Char.ofNat 117, Char.ofNat 116] :: r) : P.make = some .cut := by
  unfold Program.make
  rw [h]
  rfl
theorem headLifts_of (P : Program) (r : List (List Char)) (h : behindMainWord (wordsSigns P.initOrder.toList) = [Char.ofNat 99, Char.ofNat 117, Char.ofNat 116] :: r) : P.headLifts = [] := by
  unfold Program.headLifts
  rw [h]
  rfl
theorem liftsFinal_of (P : Program) (r : List (List Char)) (h : behindMainWord (wordsSigns P.initOrder.toList) = [Char.ofNat 99, Char.ofNat 117, Char.ofNat 116] :: r) : P.liftsFinal = false := by
  unfold Program.liftsFinal
  rw [headLifts_of P r h, h]
  rfl
theorem mayEnter_of (P : Program) (r : List (List Char)) (h : behindMainWord (wordsSigns P.initOrder.toList) = [Char.ofNat 99, Char.ofNat 117, Char.ofNat 116] :: r) (h1 : P.laysLater = false) (h2 : P.bearsReflect = false) (h3 : P.doorFits [] = true) : P.mayEnter = true := by
  unfold Program.mayEnter
  rw [h]
  have e : stripLifts liftWords ([Char.ofNat 99, Char.ofNat 117, Char.ofNat 116] :: r) = ([], [Char.ofNat 99, Char.ofNat 117, Char.ofNat 116] :: r) := rfl
  simp only [e, h1, h2, h3]
  rfl

theorem fact_mayEnter : Try.prog.mayEnter = true := mayEnter_of Try.prog restWords head_words (by as_aux_lemma => kernel_rfl) (by as_aux_lemma => kernel_rfl) (by as_aux_lemma => kernel_rfl)
theorem fact_make : (Try.prog.make == some Rows.fnAppendWordReadWordRoundTripRow.make) = true := by
  rw [make_of Try.prog restWords head_words]
  rfl
theorem fact_lifted : (Rows.fnAppendWordReadWordRoundTripRow.lifted == Try.prog.liftsFinal) = true := by
  rw [liftsFinal_of Try.prog restWords head_words]
  rfl

theorem both {a b : Bool} (h : a = true) (k : b = true) : (a && b) = true := by rw [h, k]; rfl

theorem facts : joinedFacts Try.prog 4 Try.f4 Rows.fnAppendWordReadWordRoundTripSpec Rows.fnAppendWordReadWordRoundTripRow = true := by
  unfold joinedFacts
  iterate 31 (refine both ?_ ?_)
  · as_aux_lemma => kernel_rfl
  · as_aux_lemma => kernel_rfl
  · as_aux_lemma => kernel_rfl
  · as_aux_lemma => kernel_rfl
  · as_aux_lemma => kernel_rfl
  · as_aux_lemma => kernel_rfl
  · as_aux_lemma => kernel_rfl
  · as_aux_lemma => kernel_rfl
  · as_aux_lemma => kernel_rfl
  · as_aux_lemma => kernel_rfl
  · as_aux_lemma => kernel_rfl
  · as_aux_lemma => kernel_rfl
  · as_aux_lemma => kernel_rfl
  · as_aux_lemma => kernel_rfl
  · as_aux_lemma => kernel_rfl
  · as_aux_lemma => kernel_rfl
  · as_aux_lemma => kernel_rfl
  · as_aux_lemma => kernel_rfl
  · as_aux_lemma => kernel_rfl
  · as_aux_lemma => kernel_rfl
  · as_aux_lemma => kernel_rfl
  · as_aux_lemma => kernel_rfl
  · as_aux_lemma => kernel_rfl
  · as_aux_lemma => kernel_rfl
  · as_aux_lemma => kernel_rfl
  · exact fact_mayEnter
  · exact fact_lifted
  · exact fact_make
  · as_aux_lemma => kernel_rfl
  · as_aux_lemma => kernel_rfl
  · as_aux_lemma => kernel_rfl
  · as_aux_lemma => kernel_rfl

end Go.Proofs.Qxb6600347a

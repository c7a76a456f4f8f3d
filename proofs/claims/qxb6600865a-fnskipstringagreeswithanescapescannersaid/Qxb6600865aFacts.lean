/-
  The row's closed facts, one by one. Two of them look at the program's head word, a long string: 'String.toList' of a long literal costs the kernel some 10 GB. Here the literal is taken as the list of its signs, and the facts are shown of any program whose head word is known.
-/
import Derived.Test.Qxb6600865aRows
import Derived.WalkKit
import Derived.ProofKit
namespace Go.Proofs.Qxb6600865a

/-- A string that is made of the signs l: its words, the first behind the head's own two being 'cut'. -/
theorem words_of (s : String) (l : List Char) (h : s = String.ofList l) (hw : (behindMainWord (wordsSigns l)).head? = some [Char.ofNat 99, Char.ofNat 117, Char.ofNat 116]) :
    ∃ r, behindMainWord (wordsSigns s.toList) = [Char.ofNat 99, Char.ofNat 117, Char.ofNat 116] :: r := by
  rw [h, String.toList_ofList]
  cases hb : behindMainWord (wordsSigns l) with
  | nil => rw [hb] at hw; cases hw
  | cons c r => rw [hb] at hw; simp only [List.head?_cons, Option.some.injEq] at hw; exact ⟨r, by rw [hw]⟩
set_option maxRecDepth 100000 in
theorem head_words : ∃ r, behindMainWord (wordsSigns Try.prog.initOrder.toList) = [Char.ofNat 99, Char.ofNat 117, Char.ofNat 116] :: r := words_of _ _ rfl (by kernel_rfl)

theorem make_of (P : Program) (r : List (List Char)) (h : behindMainWord (wordsSigns P.initOrder.toList) = [Char.ofNat 99, Char.ofNat 117, Char.ofNat 116] :: r) : P.make = some .cut := by
  unfold Program.make
  rw [h]
  rfl
theorem headLifts_of (P : Program) (r : List (List Char)) (h : behindMainWord (wordsSigns P.initOrder.toList) = [Char.ofNat 99, Char.ofNat 117, Char.ofNat 116] :: r) : P.headLifts = [] := by
  unfold Program.headLifts
  rw [h]
  rfl
theorem liftsFinal_of (P : Program) (r : List (List Char)) (h : behindMainWord (wordsSigns P.initOrder.toList) = [Char.ofNat 99, Char.ofNat 117, Char.ofNat 116] :: r) : P.liftsFinal = false := by
  unfold Program.liftsFinal
  rw [headLifts_of P r h, h]
  rfl
theorem mayEnter_of (P : Program) (r : List (List Char)) (h : behindMainWord (wordsSigns P.initOrder.toList) = [Char.ofNat 99, Char.ofNat 117, Char.ofNat 116] :: r) (h1 : P.laysLater = false) (h2 : P.bearsReflect = false) (h3 : P.doorFits [] = true) : P.mayEnter = true := by
  unfold Program.mayEnter
  rw [h]
  have e : stripLifts liftWords ([Char.ofNat 99, Char.ofNat 117, Char.ofNat 116] :: r) = ([], [Char.ofNat 99, Char.ofNat 117, Char.ofNat 116] :: r) := rfl
  simp only [e, h1, h2, h3]
  rfl

theorem fact_mayEnter : Try.prog.mayEnter = true := by
  obtain ⟨r, h⟩ := head_words
  exact mayEnter_of Try.prog r h (by as_aux_lemma => kernel_rfl) (by as_aux_lemma => kernel_rfl) (by as_aux_lemma => kernel_rfl)
theorem fact_make : (Try.prog.make == some Rows.fnSkipStringAgreesWithAnEscapeScannerRow.make) = true := by
  obtain ⟨r, h⟩ := head_words
  rw [make_of Try.prog r h]
  rfl
theorem fact_lifted : (Rows.fnSkipStringAgreesWithAnEscapeScannerRow.lifted == Try.prog.liftsFinal) = true := by
  obtain ⟨r, h⟩ := head_words
  rw [liftsFinal_of Try.prog r h]
  rfl

theorem both {a b : Bool} (h : a = true) (k : b = true) : (a && b) = true := by rw [h, k]; rfl

theorem facts : joinedFacts Try.prog 4 Try.f4 Rows.fnSkipStringAgreesWithAnEscapeScannerSpec Rows.fnSkipStringAgreesWithAnEscapeScannerRow = true := by
  unfold joinedFacts
  iterate 31 (refine both ?_ ?_)
  · as_aux_lemma => kernel_rfl
  · as_aux_lemma => kernel_rfl
  · as_aux_lemma => kernel_rfl
  · as_aux_lemma => kernel_rfl
  · as_aux_lemma => kernel_rfl
  · as_aux_lemma => kernel_rfl
  · as_aux_lemma => kernel_rfl
  · as_aux_lemma => kernel_rfl
  · as_aux_lemma => kernel_rfl
  · as_aux_lemma => kernel_rfl
  · as_aux_lemma => kernel_rfl
  · as_aux_lemma => kernel_rfl
  · as_aux_lemma => kernel_rfl
  · as_aux_lemma => kernel_rfl
  · as_aux_lemma => kernel_rfl
  · as_aux_lemma => kernel_rfl
  · as_aux_lemma => kernel_rfl
  · as_aux_lemma => kernel_rfl
  · as_aux_lemma => kernel_rfl
  · as_aux_lemma => kernel_rfl
  · as_aux_lemma => kernel_rfl
  · as_aux_lemma => kernel_rfl
  · as_aux_lemma => kernel_rfl
  · as_aux_lemma => kernel_rfl
  · as_aux_lemma => kernel_rfl
  · exact fact_mayEnter
  · exact fact_lifted
  · exact fact_make
  · as_aux_lemma => kernel_rfl
  · as_aux_lemma => kernel_rfl
  · as_aux_lemma => kernel_rfl
  · as_aux_lemma => kernel_rfl

end Go.Proofs.Qxb6600865a

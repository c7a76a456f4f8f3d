namespace Go.Proofs.Qxb6601295a.Fe

/-- The words of a value: cut at every dot. -/
def split : List UInt8 → List (List UInt8)
  | [] => [[]]
  | c :: l => if c = 46 then [] :: split l else match split l with
    | w :: r => (c :: w) :: r
    | [] => [[c]]
/-- The words, a dot between. -/
def join : List (List UInt8) → List UInt8
  | [] => []
  | [w] => w
  | w :: x :: r => w ++ 46 :: join (x :: r)
/-- The words, a dot behind each. -/
def joinDot : List (List UInt8) → List UInt8
  | [] => []
  | w :: r => w ++ 46 :: joinDot r
/-- A wildcard word. -/
def wild (w : List UInt8) : Bool := w == [42] || w == [35]

theorem split_none : ∀ (l : List UInt8), (∀ c ∈ l, c ≠ 46) → split l = [l]
  | [], _ => rfl
  | c :: l, h => by
    unfold split
    rw [if_neg (h c (List.mem_cons_self)), split_none l (fun d hd => h d (List.mem_cons_of_mem _ hd))]
theorem split_at : ∀ (w r : List UInt8), (∀ c ∈ w, c ≠ 46) → split (w ++ 46 :: r) = w :: split r
  | [], r, _ => by
    show split (46 :: r) = _
    rw [split.eq_2, if_pos rfl]
  | c :: w, r, h => by
    show split (c :: (w ++ 46 :: r)) = _
    rw [split.eq_2, if_neg (h c (List.mem_cons_self)), split_at w r (fun d hd => h d (List.mem_cons_of_mem _ hd))]
theorem split_ne (l : List UInt8) : split l ≠ [] := by
  cases l with
  | nil => simp [split]
  | cons c l =>
    unfold split
    split
    · simp
    · split <;> simp
theorem join_cons (w : List UInt8) (r : List (List UInt8)) (h : r ≠ []) : join (w :: r) = w ++ 46 :: join r := by
  cases r with
  | nil => exact absurd rfl h
  | cons x r => rfl
theorem join_split : ∀ (l : List UInt8), join (split l) = l
  | [] => rfl
  | c :: l => by
    have ih := join_split l
    have hne := split_ne l
    unfold split
    by_cases hc : c = 46
    · rw [if_pos hc, join_cons _ _ hne, ih, hc]; rfl
    · rw [if_neg hc]
      cases hs : split l with
      | nil => exact absurd hs hne
      | cons w r =>
        rw [hs] at ih
        simp only
        cases r with
        | nil => simp only [join] at ih ⊢; rw [ih]
        | cons x r => simp only [join] at ih ⊢; rw [List.cons_append, ih]
theorem join_app : ∀ (A B : List (List UInt8)), B ≠ [] → join (A ++ B) = joinDot A ++ join B
  | [], _, _ => rfl
  | w :: A, B, h => by
    have hne : A ++ B ≠ [] := by simp [h]
    rw [List.cons_append, join_cons _ _ hne, join_app A B h]
    simp [joinDot]
theorem joinDot_app : ∀ (A B : List (List UInt8)), joinDot (A ++ B) = joinDot A ++ joinDot B
  | [], _ => rfl
  | w :: A, B => by simp [joinDot, joinDot_app A B]
theorem joinDot_join : ∀ (A : List (List UInt8)), A ≠ [] → joinDot A = join A ++ [46]
  | [], h => absurd rfl h
  | [w], _ => by simp [joinDot, join]
  | w :: x :: r, _ => by
    rw [joinDot, joinDot_join (x :: r) (by simp), join_cons w (x :: r) (by simp)]
    simp
theorem joinDot_snoc (A : List (List UInt8)) (w : List UInt8) : (joinDot (A ++ [w])).length = (joinDot A).length + w.length + 1 := by
  rw [joinDot_app]; simp [joinDot]; omega
theorem join_snoc (A : List (List UInt8)) (w : List UInt8) : join (A ++ [w]) = joinDot A ++ w := by rw [join_app A [w] (by simp)]; rfl

/-- The words ahead of the first wildcard. -/
def pre1 : List (List UInt8) → Option (List (List UInt8))
  | [] => none
  | w :: r => if wild w then some [] else (pre1 r).map (w :: ·)
/-- The words ahead of the last wildcard, that word, and the words behind it. -/
def lastW : List (List UInt8) → Option (List (List UInt8) × List UInt8 × List (List UInt8))
  | [] => none
  | w :: r => match lastW r with
    | some (B, y, C) => some (w :: B, y, C)
    | none => if wild w then some ([], w, r) else none

theorem pre1_snoc : ∀ (ws : List (List UInt8)) (w : List UInt8), pre1 (ws ++ [w]) = match pre1 ws with | some A => some A | none => if wild w then some ws else none
  | [], w => by simp [pre1]
  | x :: ws, w => by
    simp only [List.cons_append, pre1]
    rw [pre1_snoc ws w]
    cases wild x
    · cases pre1 ws with
      | none => cases wild w <;> simp
      | some A => simp
    · simp
theorem lastW_snoc : ∀ (ws : List (List UInt8)) (w : List UInt8), lastW (ws ++ [w]) = if wild w then some (ws, w, []) else match lastW ws with | some (B, y, C) => some (B, y, C ++ [w]) | none => none
  | [], w => by simp [lastW]
  | x :: ws, w => by
    simp only [List.cons_append, lastW]
    rw [lastW_snoc ws w]
    cases wild w
    · cases h : lastW ws with
      | none => cases wild x <;> simp
      | some t => obtain ⟨B, y, C⟩ := t; simp
    · simp
theorem pre1_form : ∀ (ws A : List (List UInt8)), pre1 ws = some A → ∃ x M, ws = A ++ x :: M
  | [], A, h => by simp [pre1] at h
  | w :: r, A, h => by
    simp only [pre1] at h
    cases hw : wild w
    · rw [hw] at h
      simp only [Bool.false_eq_true, if_false, Option.map_eq_some_iff] at h
      obtain ⟨A', h1, rfl⟩ := h
      obtain ⟨x, M, rfl⟩ := pre1_form r A' h1
      exact ⟨x, M, rfl⟩
    · rw [hw] at h
      simp only [if_true, Option.some.injEq] at h
      subst h
      exact ⟨w, r, rfl⟩
theorem lastW_form : ∀ (ws B : List (List UInt8)) (y : List UInt8) (C : List (List UInt8)), lastW ws = some (B, y, C) → ws = B ++ y :: C
  | [], B, y, C, h => by simp [lastW] at h
  | w :: r, B, y, C, h => by
    simp only [lastW] at h
    cases hr : lastW r with
    | none =>
      rw [hr] at h
      cases hw : wild w
      · rw [hw] at h; simp at h
      · rw [hw] at h; simp at h; obtain ⟨rfl, rfl, rfl⟩ := h; rfl
    | some t =>
      obtain ⟨B', y', C'⟩ := t
      rw [hr] at h
      simp at h
      obtain ⟨rfl, rfl, rfl⟩ := h
      rw [lastW_form r B' y' C' hr]; rfl
theorem both_none : ∀ (ws : List (List UInt8)), pre1 ws = none ↔ lastW ws = none
  | [] => by simp [pre1, lastW]
  | w :: r => by
    have ih := both_none r
    simp only [pre1, lastW]
    cases hw : wild w
    · cases hl : lastW r with
      | none => simp [ih.2 hl]
      | some t =>
        obtain ⟨B, y, C⟩ := t
        have : pre1 r ≠ none := fun h => by have := ih.1 h; rw [hl] at this; cases this
        cases hp : pre1 r with
        | none => exact absurd hp this
        | some A => simp
    · cases hl : lastW r with
      | none => simp
      | some t => obtain ⟨B, y, C⟩ := t; simp

/-- fixedEnds' two variables and the model's, of the words seen so far. -/
def firstPos (ws : List (List UInt8)) : Int := match pre1 ws with | some A => (joinDot A).length | none => -1
def firstIdx (ws : List (List UInt8)) : Int := match pre1 ws with | some A => A.length | none => -1
def lastPos (ws : List (List UInt8)) : Int := match lastW ws with | some (B, y, _) => ((joinDot B).length + y.length : Nat) | none => -1
def lastIdx (ws : List (List UInt8)) : Int := match lastW ws with | some (B, _, _) => B.length | none => -1

theorem firstPos_wild (ws : List (List UInt8)) (w : List UInt8) (h : wild w = true) (hf : firstPos ws < 0) : firstPos (ws ++ [w]) = (joinDot ws).length := by
  unfold firstPos at *
  rw [pre1_snoc, h]
  cases hp : pre1 ws with
  | none => simp
  | some A => rw [hp] at hf; simp only at hf; omega
theorem firstPos_kept (ws : List (List UInt8)) (w : List UInt8) (hf : ¬ firstPos ws < 0) : firstPos (ws ++ [w]) = firstPos ws := by
  unfold firstPos at *
  rw [pre1_snoc]
  cases hp : pre1 ws with
  | none => rw [hp] at hf; simp only at hf; omega
  | some A => simp
theorem firstPos_plain (ws : List (List UInt8)) (w : List UInt8) (h : wild w = false) : firstPos (ws ++ [w]) = firstPos ws := by
  unfold firstPos
  rw [pre1_snoc, h]
  cases hp : pre1 ws <;> simp
theorem firstIdx_wild (ws : List (List UInt8)) (w : List UInt8) (h : wild w = true) (hf : firstIdx ws < 0) : firstIdx (ws ++ [w]) = ws.length := by
  unfold firstIdx at *
  rw [pre1_snoc, h]
  cases hp : pre1 ws with
  | none => simp
  | some A => rw [hp] at hf; simp only at hf; omega
theorem firstIdx_kept (ws : List (List UInt8)) (w : List UInt8) (hf : ¬ firstIdx ws < 0) : firstIdx (ws ++ [w]) = firstIdx ws := by
  unfold firstIdx at *
  rw [pre1_snoc]
  cases hp : pre1 ws with
  | none => rw [hp] at hf; simp only at hf; omega
  | some A => simp
theorem firstIdx_plain (ws : List (List UInt8)) (w : List UInt8) (h : wild w = false) : firstIdx (ws ++ [w]) = firstIdx ws := by
  unfold firstIdx
  rw [pre1_snoc, h]
  cases hp : pre1 ws <;> simp
theorem lastPos_wild (ws : List (List UInt8)) (w : List UInt8) (h : wild w = true) : lastPos (ws ++ [w]) = ((joinDot ws).length + w.length : Nat) := by
  unfold lastPos
  rw [lastW_snoc, h]
  simp
theorem lastPos_plain (ws : List (List UInt8)) (w : List UInt8) (h : wild w = false) : lastPos (ws ++ [w]) = lastPos ws := by
  unfold lastPos
  rw [lastW_snoc, h]
  cases hp : lastW ws with
  | none => simp
  | some t => obtain ⟨B, y, C⟩ := t; simp
theorem lastIdx_wild (ws : List (List UInt8)) (w : List UInt8) (h : wild w = true) : lastIdx (ws ++ [w]) = ws.length := by
  unfold lastIdx
  rw [lastW_snoc, h]
  simp
theorem lastIdx_plain (ws : List (List UInt8)) (w : List UInt8) (h : wild w = false) : lastIdx (ws ++ [w]) = lastIdx ws := by
  unfold lastIdx
  rw [lastW_snoc, h]
  cases hp : lastW ws with
  | none => simp
  | some t => obtain ⟨B, y, C⟩ := t; simp

/-- No wildcard: both say -1; else all four are told by one A, B, y, C. -/
theorem ends (v : List UInt8) :
    (firstPos (split v) = -1 ∧ firstIdx (split v) = -1) ∨
    ∃ (A B : List (List UInt8)) (y : List UInt8) (C : List (List UInt8)), firstPos (split v) = ((joinDot A).length : Nat) ∧ firstIdx (split v) = (A.length : Nat) ∧ lastPos (split v) = ((joinDot B).length + y.length : Nat) ∧ lastIdx (split v) = (B.length : Nat) ∧
      (split v).take A.length = A ∧ (split v).drop (B.length + 1) = C ∧ A.length < (split v).length ∧ B.length < (split v).length ∧
      v.take (joinDot A).length = joinDot A ∧ (joinDot A).length ≤ v.length ∧ (joinDot B).length + y.length ≤ v.length ∧
      v.drop ((joinDot B).length + y.length) = if C = [] then [] else 46 :: join C := by
  cases hp : pre1 (split v) with
  | none => exact .inl (by simp [firstPos, firstIdx, hp])
  | some A =>
    cases hl : lastW (split v) with
    | none => have := (both_none (split v)).2 hl; rw [hp] at this; cases this
    | some t =>
      obtain ⟨B, y, C⟩ := t
      obtain ⟨x, M, h1⟩ := pre1_form _ _ hp
      have h2 := lastW_form _ _ _ _ hl
      have e1 : v = joinDot A ++ join (x :: M) := by rw [← join_app A (x :: M) (by simp), ← h1, join_split]
      have e2 : v = joinDot B ++ y ++ (if C = [] then [] else 46 :: join C) := by
        have e : v = joinDot B ++ join (y :: C) := by rw [← join_app B (y :: C) (by simp), ← h2, join_split]
        rw [e]
        by_cases hC : C = []
        · rw [if_pos hC, hC]; simp [join]
        · rw [if_neg hC, join_cons y C hC, List.append_assoc]
      refine .inr ⟨A, B, y, C, by simp [firstPos, hp], by simp [firstIdx, hp], by simp [lastPos, hl], by simp [lastIdx, hl], by rw [h1]; simp, by rw [h2]; simp, by rw [h1]; simp, by rw [h2]; simp, ?_, ?_, ?_, ?_⟩
      · rw [e1]; simp
      · rw [e1]; simp
      · have := congrArg List.length e2
        simp only [List.length_append] at this
        omega
      · conv => lhs; rw [e2]
        rw [show (joinDot B).length + y.length = (joinDot B ++ y).length from by simp, List.drop_left]

/-- The first word of what is left: up to the dot at o. -/
theorem split_step (r : List UInt8) (o : Nat) (h1 : r[o]? = some 46) (h2 : ∀ k, k < o → r[k]? ≠ some 46) : split r = r.take o :: split (r.drop (o + 1)) := by
  have ho : o < r.length := (List.getElem?_eq_some_iff.1 h1).1
  have e : r = r.take o ++ 46 :: r.drop (o + 1) := by
    have h3 : r[o] = 46 := (List.getElem?_eq_some_iff.1 h1).2
    rw [← h3, ← List.drop_eq_getElem_cons ho, List.take_append_drop]
  conv => lhs; rw [e]
  refine split_at _ _ (fun c hc h46 => ?_)
  obtain ⟨k, hk, hkc⟩ := List.mem_iff_getElem.1 hc
  have hk' : k < o := by simp at hk; omega
  refine h2 k hk' ?_
  rw [List.getElem?_eq_getElem (by omega)]
  rw [List.getElem_take] at hkc
  rw [hkc, h46]
theorem split_rest (r : List UInt8) (h : ∀ k : Nat, r[k]? ≠ some 46) : split r = [r] := by
  refine split_none r (fun c hc h46 => ?_)
  obtain ⟨k, hk, hkc⟩ := List.mem_iff_getElem.1 hc
  exact h k (by rw [List.getElem?_eq_getElem hk, hkc, h46])

end Go.Proofs.Qxb6601295a.Fe

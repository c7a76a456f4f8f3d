namespace Go.Proofs.Qxb6601067a.Sk

/-- The escape scanner: r bytes are left, from place j on; e: is the byte at j escaped? The first quote that is not. -/
def scan (f : Nat → Int) : Nat → Nat → Bool → Option Nat
  | 0, _, _ => none
  | r + 1, j, true => scan f r (j + 1) false
  | r + 1, j, false => if f j = 92 then scan f r (j + 1) true else if f j = 34 then some j else scan f r (j + 1) false

theorem scan_end (f : Nat → Int) (j : Nat) (e : Bool) : scan f 0 j e = none := by cases e <;> rfl

theorem scan_esc (f : Nat → Int) (n j : Nat) (h : j < n) : scan f (n - j) j true = scan f (n - (j + 1)) (j + 1) false := by
  rw [show n - j = (n - (j + 1)) + 1 from by omega]; rfl
theorem scan_back (f : Nat → Int) (n j : Nat) (h : j < n) (hb : f j = 92) : scan f (n - j) j false = scan f (n - (j + 1)) (j + 1) true := by
  rw [show n - j = (n - (j + 1)) + 1 from by omega]
  show (if f j = 92 then _ else _) = _
  rw [if_pos hb]
theorem scan_quote (f : Nat → Int) (n j : Nat) (h : j < n) (hb : f j = 34) : scan f (n - j) j false = some j := by
  rw [show n - j = (n - (j + 1)) + 1 from by omega]
  show (if f j = 92 then _ else if f j = 34 then _ else _) = _
  rw [if_neg (by omega), if_pos hb]
theorem scan_other (f : Nat → Int) (n j : Nat) (h : j < n) (h1 : f j ≠ 92) (h2 : f j ≠ 34) : scan f (n - j) j false = scan f (n - (j + 1)) (j + 1) false := by
  rw [show n - j = (n - (j + 1)) + 1 from by omega]
  show (if f j = 92 then _ else if f j = 34 then _ else _) = _
  rw [if_neg h1, if_neg h2]


theorem scan_past_end (f : Nat → Int) (n j : Nat) (e : Bool) (h : n ≤ j) : scan f (n - j) j e = none := by
  rw [show n - j = 0 from by omega]; exact scan_end f j e

/-- A backslash and what it escapes. -/
theorem scan_two (f : Nat → Int) (n j : Nat) (h : j < n) (hb : f j = 92) : scan f (n - j) j false = scan f (n - (j + 2)) (j + 2) false := by
  rw [scan_back f n j h hb]
  by_cases h2 : j + 1 < n
  · exact scan_esc f n (j + 1) h2
  · rw [scan_past_end f n (j + 1) true (by omega), scan_past_end f n (j + 2) false (by omega)]

/-- b is where the run of backslashes right before i begins. -/
def RunAt (f : Nat → Int) (b i : Nat) : Prop := b ≤ i ∧ (∀ j, b ≤ j → j < i → f j = 92) ∧ (b = 0 ∨ f (b - 1) ≠ 92)

theorem RunAt.unique {f : Nat → Int} {b c i : Nat} (h : RunAt f b i) (k : RunAt f c i) : b = c := by
  obtain ⟨h1, h2, h3⟩ := h
  obtain ⟨k1, k2, k3⟩ := k
  rcases Nat.lt_trichotomy b c with hlt | he | hgt
  · rcases k3 with k3 | k3
    · omega
    · exact absurd (h2 (c - 1) (by omega) (by omega)) k3
  · exact he
  · rcases h3 with h3 | h3
    · omega
    · exact absurd (k2 (b - 1) (by omega) (by omega)) h3

/-- WHAT HOLDS AT THE MODEL's PLACE i: the scanner, its flag the parity of the run before i, still comes to R. -/
def Inv (f : Nat → Int) (n i : Nat) (R : Option Nat) : Prop := ∃ b, RunAt f b i ∧ scan f (n - i) i ((i - b) % 2 == 1) = R

theorem inv_start (f : Nat → Int) (n : Nat) (R : Option Nat) (h : scan f n 0 false = R) : Inv f n 0 R :=
  ⟨0, ⟨Nat.le_refl _, fun j _ h => by omega, .inl rfl⟩, h⟩

theorem run_new (f : Nat → Int) (i : Nat) (h : f i ≠ 92) : RunAt f (i + 1) (i + 1) :=
  ⟨Nat.le_refl _, fun j h1 h2 => by omega, .inr (by simpa using h)⟩

/-- A byte that is neither. -/
theorem inv_other (f : Nat → Int) (n i : Nat) (R : Option Nat) (hi : i < n) (h1 : f i ≠ 92) (h2 : f i ≠ 34) (h : Inv f n i R) : Inv f n (i + 1) R := by
  obtain ⟨b, hr, hs⟩ := h
  refine ⟨i + 1, run_new f i h1, ?_⟩
  rw [Nat.sub_self]
  rw [← hs]
  cases ((i - b) % 2 == 1)
  · exact (scan_other f n i hi h1 h2).symm
  · exact (scan_esc f n i hi).symm

theorem inv_back (f : Nat → Int) (n i : Nat) (R : Option Nat) (hi : i < n) (h1 : f i = 92) (h : Inv f n i R) : Inv f n (i + 1) R := by
  obtain ⟨b, ⟨r1, r2, r3⟩, hs⟩ := h
  refine ⟨b, ⟨by omega, fun j j1 j2 => ?_, r3⟩, ?_⟩
  · rcases Nat.lt_or_ge j i with hlt | hge
    · exact r2 j j1 hlt
    · rw [show j = i from by omega]; exact h1
  · rw [← hs]
    rcases Nat.mod_two_eq_zero_or_one (i - b) with h0 | h0
    · rw [h0, show (i + 1 - b) % 2 = 1 from by omega]
      exact (scan_back f n i hi h1).symm
    · rw [h0, show (i + 1 - b) % 2 = 0 from by omega]
      exact (scan_esc f n i hi).symm

/-- Whatever is no quote. -/
theorem inv_noquote (f : Nat → Int) (n i : Nat) (R : Option Nat) (hi : i < n) (h2 : f i ≠ 34) (h : Inv f n i R) : Inv f n (i + 1) R := by
  by_cases h1 : f i = 92
  · exact inv_back f n i R hi h1 h
  · exact inv_other f n i R hi h1 h2 h

/-- A quote behind c backslashes. -/
theorem inv_quote_odd (f : Nat → Int) (n i c : Nat) (R : Option Nat) (hi : i < n) (h2 : f i = 34) (hc : c ≤ i) (hr : RunAt f (i - c) i) (hodd : c % 2 ≠ 0) (h : Inv f n i R) : Inv f n (i + 1) R := by
  obtain ⟨b, hr', hs⟩ := h
  obtain rfl := hr'.unique hr
  refine ⟨i + 1, run_new f i (by omega), ?_⟩
  rw [Nat.sub_self, ← hs, show (i - (i - c)) % 2 = 1 from by omega]
  exact (scan_esc f n i hi).symm

theorem inv_quote_even (f : Nat → Int) (n i c : Nat) (R : Option Nat) (hi : i < n) (h2 : f i = 34) (hc : c ≤ i) (hr : RunAt f (i - c) i) (heven : c % 2 = 0) (h : Inv f n i R) : R = some i := by
  obtain ⟨b, hr', hs⟩ := h
  obtain rfl := hr'.unique hr
  rw [← hs, show (i - (i - c)) % 2 = 0 from by omega]
  exact scan_quote f n i hi h2

theorem inv_end (f : Nat → Int) (n i : Nat) (R : Option Nat) (hi : n ≤ i) (h : Inv f n i R) : R = none := by
  obtain ⟨b, hr, hs⟩ := h
  rw [← hs]
  exact scan_past_end f n i _ hi

/-- The place that is answered. -/
def placeOf (n : Nat) : Option Nat → Nat
  | some k => k
  | none => n

/-- The first place of the byte 62, or n. -/
def First (f : Nat → Int) (n r : Nat) : Prop := r ≤ n ∧ (r < n → f r = 62) ∧ ∀ j, j < r → f j ≠ 62
theorem First.unique {f : Nat → Int} {n r q : Nat} (h : First f n r) (k : First f n q) : r = q := by
  obtain ⟨h1, h2, h3⟩ := h
  obtain ⟨k1, k2, k3⟩ := k
  rcases Nat.lt_trichotomy r q with hlt | he | hgt
  · exact absurd (h2 (by omega)) (k3 r hlt)
  · exact he
  · exact absurd (k2 (by omega)) (h3 q hgt)
end Go.Proofs.Qxb6601067a.Sk

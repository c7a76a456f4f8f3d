namespace Go.Proofs.Qxb6600865a.Sk

/-- The escape scanner: r bytes are left, from place j on; e: is the byte at j escaped? The first quote that is not. -/
def scan (f : Nat → Int) : Nat → Nat → Bool → Option Nat
  | 0, _, _ => none
  | r + 1, j, true => scan f r (j + 1) false
  | r + 1, j, false => if f j = 92 then scan f r (j + 1) true else if f j = 34 then some j else scan f r (j + 1) false

theorem scan_end (f : Nat → Int) (j : Nat) (e : Bool) : scan f 0 j e = none := by cases e <;> rfl

theorem scan_esc (f : Nat → Int) (n j : Nat) (h : j < n) : scan f (n - j) j true = scan f (n - (j + 1)) (j + 1) false := by
  rw [show n - j = (n - (j + 1)) + 1 from by omega]; rfl
theorem scan_back (f : Nat → Int) (n j : Nat) (h : j < n) (hb : f j = 92) : scan f (n - j) j false = scan f (n - (j + 1)) (j + 1) true := by
  rw [show n - j = (n - (j + 1)) + 1 from by omega]
  show (if f j = 92 then _ else _) = _
  rw [if_pos hb]
theorem scan_quote (f : Nat → Int) (n j : Nat) (h : j < n) (hb : f j = 34) : scan f (n - j) j false = some j := by
  rw [show n - j = (n - (j + 1)) + 1 from by omega]
  show (if f j = 92 then _ else if f j = 34 then _ else _) = _
  rw [if_neg (by omega), if_pos hb]
theorem scan_other (f : Nat → Int) (n j : Nat) (h : j < n) (h1 : f j ≠ 92) (h2 : f j ≠ 34) : scan f (n - j) j false = scan f (n - (j + 1)) (j + 1) false := by
  rw [show n - j = (n - (j + 1)) + 1 from by omega]
  show (if f j = 92 then _ else if f j = 34 then _ else _) = _
  rw [if_neg h1, if_neg h2]

/-- No quote, no answer. -/
theorem scan_none (f : Nat → Int) (n : Nat) : ∀ (d k : Nat) (e : Bool), n - k = d → (∀ j, k ≤ j → j < n → f j ≠ 34) → scan f (n - k) k e = none
  | 0, k, e, hd, _ => by rw [hd]; exact scan_end f k e
  | d + 1, k, true, hd, h => by
    rw [scan_esc f n k (by omega)]
    exact scan_none f n d (k + 1) false (by omega) (fun j h1 h2 => h j (by omega) h2)
  | d + 1, k, false, hd, h => by
    by_cases hb : f k = 92
    · rw [scan_back f n k (by omega) hb]
      exact scan_none f n d (k + 1) true (by omega) (fun j h1 h2 => h j (by omega) h2)
    · rw [scan_other f n k (by omega) hb (h k (Nat.le_refl _) (by omega))]
      exact scan_none f n d (k + 1) false (by omega) (fun j h1 h2 => h j (by omega) h2)

/-- Past bytes without a quote, the last of them no backslash, nothing is escaped. -/
theorem scan_past (f : Nat → Int) (n : Nat) : ∀ (d k : Nat) (e : Bool), k + d + 1 ≤ n → (∀ j, k ≤ j → j < k + d + 1 → f j ≠ 34) → f (k + d) ≠ 92 → scan f (n - k) k e = scan f (n - (k + d + 1)) (k + d + 1) false
  | 0, k, true, hn, _, _ => scan_esc f n k (by omega)
  | 0, k, false, hn, h, hb => scan_other f n k (by omega) hb (h k (Nat.le_refl _) (by omega))
  | d + 1, k, true, hn, h, hb => by
    rw [scan_esc f n k (by omega), scan_past f n d (k + 1) false (by omega) (fun j h1 h2 => h j (by omega) (by omega)) (by rw [show k + 1 + d = k + (d + 1) from by omega]; exact hb),
      show k + 1 + d + 1 = k + (d + 1) + 1 from by omega]
  | d + 1, k, false, hn, h, hb => by
    by_cases hq : f k = 92
    · rw [scan_back f n k (by omega) hq, scan_past f n d (k + 1) true (by omega) (fun j h1 h2 => h j (by omega) (by omega)) (by rw [show k + 1 + d = k + (d + 1) from by omega]; exact hb),
        show k + 1 + d + 1 = k + (d + 1) + 1 from by omega]
    · rw [scan_other f n k (by omega) hq (h k (Nat.le_refl _) (by omega)), scan_past f n d (k + 1) false (by omega) (fun j h1 h2 => h j (by omega) (by omega)) (by rw [show k + 1 + d = k + (d + 1) from by omega]; exact hb),
        show k + 1 + d + 1 = k + (d + 1) + 1 from by omega]

/-- Two backslashes more turn nothing. -/
theorem scan_run (f : Nat → Int) (n : Nat) : ∀ (r k : Nat) (e : Bool), k + r ≤ n → (∀ j, k ≤ j → j < k + r → f j = 92) → scan f (n - k) k e = scan f (n - (k + r)) (k + r) (e ^^ (r % 2 == 1))
  | 0, k, e, _, _ => by simp
  | r + 1, k, e, hn, h => by
    have hstep : scan f (n - k) k e = scan f (n - (k + 1)) (k + 1) (!e) := by
      cases e
      · exact scan_back f n k (by omega) (h k (Nat.le_refl _) (by omega))
      · exact scan_esc f n k (by omega)
    rw [hstep, scan_run f n r (k + 1) (!e) (by omega) (fun j h1 h2 => h j (by omega) (by omega)), show k + 1 + r = k + (r + 1) from by omega]
    congr 1
    rcases Nat.mod_two_eq_zero_or_one r with h0 | h0
    · rw [h0, show (r + 1) % 2 = 1 from by omega]; cases e <;> rfl
    · rw [h0, show (r + 1) % 2 = 0 from by omega]; cases e <;> rfl

/-- The first quote behind m stands at i, and b .. i are the backslashes right before it. -/
theorem scan_to (f : Nat → Int) (n m b i : Nat) (h1 : m ≤ b) (h2 : b ≤ i) (h3 : i < n) (hq : ∀ j, m ≤ j → j < i → f j ≠ 34) (hs : ∀ j, b ≤ j → j < i → f j = 92) (hb : b = m ∨ f (b - 1) ≠ 92) :
    scan f (n - m) m false = scan f (n - i) i ((i - b) % 2 == 1) := by
  have e1 : scan f (n - m) m false = scan f (n - b) b false := by
    by_cases hbm : b = m
    · rw [hbm]
    · have hne : f (b - 1) ≠ 92 := by rcases hb with h | h; exact absurd h hbm; exact h
      have := scan_past f n (b - 1 - m) m false (by omega) (fun j j1 j2 => hq j j1 (by omega)) (by rw [show m + (b - 1 - m) = b - 1 from by omega]; exact hne)
      rw [show m + (b - 1 - m) + 1 = b from by omega] at this
      exact this
  have e2 := scan_run f n (i - b) b false (by omega) (fun j j1 j2 => hs j j1 (by omega))
  rw [show b + (i - b) = i from by omega] at e2
  rw [e1, e2]
  congr 1
  cases ((i - b) % 2 == 1) <;> rfl

theorem scan_even (f : Nat → Int) (n m b i : Nat) (h1 : m ≤ b) (h2 : b ≤ i) (h3 : i < n) (hq : ∀ j, m ≤ j → j < i → f j ≠ 34) (hi : f i = 34) (hs : ∀ j, b ≤ j → j < i → f j = 92) (hb : b = m ∨ f (b - 1) ≠ 92)
    (hr : (i - b) % 2 = 0) : scan f (n - m) m false = some i := by
  rw [scan_to f n m b i h1 h2 h3 hq hs hb, hr]
  exact scan_quote f n i h3 hi

theorem scan_odd (f : Nat → Int) (n m b i : Nat) (h1 : m ≤ b) (h2 : b ≤ i) (h3 : i < n) (hq : ∀ j, m ≤ j → j < i → f j ≠ 34) (hs : ∀ j, b ≤ j → j < i → f j = 92) (hb : b = m ∨ f (b - 1) ≠ 92)
    (hr : (i - b) % 2 ≠ 0) : scan f (n - m) m false = scan f (n - (i + 1)) (i + 1) false := by
  rw [scan_to f n m b i h1 h2 h3 hq hs hb, show (i - b) % 2 = 1 from by omega]
  exact scan_esc f n i h3

/-- What both functions answer: found, and the place behind the quote; else the place where they began. -/
def okOf : Option Nat → Bool
  | some _ => true
  | none => false
def nextOf (pos : Nat) : Option Nat → Nat
  | some k => k + 1
  | none => pos
end Go.Proofs.Qxb6600865a.Sk

import Derived.Test.Qxb6601067aIdx
namespace Go.Proofs.Qxb6601067a
open Go.RowKit Go.PlainAid
set_option linter.unusedVariables false

set_option maxHeartbeats 1000000 in
/-- The model for an opening 60. -/
theorem model_target (s : ByteArray) (hs : s.size ≤ 65536) (w : World) :
    Calls Try.prog 15 #[.string s, .int .u8 60] w fun e w' => ∃ r : Nat, e = .returned (.int .i64 r) ∧ Sk.First (bt s) s.size r ∧ w' = w := by
  have hb := get_bt s
  go_enter Try.func15, Try.ntmps15
  go_wp2
  go_loop [5] (fun j => ∃ k : Nat, k ≤ s.size ∧ j = .int .i64 k ∧ Hid (∀ j, j < k → bt s j ≠ 62)) (fun j => s.size - (intOf j).toNat)
  case atStart => exact ⟨0, by omega, rfl, fun j h => by omega⟩
  case round =>
    obtain ⟨k, hk, rfl, hsc⟩ := hrel
    by_cases hkn : k < s.size
    · by_cases h1 : bt s k = 62
      · go_wp2
        go_ret
        exact ⟨k, rfl, ⟨by omega, fun _ => h1, hsc⟩, rfl⟩
      · go_wp2
        go_round
        case rel =>
          refine ⟨k + 1, by omega, by go_num, fun j hj => ?_⟩
          rcases Nat.lt_or_ge j k with h | h
          · exact hsc j h
          · rw [show j = k from by omega]; exact h1
        case measure => simp [intOf]; omega
    · go_wp2
      go_ret
      exact ⟨s.size, rfl, ⟨Nat.le_refl _, fun h => by omega, fun j hj => hsc j (by omega)⟩, rfl⟩

set_option maxHeartbeats 1000000 in
/-- The model for any other opening. -/
theorem model_quoted (s : ByteArray) (hs : s.size ≤ 65536) (c : Int) (hc : (c == 60) = false) (w : World) :
    Calls Try.prog 15 #[.string s, .int .u8 c] w fun e w' => e = .returned (.int .i64 (Sk.placeOf s.size (Sk.scan (bt s) s.size 0 false))) ∧ w' = w := by
  have hb := get_bt s
  obtain ⟨R, hR⟩ : ∃ R, Sk.scan (bt s) s.size 0 false = R := ⟨_, rfl⟩
  rw [hR]
  have HR : Hid _ := hR
  clear hR
  go_enter Try.func15, Try.ntmps15
  go_wp2
  go_loop [6] (fun j => ∃ k : Nat, k ≤ s.size ∧ j = .int .i64 k ∧ Hid (Sk.Inv (bt s) s.size k R)) (fun j => s.size - (intOf j).toNat)
  case atStart => exact ⟨0, by omega, rfl, Sk.inv_start _ _ _ HR.out⟩
  case round =>
    obtain ⟨i, hi, rfl, hinv⟩ := hrel
    by_cases hin : i < s.size
    · by_cases h1 : bt s i = 34
      · go_wp2
        go_loop [7, 8] (fun n j => ∃ (d : Nat) (jj : Int), d ≤ i ∧ n = .int .i64 d ∧ j = .int .i64 jj ∧ jj < i ∧ -1 ≤ jj ∧ Hid (jj = i - 1 - d) ∧ Hid (∀ x, i - d ≤ x → x < i → bt s x = 92)) (fun n _ => i - (intOf n).toNat)
        case atStart => exact ⟨0, (i : Int) - 1, by omega, rfl, rfl, by omega, by omega, show (i : Int) - 1 = i - 1 - ((0 : Nat) : Int) by omega, fun x h h2 => by omega⟩
        case round =>
          obtain ⟨d, jj, hd, rfl, rfl, hj1, hj2, hj3, hrun⟩ := hrel
          by_cases hj : jj < 0
          · have hr : Hid (Sk.RunAt (bt s) (i - d) i) := ⟨by omega, hrun, .inl (by have := hj3.out; omega)⟩
            go_wp2
            · go_ret
              have hp : d % 2 = 0 := by
                have h : (((d : Int) % 2 == 0) = true) := by assumption
                simp only [beq_iff_eq] at h
                omega
              rw [Sk.inv_quote_even _ _ i d R hin h1 hd hr hp hinv]
              exact ⟨by simp [Sk.placeOf], rfl⟩
            · go_round
              case rel =>
                have hp : d % 2 ≠ 0 := by
                  have h : (((d : Int) % 2 == 0) = false) := by assumption
                  simp only [beq_eq_false_iff_ne, ne_eq] at h
                  omega
                exact ⟨i + 1, by omega, by go_num, Sk.inv_quote_odd _ _ i d R hin h1 hd hr hp hinv⟩
              case measure => simp [intOf]; omega
          · obtain ⟨q, rfl⟩ := Int.eq_ofNat_of_zero_le (by omega : 0 ≤ jj)
            have hq : q < s.size := by omega
            by_cases h2 : bt s q = 92
            · go_wp2
              go_round
              case rel =>
                refine ⟨d + 1, (q : Int) - 1, by have := hj3.out; omega, by go_num, by go_num, by omega, by omega, by have := hj3.out; show (q : Int) - 1 = i - 1 - ((d + 1 : Nat) : Int); omega, fun x x1 x2 => ?_⟩
                have := hj3.out
                rcases Nat.lt_or_ge x (i - d) with h | h
                · rw [show x = q from by omega]; exact h2
                · exact hrun x h x2
              case measure => have := hj3.out; simp [intOf]; omega
            · have hr : Hid (Sk.RunAt (bt s) (i - d) i) := ⟨by omega, hrun, .inr (by have := hj3.out; rw [show i - d - 1 = q from by omega]; exact h2)⟩
              go_wp2
              · go_ret
                have hp : d % 2 = 0 := by
                  have h : (((d : Int) % 2 == 0) = true) := by assumption
                  simp only [beq_iff_eq] at h
                  omega
                rw [Sk.inv_quote_even _ _ i d R hin h1 hd hr hp hinv]
                exact ⟨by simp [Sk.placeOf], rfl⟩
              · go_round
                case rel =>
                  have hp : d % 2 ≠ 0 := by
                    have h : (((d : Int) % 2 == 0) = false) := by assumption
                    simp only [beq_eq_false_iff_ne, ne_eq] at h
                    omega
                  exact ⟨i + 1, by omega, by go_num, Sk.inv_quote_odd _ _ i d R hin h1 hd hr hp hinv⟩
                case measure => simp [intOf]; omega
      · go_wp2
        go_round
        case rel => exact ⟨i + 1, by omega, by go_num, Sk.inv_noquote _ _ i R hin h1 hinv⟩
        case measure => simp [intOf]; omega
    · have E : Hid (R = none) := Sk.inv_end _ _ i R (by omega) hinv
      go_wp2
      go_ret
      rw [E.out]
      exact ⟨by simp [Sk.placeOf], rfl⟩

end Go.Proofs.Qxb6601067a

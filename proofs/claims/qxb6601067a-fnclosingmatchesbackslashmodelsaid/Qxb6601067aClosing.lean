import Derived.Test.Qxb6601067aIdx
namespace Go.Proofs.Qxb6601067a
open Go.RowKit Go.PlainAid
set_option linter.unusedVariables false

set_option maxHeartbeats 1000000 in
/-- closing for an opening 60. -/
theorem closing_target (s : ByteArray) (hs : s.size ≤ 65536) (w : World) :
    Calls Try.prog 23 #[.string s, .int .u8 60] w fun e w' => ∃ r : Nat, e = .returned (.int .i64 r) ∧ Sk.First (bt s) s.size r ∧ w' = w := by
  have H : Hid _ := index_said s
  go_enter Try.func23, Try.ntmps23
  go_wp2_with fail
  refine (strings_IndexByte _ _ _).mono ?_
  rintro e w' ⟨rfl, rfl⟩
  rcases H.out with ⟨he, hf⟩ | ⟨o, he, hf⟩
  · rw [he]
    have HF : Hid _ := hf
    clear he hf
    go_wp2
    go_ret
    exact ⟨s.size, rfl, HF.out, rfl⟩
  · rw [he]
    have HF : Hid _ := hf
    have ho : (0 : Int) ≤ (o : Int) := by omega
    clear he hf
    go_wp2
    go_ret
    exact ⟨o, rfl, HF.out, rfl⟩

set_option maxHeartbeats 1000000 in
/-- closing for any other opening: the scanner with an escape flag. -/
theorem closing_quoted (s : ByteArray) (hs : s.size ≤ 65536) (c : Int) (hc : (c == 60) = false) (w : World) :
    Calls Try.prog 23 #[.string s, .int .u8 c] w fun e w' => e = .returned (.int .i64 (Sk.placeOf s.size (Sk.scan (bt s) s.size 0 false))) ∧ w' = w := by
  have hb := get_bt s
  obtain ⟨R, hR⟩ : ∃ R, Sk.scan (bt s) s.size 0 false = R := ⟨_, rfl⟩
  rw [hR]
  have HR : Hid _ := hR
  clear hR
  go_enter Try.func23, Try.ntmps23
  go_wp2
  go_loop [6] (fun j => ∃ k : Nat, k ≤ s.size + 1 ∧ j = .int .i64 k ∧ Sk.scan (bt s) (s.size - k) k false = R) (fun j => s.size + 2 - (intOf j).toNat)
  case atStart => exact ⟨0, by omega, rfl, HR.out⟩
  case round =>
    obtain ⟨k, hk, rfl, hsc⟩ := hrel
    have HS : Hid _ := hsc
    clear hsc
    by_cases hkn : k < s.size
    · by_cases h1 : bt s k = 92
      · go_wp2
        go_round
        case rel => exact ⟨k + 2, by omega, by go_num, (Sk.scan_two _ _ k hkn h1).symm.trans HS.out⟩
        case measure => simp [intOf]; omega
      · by_cases h2 : bt s k = 34
        · go_wp2
          go_ret
          have e := (Sk.scan_quote _ _ k hkn h2).symm.trans HS.out
          rw [← e]
          exact ⟨by simp [Sk.placeOf], rfl⟩
        · go_wp2
          go_round
          case rel => exact ⟨k + 1, by omega, by go_num, (Sk.scan_other _ _ k hkn h1 h2).symm.trans HS.out⟩
          case measure => simp [intOf]; omega
    · have E : Hid (none = R) := (Sk.scan_past_end _ _ k false (by omega)).symm.trans HS.out
      go_wp2
      go_ret
      rw [← E.out]
      exact ⟨by simp [Sk.placeOf], rfl⟩

end Go.Proofs.Qxb6601067a

import Derived.Test.Qxb6600865aPlain
import Derived.Test.Qxb6600865aIdx
namespace Go.Proofs.Qxb6600865a
open Go.RowKit
set_option linter.unusedVariables false

set_option maxHeartbeats 1000000 in
set_option maxRecDepth 100000 in
/-- zzb1ScanString is the escape scanner. -/
theorem scan_calls (g n cap pos : Nat) (f : Nat → Int) (hn : n ≤ 1048576) (hp : pos < n) (w : World) (hc : ∀ i, i < n → w.cell? ⟨g, i, none⟩ = some (.int .u8 (f i))) :
    Calls Try.prog 18 #[.slice (some ⟨g, 0, none⟩) n cap, .int .i64 pos] w fun e w' =>
      e = .returned (.tuple #[.bool (Sk.okOf (Sk.scan f (n - (pos + 1)) (pos + 1) false)), .int .i64 (Sk.nextOf pos (Sk.scan f (n - (pos + 1)) (pos + 1) false))]) ∧ w' = w := by
  have HC : Hid _ := hc
  clear hc
  obtain ⟨R, hR⟩ : ∃ R, Sk.scan f (n - (pos + 1)) (pos + 1) false = R := ⟨_, rfl⟩
  rw [hR]
  have HR : Hid _ := hR
  clear hR
  go_enter Try.func18, Try.ntmps18
  go_wp2
  go_loop [6, 7] (fun e j => ∃ (k : Nat) (b : Bool), pos + 1 ≤ k ∧ k ≤ n ∧ j = .int .i64 k ∧ e = .bool b ∧ Sk.scan f (n - k) k b = R) (fun _ j => n - (intOf j).toNat)
  case atStart => exact ⟨pos + 1, false, by omega, by omega, by go_num, rfl, HR.out⟩
  case round =>
    obtain ⟨k, b, hk1, hk2, rfl, rfl, hs⟩ := hrel
    have HS : Hid _ := hs
    clear hs
    by_cases hkn : k < n
    · have g1 := HC.out k hkn
      obtain ⟨c, hcc⟩ : ∃ c, f k = c := ⟨_, rfl⟩
      rw [hcc] at g1
      have Hcc : Hid _ := hcc
      clear hcc
      cases b
      · by_cases h1 : c = 92
        · subst h1
          go_wp2
          go_round
          case rel => exact ⟨k + 1, true, by omega, by omega, by go_num, rfl, (Sk.scan_back f n k hkn Hcc.out).symm.trans HS.out⟩
          case measure => simp [intOf]; omega
        · by_cases h2 : c = 34
          · subst h2
            go_wp2
            go_ret2
            have e := (Sk.scan_quote f n k hkn Hcc.out).symm.trans HS.out
            rw [← e]
            exact ⟨by simp [Sk.okOf, Sk.nextOf], rfl⟩
          · go_wp2
            go_round
            case rel => exact ⟨k + 1, false, by omega, by omega, by go_num, rfl, (Sk.scan_other f n k hkn (by rw [Hcc.out]; exact h1) (by rw [Hcc.out]; exact h2)).symm.trans HS.out⟩
            case measure => simp [intOf]; omega
      · go_wp2
        go_round
        case rel => exact ⟨k + 1, false, by omega, by omega, by go_num, rfl, (Sk.scan_esc f n k hkn).symm.trans HS.out⟩
        case measure => simp [intOf]; omega
    · have e : none = R := by
        have h := HS.out
        rw [show n - k = 0 from by omega, Sk.scan_end] at h
        exact h
      go_wp2
      go_ret2
      rw [← e]
      exact ⟨by simp [Sk.okOf, Sk.nextOf], rfl⟩

end Go.Proofs.Qxb6600865a

import Derived.Test.Qxb6600865aPlain
import Derived.Test.Qxb6600865aIdx
namespace Go.Proofs.Qxb6600865a
open Go.RowKit
set_option linter.unusedVariables false

set_option maxHeartbeats 1000000 in
set_option maxRecDepth 100000 in
theorem skip_calls (pb g n pos : Nat) (f : Nat → Int) (hn : n ≤ 1048576) (hp : pos < n) (hf : ∀ i, i < n → 0 ≤ f i ∧ f i ≤ 255) (w : World)
    (hd : w.cell? ⟨pb, 0, none⟩ = some (.slice (some ⟨g, 0, none⟩) n n)) (hq : w.cell? ⟨pb, 1, none⟩ = some (.int .i64 pos)) (hz : w.frozen? ⟨pb, 1, none⟩ = false)
    (hc : ∀ i, i < n → w.cell? ⟨g, i, none⟩ = some (.int .u8 (f i))) :
    Calls Try.prog 30 #[.pointer (some ⟨pb, 0, none⟩)] w fun e w' =>
      e = .returned (.bool (Sk.okOf (Sk.scan f (n - (pos + 1)) (pos + 1) false))) ∧ w'.cell? ⟨pb, 1, none⟩ = some (.int .i64 (Sk.nextOf pos (Sk.scan f (n - (pos + 1)) (pos + 1) false))) ∧ Below pb w w' := by
  have HC : Hid _ := hc
  have HF : Hid _ := hf
  clear hc hf
  obtain ⟨R, hR⟩ : ∃ R, Sk.scan f (n - (pos + 1)) (pos + 1) false = R := ⟨_, rfl⟩
  rw [hR]
  have HR : Hid _ := hR
  clear hR
  go_enter Try.func30, Try.ntmps30
  go_wp2
  go_loop [3] (fun j => ∃ m : Nat, pos + 1 ≤ m ∧ m ≤ n ∧ j = .int .i64 m ∧ Sk.scan f (n - m) m false = R ∧ Hid (m = pos + 1 ∨ f (m - 1) = 34)) (fun j => n + 1 - (intOf j).toNat)
  case atStart => exact ⟨pos + 1, by omega, by omega, by go_num, HR.out, .inl rfl⟩
  case round =>
    obtain ⟨m, hm1, hm2, rfl, hs, hm3⟩ := hrel
    have HS : Hid _ := hs
    clear hs
    by_cases hmn : m < n
    · go_wp2_with fail
      refine (quote_IndexByte g m (n - m) _ f w (fun j hj => HF.out (m + j) (by omega)) (fun j hj => HC.out (m + j) (by omega))).mono ?_
      rintro e w1 ⟨q, rfl, rfl, hqq⟩
      rcases hqq with ⟨rfl, hno⟩ | ⟨o, rfl, ho1, ho2, ho3⟩
      · have e : none = R := by
          have h := HS.out
          rw [Sk.scan_none f n (n - m) m false rfl (fun j j1 j2 => by have := hno (j - m) (by omega); rw [show m + (j - m) = j from by omega] at this; exact this)] at h
          exact h
        clear hno
        go_wp2
        go_ret
        rw [← e]
        exact ⟨by simp [Sk.okOf], by simpa [Sk.nextOf] using hq, Below.refl _ _⟩
      · have HO2 : Hid _ := ho2
        have HO3 : Hid _ := ho3
        clear ho2 ho3
        have HNQ : Hid (∀ j, m ≤ j → j < m + o → f j ≠ 34) := fun j j1 j2 => by have h := HO3.out (j - m) (by omega); rw [show m + (j - m) = j from by omega] at h; exact h
        go_wp2_with fail
        go_loop [5] (fun t => ∃ b : Nat, m ≤ b ∧ b ≤ m + o ∧ t = .int .i64 b ∧ Hid (∀ j, b ≤ j → j < m + o → f j = 92)) (fun t => (intOf t).toNat)
        case atStart => exact ⟨m + o, by omega, by omega, by go_num, fun j h1 h2 => by omega⟩
        case round =>
          obtain ⟨b, hb1, hb2, rfl, hb3⟩ := hrel
          by_cases hbp : pos + 1 < b
          · obtain ⟨b', rfl⟩ : ∃ b', b = b' + 1 := ⟨b - 1, by omega⟩
            have g1 := HC.out b' (by omega)
            obtain ⟨c, hcc⟩ : ∃ c, f b' = c := ⟨_, rfl⟩
            rw [hcc] at g1
            have Hcc : Hid _ := hcc
            clear hcc
            by_cases h92 : c = 92
            · subst h92
              go_wp2_with fail
              go_round
              case rel =>
                refine ⟨b', ?_, by omega, by go_num, fun j h1 h2 => ?_⟩
                · rcases hm3 with h | h
                  · omega
                  · rcases Nat.lt_or_ge b' m with hlt | hge
                    · have e := Hcc.out
                      rw [show m - 1 = b' from by omega] at h
                      omega
                    · exact hge
                · rcases Nat.eq_or_lt_of_le h1 with rfl | h3
                  · exact Hcc.out
                  · exact hb3 j (by omega) h2
              case measure => simp [intOf]
            · have hbb : b' + 1 = m ∨ f (b' + 1 - 1) ≠ 92 := .inr (by rw [show b' + 1 - 1 = b' from by omega, Hcc.out]; exact h92)
              have HBB : Hid _ := hbb
              clear hbb
              have hfin : Hid ((m + o - (b' + 1)) % 2 = 0 → R = some (m + o)) := fun hr => HS.out.symm.trans (Sk.scan_even f n m (b' + 1) (m + o) hb1 hb2 (by omega) HNQ.out HO2.out hb3 HBB.out hr)
              have hodd : Hid ((m + o - (b' + 1)) % 2 ≠ 0 → Sk.scan f (n - (m + o + 1)) (m + o + 1) false = R) := fun hr => (Sk.scan_odd f n m (b' + 1) (m + o) hb1 hb2 (by omega) HNQ.out hb3 HBB.out hr).symm.trans HS.out
              go_wp2_with fail
              · go_ret
                have hpar : (m + o - (b' + 1)) % 2 = 0 := by
                  have h : ((((m : Int) + (o : Int) - ((b' : Int) + 1)) % 2 == 0) = true) := by assumption
                  simp only [beq_iff_eq] at h
                  omega
                rw [hfin.out hpar]
                exact ⟨rfl, by simp [Sk.nextOf, World.cell?_setCell_same, hq], (Below.refl pb _).setCell (p := ⟨pb, 1, none⟩) (Nat.le_refl _) _⟩
              · go_round
                case rel =>
                  have hpar : (m + o - (b' + 1)) % 2 ≠ 0 := by
                    have h : ((((m : Int) + (o : Int) - ((b' : Int) + 1)) % 2 == 0) = false) := by assumption
                    simp only [beq_eq_false_iff_ne, ne_eq] at h
                    omega
                  exact ⟨m + o + 1, by omega, by omega, by go_num, hodd.out hpar, .inr (by simpa using HO2.out)⟩
                case measure => simp [intOf]; omega
          · have hbb : b = m ∨ f (b - 1) ≠ 92 := .inl (by omega)
            have HBB : Hid _ := hbb
            clear hbb
            have hfin : Hid ((m + o - b) % 2 = 0 → R = some (m + o)) := fun hr => HS.out.symm.trans (Sk.scan_even f n m b (m + o) hb1 hb2 (by omega) HNQ.out HO2.out hb3 HBB.out hr)
            have hodd : Hid ((m + o - b) % 2 ≠ 0 → Sk.scan f (n - (m + o + 1)) (m + o + 1) false = R) := fun hr => (Sk.scan_odd f n m b (m + o) hb1 hb2 (by omega) HNQ.out hb3 HBB.out hr).symm.trans HS.out
            go_wp2_with fail
            · go_ret
              have hpar : (m + o - b) % 2 = 0 := by
                have h : ((((m : Int) + (o : Int) - (b : Int)) % 2 == 0) = true) := by assumption
                simp only [beq_iff_eq] at h
                omega
              rw [hfin.out hpar]
              exact ⟨rfl, by simp [Sk.nextOf, World.cell?_setCell_same, hq], (Below.refl pb _).setCell (p := ⟨pb, 1, none⟩) (Nat.le_refl _) _⟩
            · go_round
              case rel =>
                have hpar : (m + o - b) % 2 ≠ 0 := by
                  have h : ((((m : Int) + (o : Int) - (b : Int)) % 2 == 0) = false) := by assumption
                  simp only [beq_eq_false_iff_ne, ne_eq] at h
                  omega
                exact ⟨m + o + 1, by omega, by omega, by go_num, hodd.out hpar, .inr (by simpa using HO2.out)⟩
              case measure => simp [intOf]; omega
    · have E : Hid (none = R) := by
        have h := HS.out
        rw [show n - m = 0 from by omega, Sk.scan_end] at h
        exact h
      go_wp2_with fail
      refine (quote_IndexByte g 0 (n - m) _ f w (fun j hj => absurd hj (by omega)) (fun j hj => absurd hj (by omega))).mono ?_
      rintro e w1 ⟨q, rfl, rfl, hqq⟩
      rcases hqq with ⟨rfl, hno⟩ | ⟨o, rfl, ho1, ho2, ho3⟩
      · clear hno
        go_wp2
        go_ret
        rw [← E.out]
        exact ⟨by simp [Sk.okOf], by simpa [Sk.nextOf] using hq, Below.refl _ _⟩
      · exact absurd ho1 (by omega)
end Go.Proofs.Qxb6600865a

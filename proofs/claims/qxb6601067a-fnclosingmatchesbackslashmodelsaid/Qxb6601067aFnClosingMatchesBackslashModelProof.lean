/-
  The law FnClosingMatchesBackslashModel: the walk by the contracts of its callees, and the row (the seat's shell).
-/
import Derived.Test.Qxb6601067aRows
import Derived.Test.Qxb6601067aClosing
import Derived.Test.Qxb6601067aModel
import Derived.Test.Qxb6601067aFacts
import Derived.WalkKit
import Derived.ProofKit
import Derived.OpenShut
import Derived.ShutString
namespace Go.Proofs.Qxb6601067a.fnClosingMatchesBackslashModel
open Go.ChangeShapes Go.WideShapes Go.ChangeAt Go.RowKit
open Go.ChangeMaps (open_string shut_string)
set_option linter.unusedVariables false      -- a walk need not use every 'w<i>' (that an integer argument fits its kind)

theorem own : ownKnob Try.prog.godebug = none := by kernel_rfl

/-! ### THE WALK -/
open Go.PlainAid
theorem zzBytes_calls (s : ByteArray) (x : Int) (hn : s.size ≤ 1048576) (w : World) :
    Calls Try.prog 13 #[.string s, .int .u8 x] w fun e w' => e = .returned (.bool true) ∧ w' = w := by
  go_enter Try.func13, Try.ntmps13
  go_wp2
  go_ret
  exact ⟨rfl, rfl⟩
theorem zzBytes_calls_no (s : ByteArray) (x : Int) (hs : s.size ≤ maxLen) (hn : ¬ s.size ≤ 1048576) (w : World) :
    Calls Try.prog 13 #[.string s, .int .u8 x] w fun e w' => e = .returned (.bool false) ∧ w' = w := by
  unfold maxLen at hs
  go_enter Try.func13, Try.ntmps13
  go_wp2
  go_ret
  exact ⟨rfl, rfl⟩

theorem walk_long (s : ByteArray) (c : Int) (hs : s.size ≤ maxLen) (hn : ¬ s.size ≤ 65536) (w : World) :
    Calls Try.prog 5 #[.string s, .int .u8 c] w fun e w' => e = .returned (.bool true) ∧ w' = w := by
  by_cases hb : s.size ≤ 1048576
  · go_enter Try.func5, Try.ntmps5
    go_wp2_with (go_at_call 13; refine (zzBytes_calls _ _ hb _).mono ?_; rintro e w' ⟨rfl, rfl⟩)
    go_ret
    exact ⟨rfl, rfl⟩
  · have HS : Hid _ := hs
    clear hs
    go_enter Try.func5, Try.ntmps5
    go_wp2_with (go_at_call 13; refine (zzBytes_calls_no _ _ HS.out hb _).mono ?_; rintro e w' ⟨rfl, rfl⟩)
    go_ret
    exact ⟨rfl, rfl⟩

theorem ZZclosing_target (s : ByteArray) (hs : s.size ≤ 65536) (w : World) :
    Calls Try.prog 14 #[.string s, .int .u8 60] w fun e w' => ∃ r : Nat, e = .returned (.int .i64 r) ∧ Sk.First (bt s) s.size r ∧ w' = w := by
  go_enter Try.func14, Try.ntmps14
  go_wp2_with fail
  refine (closing_target s hs _).mono ?_
  rintro e w' ⟨r, rfl, hr, rfl⟩
  have HR : Hid _ := hr
  clear hr
  go_wp2
  go_ret
  exact ⟨r, rfl, HR.out, rfl⟩

theorem ZZclosing_quoted (s : ByteArray) (hs : s.size ≤ 65536) (c : Int) (hc : (c == 60) = false) (w : World) :
    Calls Try.prog 14 #[.string s, .int .u8 c] w fun e w' => e = .returned (.int .i64 (Sk.placeOf s.size (Sk.scan (bt s) s.size 0 false))) ∧ w' = w := by
  go_enter Try.func14, Try.ntmps14
  go_wp2_with fail
  refine (closing_quoted s hs c hc _).mono ?_
  rintro e w' ⟨rfl, rfl⟩
  go_wp2
  go_ret
  exact ⟨rfl, rfl⟩

theorem walk_target (s : ByteArray) (hs : s.size ≤ 65536) (w : World) :
    Calls Try.prog 5 #[.string s, .int .u8 60] w fun e w' => e = .returned (.bool true) ∧ w' = w := by
  go_enter Try.func5, Try.ntmps5
  go_wp2_with fail
  refine (zzBytes_calls _ _ (by omega) _).mono ?_
  rintro e w' ⟨rfl, rfl⟩
  go_wp2_with fail
  refine (ZZclosing_target s hs _).mono ?_
  rintro e w1 ⟨r, rfl, hr, rfl⟩
  have HR : Hid _ := hr
  clear hr
  go_wp2_with fail
  refine (model_target s hs _).mono ?_
  rintro e w2 ⟨q, rfl, hq, rfl⟩
  obtain rfl := Sk.First.unique HR.out hq
  clear HR hq
  go_wp2
  go_ret
  exact ⟨by simp, rfl⟩

theorem walk_quoted (s : ByteArray) (hs : s.size ≤ 65536) (c : Int) (hc : (c == 60) = false) (w : World) :
    Calls Try.prog 5 #[.string s, .int .u8 c] w fun e w' => e = .returned (.bool true) ∧ w' = w := by
  have H1 : Hid (∀ w, _) := fun w => ZZclosing_quoted s hs c hc w
  have H2 : Hid (∀ w, _) := fun w => model_quoted s hs c hc w
  generalize Sk.placeOf s.size (Sk.scan (bt s) s.size 0 false) = r at H1 H2
  go_enter Try.func5, Try.ntmps5
  go_wp2_with fail
  refine (zzBytes_calls _ _ (by omega) _).mono ?_
  rintro e w' ⟨rfl, rfl⟩
  go_wp2_with fail
  refine Calls.mono (H1.out _) ?_
  rintro e w1 ⟨rfl, rfl⟩
  go_wp2_with fail
  refine Calls.mono (H2.out _) ?_
  rintro e w2 ⟨rfl, rfl⟩
  go_wp2
  go_ret
  exact ⟨by simp, rfl⟩

theorem walk (a0 : ByteArray) (a1 : Int) (w0 : a0.size ≤ maxLen) (w1 : (Lit.int .u8 a1).wf = true) (w : World) :
    Calls Try.prog 5 #[.string a0, .int .u8 a1] w fun e w' => e = .returned (.bool true) ∧ Grown w w' := by
  by_cases hn : a0.size ≤ 65536
  · by_cases hc : a1 = 60
    · subst hc
      refine (walk_target a0 hn w).mono ?_
      rintro e w' ⟨rfl, rfl⟩
      exact ⟨rfl, Grown.refl _⟩
    · refine (walk_quoted a0 hn a1 (by simpa using hc) w).mono ?_
      rintro e w' ⟨rfl, rfl⟩
      exact ⟨rfl, Grown.refl _⟩
  · refine (walk_long a0 a1 w0 hn w).mono ?_
    rintro e w' ⟨rfl, rfl⟩
    exact ⟨rfl, Grown.refl _⟩

/-! ### THE ROW's STEP: WRITTEN OUT: LEAVE IT -/
set_option maxRecDepth 100000 in
theorem lifted (os : Os) (started : os.Started) (H : Type) (enc : TypeId × Value → H) :
    ReturnsInHanded {} Try.checked os 5 .any (Rows.fnClosingMatchesBackslashModelSpec.pre6 enc Try.prog Try.f5 Rows.fnClosingMatchesBackslashModelRow.domain false) (Rows.fnClosingMatchesBackslashModelSpec.post enc Try.prog Try.f5 false true false false) := by
  refine returnsInHanded_of_change (C := Try.checked) own started (by kernel_rfl) Try.func5
    (ChangeSpec.witness6 (enc := enc) (C := Try.checked) false ⟨#[], #[.string ByteArray.empty, .int .u8 0], []⟩ 8 (by kernel_rfl) (by kernel_rfl) (by kernel_rfl) (by kernel_rfl)) ?_
  intro W base args ds gs before hval0 hW hcnd _
  have hval : ∀ (j : Nat) t v, Try.f5.params[j]? = some t → args[j]? = some v → Value.okWide Try.prog W .any base t v := hval0
  have hW' := hW
  obtain ⟨p, q, hA0, hV, rfl, hfz, hnd⟩ := hW
  have hA : DataW.TrodAll enc Try.prog W 0 (fun _ => true) true Try.f5.params.toList args.toList ds p := hA0
  rw [Try.params5] at hA hval
  obtain ⟨v0, vs0, d0, ds0, p0, q0, hargs, rfl, rfl, h0, r0⟩ := trodAll_cons hA
  obtain ⟨v1, vs1, d1, ds1, p1, q1, rfl, rfl, rfl, h1, r1⟩ := trodAll_cons r0
  obtain ⟨rfl, rfl, rfl⟩ := trodAll_nil r1
  obtain rfl : args = #[v0, v1] := by cases args; simp_all
  obtain ⟨rfl, rfl⟩ := trodVars_none hV
  obtain ⟨a0, rfl, rfl, rfl, w0⟩ := open_string Try.underlying9 (hval 0 9 v0 rfl rfl) h0
  obtain ⟨a1, rfl, rfl, rfl, w1⟩ := open_int Try.underlying5 (hval 1 5 v1 rfl rfl) h1
  clear hA0 hval0
  simp only [List.append_nil] at hW'
  refine (walk a0 a1 w0 w1 W).mono fun e W' ⟨he, hg⟩ => ?_
  subst he
  exact ⟨_, rfl, post_of_same (pa := []) (pv := []) hW' (fun _ _ _ => (trodAll_cons_mk (shut_bool Try.underlying4 _) trodAll_mk0)) (fun sp _ => (trodAll_cons_mk (shut_string Try.underlying9 w0) (trodAll_cons_mk (shut_int Try.underlying5 w1) trodAll_mk0))) (fun _ _ => rfl) rfl
    (hg.frame _) hg.2.1 (ok_one (by kernel_rfl) rfl (okWide_bool_mk Try.underlying4 _))⟩

theorem over : Rows.fnClosingMatchesBackslashModelRow.holds Try.pinned (OpenSpec.ofChange Rows.fnClosingMatchesBackslashModelSpec) :=
  OpenClaim.holds_of_wide 5 Try.f5 rfl rfl rfl rfl rfl rfl rfl ⟨rfl, rfl, rfl, rfl, rfl⟩ rfl rfl rfl rfl rfl (by kernel_rfl) Try.func5 facts
    (of_decide_eq_true (by kernel_rfl)) (by unfold Func.isWrapper; first | (rw [if_pos (by decide +kernel)]; kernel_rfl) | (rw [if_neg (by decide +kernel)]; exact ⟨rfl, rfl⟩))
    (fun os started H enc _ => lifted os started H enc)

/-- ████ THE STATEMENT ████ -/
theorem proved : Rows.FnClosingMatchesBackslashModelSaid :=
  over
end Go.Proofs.Qxb6601067a.fnClosingMatchesBackslashModel

/-
  The law FnFixedEndsAgreesWithWordSpec: the walk by the contracts of its callees, and the row (the seat's shell, with 'Below' in the place of 'Grown').
-/
import Derived.Test.Qxb6601295aRows
import Derived.Test.Qxb6601295aModel
import Derived.Test.Qxb6601295aEnds
import Derived.Test.Qxb6601295aFacts
import Derived.Below
import Derived.WalkKit
import Derived.ProofKit
import Derived.OpenShut
import Derived.ShutString
namespace Go.Proofs.Qxb6601295a.fnFixedEndsAgreesWithWordSpec
open Go.ChangeShapes Go.WideShapes Go.ChangeAt Go.RowKit
open Go.ChangeMaps (open_string shut_string)
set_option linter.unusedVariables false      -- a walk need not use every 'w<i>' (that an integer argument fits its kind)

theorem own : ownKnob Try.prog.godebug = none := by kernel_rfl

/-! ### THE PLAIN LAW: one answer for both -/
open Go.PlainAid
theorem split_len : ∀ (l : List UInt8), (Fe.split l).length ≤ l.length + 1
  | [] => by simp [Fe.split]
  | c :: l => by
    have ih := split_len l
    unfold Fe.split
    by_cases hc : c = 46
    · rw [if_pos hc]; simp; omega
    · rw [if_neg hc]
      cases hs : Fe.split l with
      | nil => simp
      | cons w r => rw [hs] at ih; simp at ih ⊢; omega
theorem one_answer (l : List UInt8) (hl : l.length ≤ 65536) : ∃ P S, Tells l P S ∧ Says l (Fe.split l) P S := by
  rcases Fe.ends l with ⟨h1, h2⟩ | ⟨A, B, y, C, h1, h2, h3, h4, h5, h6, h7, h8, h9, h10, h11, h12⟩
  · exact ⟨l, l, .inl ⟨h1, rfl, rfl⟩, .inl ⟨h2, rfl, rfl⟩⟩
  · have hA : (Fe.join A).length ≤ 65536 := by
      by_cases hA0 : A = []
      · subst hA0; simp [Fe.join]
      · rw [Fe.joinDot_join A hA0] at h10; simp at h10; omega
    have hC : (Fe.join C).length ≤ 65536 := by
      by_cases hC0 : C = []
      · subst hC0; simp [Fe.join]
      · rw [if_neg hC0] at h12
        have := congrArg List.length h12
        simp at this
        omega
    refine ⟨Fe.join A, Fe.join C, .inr ⟨_, _, h1, h3, h10, h11, ?_, ?_, hA, hC⟩, .inr ⟨A, B, C, h2, h4, h5, h6, h7, h8, rfl, rfl, hA, hC⟩⟩
    · by_cases hA0 : A = []
      · subst hA0; exact .inl ⟨rfl, rfl⟩
      · exact .inr (by rw [h9, Fe.joinDot_join A hA0])
    · by_cases hC0 : C = []
      · rw [if_pos hC0] at h12
        subst hC0
        refine .inl ⟨?_, rfl⟩
        have := congrArg List.length h12
        simp at this
        omega
      · rw [if_neg hC0] at h12
        exact .inr h12

/-! ### THE WALK -/
theorem walk_long (s : ByteArray) (c : Int) (b : Bool) (hs : s.size ≤ maxLen) (hn : ¬ s.size ≤ 65536) (w : World) :
    Calls Try.prog 6 #[.string s, .int .u8 c, .bool b] w fun e w' => e = .returned (.bool true) ∧ w' = w := by
  by_cases hb : s.size ≤ 1048576
  · go_enter Try.func6, Try.ntmps6
    go_wp2_with (go_at_call 19; refine (zzBytes_calls _ _ _ hb _).mono ?_; rintro e w' ⟨rfl, rfl⟩)
    go_ret
    exact ⟨rfl, rfl⟩
  · have HS : Hid _ := hs
    clear hs
    go_enter Try.func6, Try.ntmps6
    go_wp2_with (go_at_call 19; refine (zzBytes_calls_no _ _ _ HS.out hb _).mono ?_; rintro e w' ⟨rfl, rfl⟩)
    go_ret
    exact ⟨rfl, rfl⟩

set_option maxHeartbeats 1000000 in
theorem walk_routing (s : ByteArray) (b : Bool) (hn : s.size ≤ 65536) (w : World) :
    Calls Try.prog 6 #[.string s, .int .u8 3, .bool b] w fun e w' => e = .returned (.bool true) ∧ Below w.heap.size w w' := by
  obtain ⟨P, S, hT, hS⟩ := one_answer s.data.toList (by simpa using hn)
  have H1 : Hid (∀ w, _) := fun w => ZZfixed_calls s 3 b (strV P) (strV S) w (fun w1 c0 c1 c2 c3 hlt => fixed_routing _ s hn P S hT w1 c0 c2)
  have H2 : Hid (∀ w, _) := fun w => model_routing s hn b P S (by have := split_len s.data.toList; simp at this; omega) hS w
  clear hT hS
  have H3 : Hid (strV P = .string ⟨P.toArray⟩) := rfl
  have H4 : Hid (strV S = .string ⟨S.toArray⟩) := rfl
  rw [H3.out, H4.out] at H1 H2
  clear H3 H4
  go_enter Try.func6, Try.ntmps6
  go_wp2_with fail
  refine (zzBytes_calls _ _ _ (by omega) _).mono ?_
  rintro e w' ⟨rfl, rfl⟩
  go_wp2_with fail
  refine Calls.mono (H1.out _) ?_
  rintro e w1 ⟨rfl, hb1⟩
  go_wp2_with fail
  refine Calls.mono (H2.out _) ?_
  rintro e w2 ⟨rfl, hb2⟩
  have hb := hb1.trans (hb2.mono hb1.size)
  clear hb1 hb2
  go_wp2
  go_ret
  exact ⟨by simp, hb⟩

set_option maxHeartbeats 1000000 in
theorem walk_plain (s : ByteArray) (c : Int) (hc : ¬ c = 3) (hn : s.size ≤ 65536) (w : World) :
    Calls Try.prog 6 #[.string s, .int .u8 c, .bool false] w fun e w' => e = .returned (.bool true) ∧ Below w.heap.size w w' := by
  have H1 : Hid (∀ w, _) := fun w => ZZfixed_calls s c false (.string s) (.string s) w (fun w1 c0 c1 c2 c3 hlt => fixed_plain _ s c hc w1 c0 c2 c3)
  have hc1 : (c == 3) = false := by simpa using hc
  go_enter Try.func6, Try.ntmps6
  go_wp2_with fail
  refine (zzBytes_calls _ _ _ (by omega) _).mono ?_
  rintro e w' ⟨rfl, rfl⟩
  go_wp2_with fail
  refine Calls.mono (H1.out _) ?_
  rintro e w1 ⟨rfl, hb1⟩
  go_wp2_with fail
  refine (model_plain s _).mono ?_
  rintro e w2 ⟨rfl, rfl⟩
  go_wp2
  go_ret
  exact ⟨by simp, hb1⟩

set_option maxHeartbeats 1000000 in
theorem walk_empty (s : ByteArray) (c : Int) (hc : ¬ c = 3) (hn : s.size = 0) (w : World) :
    Calls Try.prog 6 #[.string s, .int .u8 c, .bool true] w fun e w' => e = .returned (.bool true) ∧ w' = w := by
  have hc1 : (c == 3) = false := by simpa using hc
  go_enter Try.func6, Try.ntmps6
  go_wp2_with fail
  refine (zzBytes_calls _ _ _ (by omega) _).mono ?_
  rintro e w' ⟨rfl, rfl⟩
  go_wp2
  go_ret
  exact ⟨rfl, rfl⟩

set_option maxHeartbeats 1000000 in
theorem walk_star (s : ByteArray) (c : Int) (hc : ¬ c = 3) (h0 : 1 ≤ s.size) (hs : s.size ≤ 65536) (w : World) :
    Calls Try.prog 6 #[.string s, .int .u8 c, .bool true] w fun e w' => e = .returned (.bool true) ∧ Below w.heap.size w w' := by
  have hc1 : (c == 3) = false := by simpa using hc
  have hz : ((s.size : Int) == 0) = false := beq_eq_false_iff_ne.2 (by omega)
  have H1 : Hid (∀ w, _) := fun w => ZZfixed_calls s c true (.string (s.extract 0 (s.size - 1))) (.string ⟨#[]⟩) w (fun w1 c0 c1 c2 c3 hlt => fixed_cut _ s (s.size - 1) (by omega) (by omega) c hc w1 hlt c0 c1 c2 c3)
  have H2 : Hid (∀ w, _) := fun w => model_cut s (by omega) (by omega) w
  go_enter Try.func6, Try.ntmps6
  go_wp2_with fail
  refine (zzBytes_calls _ _ _ (by omega) _).mono ?_
  rintro e w' ⟨rfl, rfl⟩
  go_wp2_with fail
  · go_ret
    exact ⟨rfl, Below.refl _ _⟩
  · refine Calls.mono (H1.out _) ?_
    rintro e w1 ⟨rfl, hb1⟩
    go_wp2_with fail
    refine Calls.mono (H2.out _) ?_
    rintro e w2 ⟨rfl, rfl⟩
    go_wp2
    go_ret
    exact ⟨by simp, hb1⟩

theorem walk (a0 : ByteArray) (a1 : Int) (a2 : Bool) (w0 : a0.size ≤ maxLen) (w1 : (Lit.int .u8 a1).wf = true) (w : World) :
    Calls Try.prog 6 #[.string a0, .int .u8 a1, .bool a2] w fun e w' => e = .returned (.bool true) ∧ Below w.heap.size w w' := by
  by_cases hn : a0.size ≤ 65536
  · by_cases hc : a1 = 3
    · subst hc
      exact walk_routing a0 a2 hn w
    · cases a2 with
      | false => exact walk_plain a0 a1 hc hn w
      | true =>
        by_cases h0 : a0.size = 0
        · refine (walk_empty a0 a1 hc h0 w).mono ?_
          rintro e w' ⟨rfl, rfl⟩
          exact ⟨rfl, Below.refl _ _⟩
        · exact walk_star a0 a1 hc (by omega) hn w
  · refine (walk_long a0 a1 a2 w0 hn w).mono ?_
    rintro e w' ⟨rfl, rfl⟩
    exact ⟨rfl, Below.refl _ _⟩

/-! ### THE ROW's STEP: WRITTEN OUT: LEAVE IT -/
set_option maxRecDepth 100000 in
theorem lifted (os : Os) (started : os.Started) (H : Type) (enc : TypeId × Value → H) :
    ReturnsInHanded {} Try.checked os 6 .any (Rows.fnFixedEndsAgreesWithWordSpecSpec.pre6 enc Try.prog Try.f6 Rows.fnFixedEndsAgreesWithWordSpecRow.domain false) (Rows.fnFixedEndsAgreesWithWordSpecSpec.post enc Try.prog Try.f6 false true false false) := by
  refine returnsInHanded_of_change (C := Try.checked) own started (by kernel_rfl) Try.func6
    (ChangeSpec.witness6 (enc := enc) (C := Try.checked) false ⟨#[], #[.string ByteArray.empty, .int .u8 0, .bool false], []⟩ 8 (by kernel_rfl) (by kernel_rfl) (by kernel_rfl) (by kernel_rfl)) ?_
  intro W base args ds gs before hval0 hW hcnd _
  have hval : ∀ (j : Nat) t v, Try.f6.params[j]? = some t → args[j]? = some v → Value.okWide Try.prog W .any base t v := hval0
  have hW' := hW
  obtain ⟨p, q, hA0, hV, rfl, hfz, hnd⟩ := hW
  have hA : DataW.TrodAll enc Try.prog W 0 (fun _ => true) true Try.f6.params.toList args.toList ds p := hA0
  rw [Try.params6] at hA hval
  obtain ⟨v0, vs0, d0, ds0, p0, q0, hargs, rfl, rfl, h0, r0⟩ := trodAll_cons hA
  obtain ⟨v1, vs1, d1, ds1, p1, q1, rfl, rfl, rfl, h1, r1⟩ := trodAll_cons r0
  obtain ⟨v2, vs2, d2, ds2, p2, q2, rfl, rfl, rfl, h2, r2⟩ := trodAll_cons r1
  obtain ⟨rfl, rfl, rfl⟩ := trodAll_nil r2
  obtain rfl : args = #[v0, v1, v2] := by cases args; simp_all
  obtain ⟨rfl, rfl⟩ := trodVars_none hV
  obtain ⟨a0, rfl, rfl, rfl, w0⟩ := open_string Try.underlying9 (hval 0 9 v0 rfl rfl) h0
  obtain ⟨a1, rfl, rfl, rfl, w1⟩ := open_int Try.underlying5 (hval 1 5 v1 rfl rfl) h1
  obtain ⟨a2, rfl, rfl, rfl⟩ := open_bool Try.underlying4 (hval 2 4 v2 rfl rfl) h2
  clear hA0 hval0
  simp only [List.append_nil] at hW'
  refine (walk a0 a1 a2 w0 w1 W).mono fun e W' ⟨he, bel⟩ => ?_
  subst he
  exact ⟨_, rfl, _, _, _, [], _, [], hW', trodAll_mk1 (shut_bool Try.underlying4 _), (trodAll_cons_mk (shut_string Try.underlying9 w0) (trodAll_cons_mk (shut_int Try.underlying5 w1) (trodAll_cons_mk (shut_bool Try.underlying4 _) trodAll_mk0))), rfl, bel.frame _, fun h => by cases h⟩

theorem over : Rows.fnFixedEndsAgreesWithWordSpecRow.holds Try.pinned (OpenSpec.ofChange Rows.fnFixedEndsAgreesWithWordSpecSpec) :=
  OpenClaim.holds_of_wide 6 Try.f6 rfl rfl rfl rfl rfl rfl rfl ⟨rfl, rfl, rfl, rfl, rfl⟩ rfl rfl rfl rfl rfl (by kernel_rfl) Try.func6 facts
    (of_decide_eq_true (by kernel_rfl)) (by unfold Func.isWrapper; first | (rw [if_pos (by decide +kernel)]; kernel_rfl) | (rw [if_neg (by decide +kernel)]; exact ⟨rfl, rfl⟩))
    (fun os started H enc _ => lifted os started H enc)

/-- ████ THE STATEMENT ████ -/
theorem proved : Rows.FnFixedEndsAgreesWithWordSpecSaid :=
  over
end Go.Proofs.Qxb6601295a.fnFixedEndsAgreesWithWordSpec

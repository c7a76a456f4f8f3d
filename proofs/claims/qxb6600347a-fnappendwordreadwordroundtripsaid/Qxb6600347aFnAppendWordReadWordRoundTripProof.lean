/-
  The law FnAppendWordReadWordRoundTrip: the walk by the contracts of appendWord and readWord, and the row. The frame is the seat's shell, with 'Below' in the place of 'Grown' (append makes memory).
-/
import Derived.Test.Qxb6600347aRows
import Derived.Test.Qxb6600347aRw
import Derived.Test.Qxb6600347aFacts
import Derived.Laws.IdiomStrings
import Derived.Below
import Derived.WalkKit
import Derived.ProofKit
import Derived.OpenShut
import Derived.ShutString
namespace Go.Proofs.Qxb6600347a.fnAppendWordReadWordRoundTrip
open Go.ChangeShapes Go.WideShapes Go.ChangeAt Go.RowKit
open Go.ChangeMaps (open_string shut_string)
set_option linter.unusedVariables false      -- a walk need not use every 'w<i>' (that an integer argument fits its kind)

theorem own : ownKnob Try.prog.godebug = none := by kernel_rfl

/-! ### THE WALK -/
set_option maxHeartbeats 1000000 in
set_option maxRecDepth 100000 in
theorem walk (a0 : Int) (w0 : (Lit.int .u16 a0).wf = true) (w : World) :
    Calls Try.prog 4 #[.int .u16 a0] w fun e w' => e = .returned (.bool true) ∧ Below w.heap.size w w' := by
  have hb := bounds_u16 w0
  obtain ⟨h0, h1⟩ : 0 ≤ a0 ∧ a0 ≤ 65535 := by omega
  clear hb
  obtain ⟨b0, k0, q0⟩ := cons_at (a0 / 4096).toNat (by omega)
  obtain ⟨b1, k1, q1⟩ := vow_at (a0 / 1024 % 4).toNat (by omega)
  obtain ⟨b2, k2, q2⟩ := cons_at (a0 / 64 % 16).toNat (by omega)
  obtain ⟨b3, k3, q3⟩ := vow_at (a0 / 16 % 4).toNat (by omega)
  obtain ⟨b4, k4, q4⟩ := cons_at (a0 % 16).toNat (by omega)
  have e1 := and3 (a0 / 1024) (by omega) (by omega)
  have e2 := and15 (a0 / 64) (by omega) (by omega)
  have e3 := and3 (a0 / 16) (by omega) (by omega)
  have e4 := and15 a0 (by omega) (by omega)
  have H1 : Hid _ := ZZappendWord_calls a0 _ _ _ _ _ b0.toNat b1.toNat b2.toNat b3.toNat b4.toNat rfl e1 e2 e3 e4 (by omega) (by omega) (by omega) (by omega) (by omega) (by omega) (by omega) (by omega) (by omega) (by omega) h0 h1 k0 k1 k2 k3 k4 w
  have H2 : Hid (∀ w, _) := fun w => ZZreadWord_calls b0 b1 b2 b3 b4 (a0 / 4096) (a0 / 1024 % 4) (a0 / 64 % 16) (a0 / 16 % 4) (a0 % 16) (by omega) (by omega) (by omega) (by omega) (by omega) (by omega) (by omega) (by omega) (by omega) (by omega)
    (q0.trans (by omega)) (q1.trans (by omega)) (q2.trans (by omega)) (q3.trans (by omega)) (q4.trans (by omega)) w
  have hj : joinN (a0 / 4096) (a0 / 1024 % 4) (a0 / 64 % 16) (a0 / 16 % 4) (a0 % 16) = a0 := by
    rw [joinN_eq _ _ _ _ _ (by omega) (by omega) (by omega) (by omega) (by omega) (by omega) (by omega) (by omega) (by omega) (by omega)]
    omega
  clear e1 e2 e3 e4 k0 k1 k2 k3 k4 q0 q1 q2 q3 q4
  go_enter Try.func4, Try.ntmps4
  go_wp2_with fail
  refine Calls.mono H1.out ?_
  rintro e w1 ⟨g, cap, rfl, hown, hbel⟩
  have hc := run_convert_bytes_back (P := Try.prog) w1 26 9 5 ⟨g, 0, none⟩ cap [b0, b1, b2, b3, b4] Try.underlying26 Try.underlying5 Try.underlying9 (fun j hj => hown.cells rfl j _ (by
      match j, hj with
      | 0, _ => rfl
      | 1, _ => rfl
      | 2, _ => rfl
      | 3, _ => rfl
      | 4, _ => rfl))
  simp only [List.length_cons, List.length_nil, Nat.zero_add, Nat.reduceAdd] at hc
  go_wp2_with fail
  refine Calls.mono (H2.out w1) ?_
  rintro e w2 ⟨rfl, rfl⟩
  rw [hj]
  go_wp2
  go_ret
  exact ⟨rfl, hbel⟩

/-! ### THE ROW's STEP: WRITTEN OUT: LEAVE IT -/
set_option maxRecDepth 100000 in
theorem lifted (os : Os) (started : os.Started) (H : Type) (enc : TypeId × Value → H) :
    ReturnsInHanded {} Try.checked os 4 .any (Rows.fnAppendWordReadWordRoundTripSpec.pre6 enc Try.prog Try.f4 Rows.fnAppendWordReadWordRoundTripRow.domain false) (Rows.fnAppendWordReadWordRoundTripSpec.post enc Try.prog Try.f4 false true false false) := by
  refine returnsInHanded_of_change (C := Try.checked) own started (by kernel_rfl) Try.func4
    (ChangeSpec.witness6 (enc := enc) (C := Try.checked) false ⟨#[], #[.int .u16 0], []⟩ 8 (by kernel_rfl) (by kernel_rfl) (by kernel_rfl) (by kernel_rfl)) ?_
  intro W base args ds gs before hval0 hW hcnd _
  have hval : ∀ (j : Nat) t v, Try.f4.params[j]? = some t → args[j]? = some v → Value.okWide Try.prog W .any base t v := hval0
  have hW' := hW
  obtain ⟨p, q, hA0, hV, rfl, hfz, hnd⟩ := hW
  have hA : DataW.TrodAll enc Try.prog W 0 (fun _ => true) true Try.f4.params.toList args.toList ds p := hA0
  rw [Try.params4] at hA hval
  obtain ⟨v0, vs0, d0, ds0, p0, q0, hargs, rfl, rfl, h0, r0⟩ := trodAll_cons hA
  obtain ⟨rfl, rfl, rfl⟩ := trodAll_nil r0
  obtain rfl : args = #[v0] := by cases args; simp_all
  obtain ⟨rfl, rfl⟩ := trodVars_none hV
  obtain ⟨a0, rfl, rfl, rfl, w0⟩ := open_int Try.underlying23 (hval 0 23 v0 rfl rfl) h0
  clear hA0 hval0
  simp only [List.append_nil] at hW'
  refine (walk a0 w0 W).mono fun e W' ⟨he, bel⟩ => ?_
  subst he
  exact ⟨_, rfl, _, _, _, [], _, [], hW', trodAll_mk1 (shut_bool Try.underlying4 _), (trodAll_cons_mk (shut_int Try.underlying23 w0) trodAll_mk0), rfl, bel.frame _, fun h => by cases h⟩

theorem over : Rows.fnAppendWordReadWordRoundTripRow.holds Try.pinned (OpenSpec.ofChange Rows.fnAppendWordReadWordRoundTripSpec) :=
  OpenClaim.holds_of_wide 4 Try.f4 rfl rfl rfl rfl rfl rfl rfl ⟨rfl, rfl, rfl, rfl, rfl⟩ rfl rfl rfl rfl rfl (by kernel_rfl) Try.func4 facts
    (of_decide_eq_true (by kernel_rfl)) (by unfold Func.isWrapper; first | (rw [if_pos (by decide +kernel)]; kernel_rfl) | (rw [if_neg (by decide +kernel)]; exact ⟨rfl, rfl⟩))
    (fun os started H enc _ => lifted os started H enc)

/-- ████ THE STATEMENT ████ -/
theorem proved : Rows.FnAppendWordReadWordRoundTripSaid :=
  over
end Go.Proofs.Qxb6600347a.fnAppendWordReadWordRoundTrip

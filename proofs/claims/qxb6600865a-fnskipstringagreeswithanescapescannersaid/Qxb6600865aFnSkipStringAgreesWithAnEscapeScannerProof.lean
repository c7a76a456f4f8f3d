/-
  The law FnSkipStringAgreesWithAnEscapeScanner: the walk by the contracts of its callees, and the row (the seat's shell).
-/
import Derived.Test.Qxb6600865aRows
import Derived.Test.Qxb6600865aZZ
import Derived.Test.Qxb6600865aFacts
import Derived.WalkKit
import Derived.ProofKit
import Derived.OpenShut
import Derived.ShutString
import Derived.ChangeOld
import Derived.Below
namespace Go.Proofs.Qxb6600865a.fnSkipStringAgreesWithAnEscapeScanner
open Go.ChangeShapes Go.WideShapes Go.ChangeAt Go.RowKit
open Go.ChangeMaps (open_string shut_string)
set_option linter.unusedVariables false

theorem own : ownKnob Try.prog.godebug = none := by kernel_rfl
theorem laidOut : laidOutB Try.prog = true := by kernel_rfl

/-- WHAT THE WALK IS TOLD OF A SLICE OF INTEGERS THAT CAME IN: it is nil; or it leads to a row of 'cap' cells, the numbers 'zs' (the first 'len' are its elements, the rest its spare room), each fitting its kind. -/
def IsRow (k : IntKind) (w : World) (a : Option Addr) (len cap : Nat) (zs : List Int) : Prop :=
  (a = none ∧ len = 0 ∧ cap = 0 ∧ zs = []) ∨
  ∃ x, a = some x ∧ len ≤ cap ∧ cap ≤ maxLen ∧ zs.length = cap ∧ (∀ i, i < zs.length → w.cell? (x.add i) = some (.int k (zs.getD i 0))) ∧ ∀ n ∈ zs, (Lit.int k n).wf = true

/-! ### THE WALK -/
/-- Too long, or a place outside: true at once. -/
theorem walk_long (a : Option Addr) (n cap : Nat) (x : Int) (hn : ¬ n ≤ 1048576) (w : World) :
    Calls Try.prog 4 #[.slice a n cap, .int .i64 x] w fun e w' => e = .returned (.bool true) ∧ w' = w := by
  go_enter Try.func4, Try.ntmps4
  go_wp2_with (go_at_call 16; refine (zzBytes_calls_no _ _ _ _ hn _).mono ?_; rintro e w' ⟨rfl, rfl⟩)
  go_ret
  exact ⟨rfl, rfl⟩

theorem walk_neg (a : Option Addr) (n cap : Nat) (x : Int) (hn : n ≤ 1048576) (hx : x < 0) (w : World) :
    Calls Try.prog 4 #[.slice a n cap, .int .i64 x] w fun e w' => e = .returned (.bool true) ∧ w' = w := by
  go_enter Try.func4, Try.ntmps4
  go_wp2_with (go_at_call 16; refine (zzBytes_calls _ _ _ _ hn _).mono ?_; rintro e w' ⟨rfl, rfl⟩)
  go_ret
  exact ⟨rfl, rfl⟩

theorem walk_past (a : Option Addr) (n cap : Nat) (x : Int) (hn : n ≤ 1048576) (hx : ¬ x < 0) (hx2 : (n : Int) ≤ x) (w : World) :
    Calls Try.prog 4 #[.slice a n cap, .int .i64 x] w fun e w' => e = .returned (.bool true) ∧ w' = w := by
  go_enter Try.func4, Try.ntmps4
  go_wp2_with (go_at_call 16; refine (zzBytes_calls _ _ _ _ hn _).mono ?_; rintro e w' ⟨rfl, rfl⟩)
  go_ret
  exact ⟨rfl, rfl⟩

set_option maxHeartbeats 1000000 in
theorem walk_in (b off n cap pos : Nat) (f : Nat → Int) (hn : n ≤ 1048576) (hp : pos < n) (hf : ∀ i, i < n → 0 ≤ f i ∧ f i ≤ 255) (w : World) (hlt : b < w.heap.size)
    (hc : ∀ i, i < n → w.cell? ⟨b, off + i, none⟩ = some (.int .u8 (f i))) :
    Calls Try.prog 4 #[.slice (some ⟨b, off, none⟩) n cap, .int .i64 pos] w fun e w' => e = .returned (.bool true) ∧ Below w.heap.size w w' := by
  have HC : Hid _ := hc
  have HF : Hid _ := hf
  clear hc hf
  have hp' : (pos : Int) < (n : Int) := by omega
  have hp0 : ¬ (pos : Int) < 0 := by omega
  go_enter Try.func4, Try.ntmps4
  go_wp2_with fail
  refine (zzBytes_calls _ _ _ _ hn _).mono ?_
  rintro e w0 ⟨rfl, rfl⟩
  go_wp2_with fail
  refine (clone_calls b off n cap f hn _ hlt HC.out).mono ?_
  rintro e w1 ⟨rfl, hrow, hb1, hz⟩
  have hg : w0.heap.size < w1.heap.size := by omega
  go_wp2_with fail
  refine (ZZskip_calls w0.heap.size n pos f hn hp HF.out _ hg (fun i hi => hrow.cell hi)).mono ?_
  rintro e w2 ⟨rfl, hb2⟩
  have h2 : ∀ i, i < n → w2.cell? ⟨w0.heap.size, i, none⟩ = some (.int .u8 (f i)) := fun i hi => (hb2.cell (p := ⟨w0.heap.size, i, none⟩) hg).trans (hrow.cell hi)
  have H2 : Hid _ := h2
  have hb : Below w0.heap.size w0 w2 := hb1.trans (hb2.mono (by omega))
  clear h2 hrow hb1 hb2 hz
  have HS : Hid (∀ w, _) := fun w (hc : ∀ i, i < n → w.cell? ⟨w0.heap.size, i, none⟩ = some (.int .u8 (f i))) => scan_calls w0.heap.size n n pos f hn hp w hc
  generalize hok : Sk.okOf (Sk.scan f (n - (pos + 1)) (pos + 1) false) = ok at *
  generalize hnx : Sk.nextOf pos (Sk.scan f (n - (pos + 1)) (pos + 1) false) = nx at *
  clear hok hnx
  go_wp2_with fail
  refine Calls.mono (HS.out _ H2.out) ?_
  rintro e w3 ⟨rfl, rfl⟩
  cases ok
  · go_wp2
    go_ret
    exact ⟨rfl, hb⟩
  · go_wp2
    go_ret
    exact ⟨rfl, hb⟩


theorem walk (a0 : Option Addr) (len0 cap0 : Nat) (z0 : List Int) (a1 : Int) (w : World) (w0 : IsRow .u8 w a0 len0 cap0 z0) (w1 : (Lit.int .i64 a1).wf = true) :
    Calls Try.prog 4 #[.slice a0 len0 cap0, .int .i64 a1] w fun e w' => e = .returned (.bool true) ∧ Below w.heap.size w w' := by
  by_cases hn : len0 ≤ 1048576
  · by_cases hx : a1 < 0
    · refine (walk_neg a0 len0 cap0 a1 hn hx w).mono ?_
      rintro e w' ⟨rfl, rfl⟩
      exact ⟨rfl, Below.refl _ _⟩
    · by_cases hx2 : (len0 : Int) ≤ a1
      · refine (walk_past a0 len0 cap0 a1 hn hx hx2 w).mono ?_
        rintro e w' ⟨rfl, rfl⟩
        exact ⟨rfl, Below.refl _ _⟩
      · obtain ⟨pos, rfl⟩ := Int.eq_ofNat_of_zero_le (by omega : 0 ≤ a1)
        have hp : pos < len0 := by omega
        rcases w0 with ⟨rfl, rfl, rfl, rfl⟩ | ⟨x, rfl, hl, hm, hz, hcell, hwz⟩
        · exact absurd hp (by omega)
        · obtain ⟨b, off, spot⟩ := x
          have hspot : spot = none := by simpa [Addr.add] using World.cell?_spot (hcell 0 (by omega))
          subst hspot
          have hcell' : ∀ j, j < z0.length → w.cell? ⟨b, off + j, none⟩ = some (.int .u8 (z0.getD j 0)) := fun j hj => by rw [← add_plain]; exact hcell j hj
          exact walk_in b off len0 cap0 pos (fun i => z0.getD i 0) hn hp (fun i hi => by
            have hi' : i < z0.length := by omega
            have := bounds_u8 (hwz (z0.getD i 0) (by rw [List.getD_eq_getElem?_getD, List.getElem?_eq_getElem hi']; exact List.getElem_mem hi'))
            show 0 ≤ z0.getD i 0 ∧ z0.getD i 0 ≤ 255
            omega) w (World.block_lt_of_cell? w _ (hcell' 0 (by omega))) (fun i hi => hcell' i (by omega))
  · refine (walk_long a0 len0 cap0 a1 hn w).mono ?_
    rintro e w' ⟨rfl, rfl⟩
    exact ⟨rfl, Below.refl _ _⟩

/-! ### THE ROW's STEP: WRITTEN OUT: LEAVE IT -/
set_option maxRecDepth 100000 in
theorem lifted (os : Os) (started : os.Started) (H : Type) (enc : TypeId × Value → H) :
    ReturnsInHanded {} Try.checked os 4 .any (Rows.fnSkipStringAgreesWithAnEscapeScannerSpec.pre6 enc Try.prog Try.f4 Rows.fnSkipStringAgreesWithAnEscapeScannerRow.domain false) (Rows.fnSkipStringAgreesWithAnEscapeScannerSpec.post enc Try.prog Try.f4 false true false false) := by
  refine returnsInHanded_of_change (C := Try.checked) own started (by kernel_rfl) Try.func4
    (ChangeSpec.witness6 (enc := enc) (C := Try.checked) false ⟨#[], #[.slice none 0 0, .int .i64 0], []⟩ 8 (by kernel_rfl) (by kernel_rfl) (by kernel_rfl) (by kernel_rfl)) ?_
  intro W base args ds gs before hval0 hW hcnd _
  have hval : ∀ (j : Nat) t v, Try.f4.params[j]? = some t → args[j]? = some v → Value.okWide Try.prog W .any base t v := hval0
  have hW' := hW
  obtain ⟨p, q, hA0, hV, rfl, hfz, hnd⟩ := hW
  have hA : DataW.TrodAll enc Try.prog W 0 (fun _ => true) true Try.f4.params.toList args.toList ds p := hA0
  rw [Try.params4] at hA hval
  obtain ⟨v0, vs0, d0, ds0, p0, q0, hargs, rfl, rfl, h0, r0⟩ := trodAll_cons hA
  obtain ⟨v1, vs1, d1, ds1, p1, q1, rfl, rfl, rfl, h1, r1⟩ := trodAll_cons r0
  obtain ⟨rfl, rfl, rfl⟩ := trodAll_nil r1
  obtain rfl : args = #[v0, v1] := by cases args; simp_all
  obtain ⟨rfl, rfl⟩ := trodVars_none hV
  obtain ⟨a0, len0, cap0, rfl⟩ := okWide_slice Try.underlying23 (hval 0 23 v0 rfl rfl)
  have k0 := h0
  have lt0 : ∀ x ∈ p0, x.block < W.heap.size := by obtain ⟨m, hm⟩ := k0; exact DataW.trod_lt m _ _ _ hm
  obtain ⟨z0, w0⟩ : ∃ zs, IsRow .u8 W a0 len0 cap0 zs := by
    obtain ⟨fuel, hf⟩ := h0
    rcases open_ints Try.underlying23 Try.underlying5 (by kernel_rfl) hf with ⟨hcs, _⟩ | ⟨x, l, c, zs, hcs, _, hl, hm, hz, _, hcell, hwz⟩
    · simp [Value.cells] at hcs
      obtain ⟨rfl, rfl, rfl⟩ := hcs
      exact ⟨[], .inl ⟨rfl, rfl, rfl, rfl⟩⟩
    · simp [Value.cells] at hcs
      obtain ⟨rfl, rfl, rfl⟩ := hcs
      exact ⟨zs, .inr ⟨_, rfl, hl, hm, by simpa using hz, hcell, hwz⟩⟩
  obtain ⟨a1, rfl, rfl, rfl, w1⟩ := open_int Try.underlying3 (hval 1 3 v1 rfl rfl) h1
  clear hA0 hval0
  refine (walk a0 len0 cap0 z0 a1 W w0 w1).mono fun e W' ⟨he, bel⟩ => ?_
  subst he
  exact ⟨_, rfl, _, _, _, [], _, [], hW', trodAll_mk1 (shut_bool Try.underlying4 _), (trodAll_cons_mk (Below.trod laidOut (by kernel_rfl) (of_decide_eq_true (by kernel_rfl)) k0 bel lt0) (trodAll_cons_mk (shut_int Try.underlying3 w1) trodAll_mk0)), rfl, bel.frame _, fun h => by cases h⟩

theorem over : Rows.fnSkipStringAgreesWithAnEscapeScannerRow.holds Try.pinned (OpenSpec.ofChange Rows.fnSkipStringAgreesWithAnEscapeScannerSpec) :=
  OpenClaim.holds_of_wide 4 Try.f4 rfl rfl rfl rfl rfl rfl rfl ⟨rfl, rfl, rfl, rfl, rfl⟩ rfl rfl rfl rfl rfl (by kernel_rfl) Try.func4 facts
    (of_decide_eq_true (by kernel_rfl)) (by unfold Func.isWrapper; first | (rw [if_pos (by decide +kernel)]; kernel_rfl) | (rw [if_neg (by decide +kernel)]; exact ⟨rfl, rfl⟩))
    (fun os started H enc _ => lifted os started H enc)

/-- ████ THE STATEMENT ████ -/
theorem proved : Rows.FnSkipStringAgreesWithAnEscapeScannerSaid := over
end Go.Proofs.Qxb6600865a.fnSkipStringAgreesWithAnEscapeScanner

import Derived.Test.Qxb6600865aSkip
import Derived.Test.Qxb6600865aScan
import Derived.Test.Qxb6600865aClone
import Derived.Deep.QuietTactic
import Derived.BigQuiet
namespace Go.Proofs.Qxb6600865a
open Go.RowKit
set_option linter.unusedVariables false

theorem frozen_new (w : World) (C : Array Value) (t : TypeId) (j : Nat) : (w.alloc (.cells C t)).frozen? ⟨w.heap.size, j, none⟩ = false := by
  have h := heap_alloc_new w (.cells C t)
  simp only [World.frozen?, h]
  simp

set_option maxHeartbeats 1000000 in
set_option maxRecDepth 100000 in
/-- ZZskipString answers as the escape scanner does. -/
theorem ZZskip_calls (g n pos : Nat) (f : Nat → Int) (hn : n ≤ 1048576) (hp : pos < n) (hf : ∀ i, i < n → 0 ≤ f i ∧ f i ≤ 255) (w : World) (hg : g < w.heap.size)
    (hc : ∀ i, i < n → w.cell? ⟨g, i, none⟩ = some (.int .u8 (f i))) :
    Calls Try.prog 17 #[.slice (some ⟨g, 0, none⟩) n n, .int .i64 pos] w fun e w' =>
      e = .returned (.tuple #[.bool (Sk.okOf (Sk.scan f (n - (pos + 1)) (pos + 1) false)), .int .i64 (Sk.nextOf pos (Sk.scan f (n - (pos + 1)) (pos + 1) false))]) ∧ Below w.heap.size w w' := by
  have HC : Hid _ := hc
  have HF : Hid _ := hf
  clear hc hf
  generalize hR : Sk.scan f (n - (pos + 1)) (pos + 1) false = R
  have HR : Hid _ := hR
  clear hR
  go_enter Try.func17, Try.ntmps17
  go_wp2_with fail
  refine (skip_calls w.heap.size g n pos f hn hp HF.out _ (by rw [World.cell?_alloc_mark]; rfl) (by rw [World.cell?_alloc_mark]; rfl) (frozen_new _ _ _ _) (fun i hi => ((Below.refl w.heap.size w).alloc (Nat.le_refl _) _ |>.cell (p := ⟨g, i, none⟩) hg).trans (HC.out i hi))).mono ?_
  rintro e w1 ⟨rfl, hcell, hbel⟩
  rw [HR.out] at hcell ⊢
  have hb := ((Below.refl w.heap.size w).alloc (Nat.le_refl _) _).trans hbel
  clear hbel
  go_wp2
  go_quiet (fail)
  go_wp2
  go_ret2
  exact ⟨rfl, below_drewN hb _⟩

/-- The guard that the program lays on the length. -/
theorem zzBytes_calls (a : Option Addr) (n cap : Nat) (x : Int) (hn : n ≤ 1048576) (w : World) :
    Calls Try.prog 16 #[.slice a n cap, .int .i64 x] w fun e w' => e = .returned (.bool true) ∧ w' = w := by
  go_enter Try.func16, Try.ntmps16
  go_wp2
  go_ret
  exact ⟨rfl, rfl⟩
theorem zzBytes_calls_no (a : Option Addr) (n cap : Nat) (x : Int) (hn : ¬ n ≤ 1048576) (w : World) :
    Calls Try.prog 16 #[.slice a n cap, .int .i64 x] w fun e w' => e = .returned (.bool false) ∧ w' = w := by
  go_enter Try.func16, Try.ntmps16
  go_wp2
  go_ret
  exact ⟨rfl, rfl⟩
end Go.Proofs.Qxb6600865a

import Derived.Test.Qxb6601295aFixed
import Derived.BigRegion
namespace Go.Proofs.Qxb6601295a
open Go.RowKit Go.PlainAid
set_option linter.unusedVariables false

set_option maxHeartbeats 1000000 in
set_option maxRecDepth 100000 in
/-- text: the value but for its last byte. -/
theorem text_calls (pb : Nat) (s : ByteArray) (n : Nat) (hn : s.size = n + 1) (hs : n ≤ 65536) (w : World) (hpb : pb < w.heap.size)
    (h0 : w.cell? ⟨pb, 0, none⟩ = some (.string s)) (h1 : w.cell? ⟨pb, 1, none⟩ = some (.pointer none)) (h3 : w.cell? ⟨pb, 3, none⟩ = some (.bool true)) :
    Calls Try.prog 46 #[.pointer (some ⟨pb, 0, none⟩)] w fun e w' => e = .returned (.agg #[.string (s.extract 0 n), .slice none 0 0]) ∧ Below w.heap.size w w' := by
  go_enter Try.func46, Try.ntmps46
  go_wp2
  go_region
  go_wp2
  exact bodyPost_ret (v := .agg #[.string (s.extract 0 n), .slice none 0 0]) (by simp [results, Try.results46, go_sem]) rfl ⟨rfl, ((Below.refl _ _).alloc (Nat.le_refl _) _).drew⟩

set_option maxHeartbeats 1000000 in
theorem fixed_plain (pb : Nat) (s : ByteArray) (c : Int) (hc : ¬ c = 3) (w : World)
    (h0 : w.cell? ⟨pb, 0, none⟩ = some (.string s)) (h2 : w.cell? ⟨pb, 2, none⟩ = some (.int .u8 c)) (h3 : w.cell? ⟨pb, 3, none⟩ = some (.bool false)) :
    Calls Try.prog 38 #[.pointer (some ⟨pb, 0, none⟩)] w fun e w' => e = .returned (.tuple #[.string s, .string s]) ∧ Below w.heap.size w w' := by
  have hc1 : (c != 3) = true := by simpa using hc
  go_enter Try.func38, Try.ntmps38
  go_wp2
  go_quiet (fail)
  go_wp2
  go_ret2
  exact ⟨rfl, below_drewN (Below.refl _ _) _⟩

set_option maxHeartbeats 1000000 in
set_option maxRecDepth 100000 in
theorem fixed_cut (pb : Nat) (s : ByteArray) (n : Nat) (hn : s.size = n + 1) (hs : n ≤ 65536) (c : Int) (hc : ¬ c = 3) (w : World) (hpb : pb < w.heap.size)
    (h0 : w.cell? ⟨pb, 0, none⟩ = some (.string s)) (h1 : w.cell? ⟨pb, 1, none⟩ = some (.pointer none)) (h2 : w.cell? ⟨pb, 2, none⟩ = some (.int .u8 c)) (h3 : w.cell? ⟨pb, 3, none⟩ = some (.bool true)) :
    Calls Try.prog 38 #[.pointer (some ⟨pb, 0, none⟩)] w fun e w' => e = .returned (.tuple #[.string (s.extract 0 n), .string ⟨#[]⟩]) ∧ Below w.heap.size w w' := by
  have hc1 : (c != 3) = true := by simpa using hc
  have hfd : ∀ (x y : Value) (w : World), (Instr.field 61 (.agg #[x, y]) 0).run Try.prog w = .ok x w := fun x y w => by kernel_rfl
  have H : Hid _ := text_calls pb s n hn hs w hpb h0 h1 h3
  go_enter Try.func38, Try.ntmps38
  go_wp2_with fail
  refine Calls.mono H.out ?_
  rintro e w1 ⟨rfl, hb1⟩
  clear hn
  go_wp2
  go_ret2
  exact ⟨rfl, hb1⟩

set_option maxHeartbeats 1000000 in
set_option maxRecDepth 100000 in
/-- ZZFixedEnds hands on what fixedEnds answers of the struct that it has laid. -/
theorem ZZfixed_calls (s : ByteArray) (c : Int) (b : Bool) (P S : Value) (w : World)
    (hin : ∀ w1 : World, w1.cell? ⟨w.heap.size, 0, none⟩ = some (.string s) → w1.cell? ⟨w.heap.size, 1, none⟩ = some (.pointer none) → w1.cell? ⟨w.heap.size, 2, none⟩ = some (.int .u8 c) → w1.cell? ⟨w.heap.size, 3, none⟩ = some (.bool b) → w.heap.size < w1.heap.size →
      Calls Try.prog 38 #[.pointer (some ⟨w.heap.size, 0, none⟩)] w1 fun e w' => e = .returned (.tuple #[P, S]) ∧ Below w1.heap.size w1 w') :
    Calls Try.prog 20 #[.string s, .int .u8 c, .bool b] w fun e w' => e = .returned (.tuple #[P, S]) ∧ Below w.heap.size w w' := by
  have H : Hid _ := hin
  clear hin
  go_enter Try.func20, Try.ntmps20
  go_wp2_with fail
  refine Calls.mono (H.out _ (by rw [World.cell?_alloc_mark]; rfl) (by rw [World.cell?_alloc_mark]; rfl) (by rw [World.cell?_alloc_mark]; rfl) (by rw [World.cell?_alloc_mark]; rfl) (by simp)) ?_
  rintro e w1 ⟨rfl, hb1⟩
  have hb := ((Below.refl w.heap.size w).alloc (Nat.le_refl _) _).trans (hb1.mono (by simp))
  clear hb1
  go_wp2
  go_ret2
  exact ⟨rfl, hb⟩

theorem zzBytes_calls (s : ByteArray) (c : Int) (b : Bool) (hn : s.size ≤ 1048576) (w : World) :
    Calls Try.prog 19 #[.string s, .int .u8 c, .bool b] w fun e w' => e = .returned (.bool true) ∧ w' = w := by
  go_enter Try.func19, Try.ntmps19
  go_wp2
  go_ret
  exact ⟨rfl, rfl⟩
theorem zzBytes_calls_no (s : ByteArray) (c : Int) (b : Bool) (hs : s.size ≤ maxLen) (hn : ¬ s.size ≤ 1048576) (w : World) :
    Calls Try.prog 19 #[.string s, .int .u8 c, .bool b] w fun e w' => e = .returned (.bool false) ∧ w' = w := by
  unfold maxLen at hs
  go_enter Try.func19, Try.ntmps19
  go_wp2
  go_ret
  exact ⟨rfl, rfl⟩
end Go.Proofs.Qxb6601295a

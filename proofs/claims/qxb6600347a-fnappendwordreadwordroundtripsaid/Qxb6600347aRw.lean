import Derived.Test.Qxb6600347aAw
import Derived.Laws.BitsAllLaws
namespace Go.Proofs.Qxb6600347a
open Go.RowKit
set_option linter.unusedVariables false

theorem index_at (t : ByteArray) (b : UInt8) (n : Int) (h : Lib.indexByte t.data.toList b = n) (w : World) :
    Calls Try.prog 23 #[.string t, .int .u8 b.toNat] w fun e w' => e = .returned (.int .i64 n) ∧ w' = w := by
  have := strings_IndexByte t b.toNat w
  simpa [h] using this

/-- The word that readWord puts together out of five numbers, as Go's text does. -/
def joinN (n0 n1 n2 n3 n4 : Int) : Int :=
  bits .or .u16 (IntKind.u16.wrap (bits .or .u16 (IntKind.u16.wrap (bits .or .u16 (IntKind.u16.wrap (bits .or .u16 (IntKind.u16.wrap (bits .or .u16 0 n0 * 4)) n1 * 16)) n2 * 4)) n3 * 16)) n4

set_option maxHeartbeats 1000000 in
set_option maxRecDepth 100000 in
/-- readWord of five bytes that stand at the places n0 .. n4 of their tables. -/
theorem readWord_calls (b0 b1 b2 b3 b4 : UInt8) (n0 n1 n2 n3 n4 : Int)
    (l0 : 0 ≤ n0) (u0 : n0 < 16) (l1 : 0 ≤ n1) (u1 : n1 < 4) (l2 : 0 ≤ n2) (u2 : n2 < 16) (l3 : 0 ≤ n3) (u3 : n3 < 4) (l4 : 0 ≤ n4) (u4 : n4 < 16)
    (q0 : Lib.indexByte (⟨#[98, 100, 102, 103, 104, 106, 107, 108, 109, 110, 112, 114, 115, 116, 118, 122]⟩ : ByteArray).data.toList b0 = n0)
    (q1 : Lib.indexByte (⟨#[97, 105, 111, 117]⟩ : ByteArray).data.toList b1 = n1)
    (q2 : Lib.indexByte (⟨#[98, 100, 102, 103, 104, 106, 107, 108, 109, 110, 112, 114, 115, 116, 118, 122]⟩ : ByteArray).data.toList b2 = n2)
    (q3 : Lib.indexByte (⟨#[97, 105, 111, 117]⟩ : ByteArray).data.toList b3 = n3)
    (q4 : Lib.indexByte (⟨#[98, 100, 102, 103, 104, 106, 107, 108, 109, 110, 112, 114, 115, 116, 118, 122]⟩ : ByteArray).data.toList b4 = n4)
    (w : World) :
    Calls Try.prog 19 #[.string ⟨#[b0, b1, b2, b3, b4]⟩] w fun e w' => e = .returned (.tuple #[.int .u16 (joinN n0 n1 n2 n3 n4), .bool true]) ∧ w' = w := by
  have Q0 : Hid _ := q0
  have Q1 : Hid _ := q1
  have Q2 : Hid _ := q2
  have Q3 : Hid _ := q3
  have Q4 : Hid _ := q4
  clear q0 q1 q2 q3 q4
  go_enter Try.func19, Try.ntmps19
  go_wp2
  refine wp_loop_rounds 6 ?_
  rw [rounds_succ]
  go_wp2_with fail
  refine (index_at _ b0 n0 Q0.out _).mono ?_
  rintro e w0 ⟨rfl, rfl⟩
  go_wp2_with fail
  rw [rounds_succ]
  go_wp2_with fail
  refine (index_at _ b1 n1 Q1.out _).mono ?_
  rintro e w1 ⟨rfl, rfl⟩
  go_wp2_with fail
  rw [rounds_succ]
  go_wp2_with fail
  refine (index_at _ b2 n2 Q2.out _).mono ?_
  rintro e w2 ⟨rfl, rfl⟩
  go_wp2_with fail
  rw [rounds_succ]
  go_wp2_with fail
  refine (index_at _ b3 n3 Q3.out _).mono ?_
  rintro e w3 ⟨rfl, rfl⟩
  go_wp2_with fail
  rw [rounds_succ]
  go_wp2_with fail
  refine (index_at _ b4 n4 Q4.out _).mono ?_
  rintro e w4 ⟨rfl, rfl⟩
  go_wp2_with fail
  rw [rounds_succ]
  go_wp2_with fail
  go_ret2
  exact ⟨rfl, rfl⟩

set_option maxHeartbeats 400000 in
theorem ZZreadWord_calls (b0 b1 b2 b3 b4 : UInt8) (n0 n1 n2 n3 n4 : Int)
    (l0 : 0 ≤ n0) (u0 : n0 < 16) (l1 : 0 ≤ n1) (u1 : n1 < 4) (l2 : 0 ≤ n2) (u2 : n2 < 16) (l3 : 0 ≤ n3) (u3 : n3 < 4) (l4 : 0 ≤ n4) (u4 : n4 < 16)
    (q0 : Lib.indexByte (⟨#[98, 100, 102, 103, 104, 106, 107, 108, 109, 110, 112, 114, 115, 116, 118, 122]⟩ : ByteArray).data.toList b0 = n0)
    (q1 : Lib.indexByte (⟨#[97, 105, 111, 117]⟩ : ByteArray).data.toList b1 = n1)
    (q2 : Lib.indexByte (⟨#[98, 100, 102, 103, 104, 106, 107, 108, 109, 110, 112, 114, 115, 116, 118, 122]⟩ : ByteArray).data.toList b2 = n2)
    (q3 : Lib.indexByte (⟨#[97, 105, 111, 117]⟩ : ByteArray).data.toList b3 = n3)
    (q4 : Lib.indexByte (⟨#[98, 100, 102, 103, 104, 106, 107, 108, 109, 110, 112, 114, 115, 116, 118, 122]⟩ : ByteArray).data.toList b4 = n4)
    (w : World) :
    Calls Try.prog 10 #[.string ⟨#[b0, b1, b2, b3, b4]⟩] w fun e w' => e = .returned (.tuple #[.int .u16 (joinN n0 n1 n2 n3 n4), .bool true]) ∧ w' = w := by
  have H : Hid _ := readWord_calls b0 b1 b2 b3 b4 n0 n1 n2 n3 n4 l0 u0 l1 u1 l2 u2 l3 u3 l4 u4 q0 q1 q2 q3 q4 w
  clear q0 q1 q2 q3 q4
  go_enter Try.func10, Try.ntmps10
  go_wp2_with fail
  refine Calls.mono H.out ?_
  rintro e w' ⟨rfl, rfl⟩
  go_wp2
  go_ret2
  exact ⟨rfl, rfl⟩

/-! ### The plain law -/
theorem or_add (k : Nat) (x n : Int) (hx : 0 ≤ x) (hx' : x < 65536) (hk : x.toNat % 2 ^ k = 0) (hn : 0 ≤ n) (hn' : n.toNat < 2 ^ k) (hn2 : n < 65536) : bits .or .u16 x n = x + n := by
  rw [u16_or x n hx hx' hn hn2, nat_join k _ _ hk hn']
  omega

theorem joinN_eq (n0 n1 n2 n3 n4 : Int) (l0 : 0 ≤ n0) (u0 : n0 < 16) (l1 : 0 ≤ n1) (u1 : n1 < 4) (l2 : 0 ≤ n2) (u2 : n2 < 16) (l3 : 0 ≤ n3) (u3 : n3 < 4) (l4 : 0 ≤ n4) (u4 : n4 < 16) :
    joinN n0 n1 n2 n3 n4 = (((n0 * 4 + n1) * 16 + n2) * 4 + n3) * 16 + n4 := by
  unfold joinN
  simp only [IntKind.wrap_u16]
  rw [or_add 4 0 n0 (by omega) (by omega) (by simp) l0 (by omega) (by omega)]
  rw [or_add 2 ((0 + n0) * 4 % 65536) n1 (by omega) (by omega) (by omega) l1 (by omega) (by omega)]
  rw [show (0 + n0) * 4 % 65536 + n1 = n0 * 4 + n1 from by omega]
  rw [or_add 4 ((n0 * 4 + n1) * 16 % 65536) n2 (by omega) (by omega) (by omega) l2 (by omega) (by omega)]
  rw [show (n0 * 4 + n1) * 16 % 65536 + n2 = (n0 * 4 + n1) * 16 + n2 from by omega]
  rw [or_add 2 (((n0 * 4 + n1) * 16 + n2) * 4 % 65536) n3 (by omega) (by omega) (by omega) l3 (by omega) (by omega)]
  rw [show ((n0 * 4 + n1) * 16 + n2) * 4 % 65536 + n3 = ((n0 * 4 + n1) * 16 + n2) * 4 + n3 from by omega]
  rw [or_add 4 ((((n0 * 4 + n1) * 16 + n2) * 4 + n3) * 16 % 65536) n4 (by omega) (by omega) (by omega) l4 (by omega) (by omega)]
  omega

theorem and3 (x : Int) (h0 : 0 ≤ x) (h1 : x < 65536) : bits .and .u16 x 3 = x % 4 := by
  rw [u16_and x 3 h0 h1 (by omega) (by omega), show (3 : Int).toNat = 3 from rfl, nat_mask2]; omega
theorem and15 (x : Int) (h0 : 0 ≤ x) (h1 : x < 65536) : bits .and .u16 x 15 = x % 16 := by
  rw [u16_and x 15 h0 h1 (by omega) (by omega), show (15 : Int).toNat = 15 from rfl, nat_mask4]; omega

theorem get_getD (t : ByteArray) (n : Nat) (h : n < t.size) : t[n]'h = t.data.getD n 0 := by
  simp only [Array.getD]
  rw [dif_pos (show n < t.data.size from h)]
  rfl

/-- Each letter of a table stands at its own place first. -/
theorem cons_at (n : Nat) (h : n < 16) : ∃ b : UInt8, (∀ h, (((⟨#[98, 100, 102, 103, 104, 106, 107, 108, 109, 110, 112, 114, 115, 116, 118, 122]⟩ : ByteArray)[n]'h).toNat : Int) = b.toNat) ∧ Lib.indexByte (⟨#[98, 100, 102, 103, 104, 106, 107, 108, 109, 110, 112, 114, 115, 116, 118, 122]⟩ : ByteArray).data.toList b = n := by
  refine ⟨(⟨#[98, 100, 102, 103, 104, 106, 107, 108, 109, 110, 112, 114, 115, 116, 118, 122]⟩ : ByteArray).data.getD n 0, fun hh => ?_, ?_⟩
  · rw [get_getD]
  · have : ∀ n : Fin 16, Lib.indexByte (⟨#[98, 100, 102, 103, 104, 106, 107, 108, 109, 110, 112, 114, 115, 116, 118, 122]⟩ : ByteArray).data.toList ((⟨#[98, 100, 102, 103, 104, 106, 107, 108, 109, 110, 112, 114, 115, 116, 118, 122]⟩ : ByteArray).data.getD n.val 0) = (n.val : Int) := by decide
    exact this ⟨n, h⟩
theorem vow_at (n : Nat) (h : n < 4) : ∃ b : UInt8, (∀ h, (((⟨#[97, 105, 111, 117]⟩ : ByteArray)[n]'h).toNat : Int) = b.toNat) ∧ Lib.indexByte (⟨#[97, 105, 111, 117]⟩ : ByteArray).data.toList b = n := by
  refine ⟨(⟨#[97, 105, 111, 117]⟩ : ByteArray).data.getD n 0, fun hh => ?_, ?_⟩
  · rw [get_getD]
  · have : ∀ n : Fin 4, Lib.indexByte (⟨#[97, 105, 111, 117]⟩ : ByteArray).data.toList ((⟨#[97, 105, 111, 117]⟩ : ByteArray).data.getD n.val 0) = (n.val : Int) := by decide
    exact this ⟨n, h⟩
end Go.Proofs.Qxb6600347a

import Derived.Test.Qxb6601295aSplit
import Derived.Lib.Bytealg
import Derived.Lib.IndexLaws
namespace Go.Proofs.Qxb6601295a
open Go.RowKit Go.PlainAid
set_option linter.unusedVariables false

set_option maxHeartbeats 400000 in
set_option maxRecDepth 100000 in
/-- internal/stringslite.IndexByte: the model's entry, in the library's words. -/
theorem stringslite_IndexByte (s : ByteArray) (c : Int) (w : World) :
    Calls Try.prog 52 #[.string s, .int .u8 c] w fun e w' => e = .returned (.int .i64 (Lib.indexByte s.data.toList c.toNat.toUInt8)) ∧ w' = w := by
  go_enter Try.func52, Try.ntmps52
  go_wp2
  rw [run_callFunc_extern Try.func58 (by kernel_rfl) (by kernel_rfl) (by kernel_rfl) (e := Extern.BytealgIndexByte.indexByte) (by kernel_rfl), Lib.run_indexByteString]
  simp only [Result.andThen]
  rw [Oper.upon_value]
  go_wp2
  go_ret
  exact ⟨rfl, rfl⟩

set_option maxHeartbeats 400000 in
/-- strings.IndexByte. -/
theorem strings_IndexByte (s : ByteArray) (c : Int) (w : World) :
    Calls Try.prog 43 #[.string s, .int .u8 c] w fun e w' => e = .returned (.int .i64 (Lib.indexByte s.data.toList c.toNat.toUInt8)) ∧ w' = w := by
  go_enter Try.func43, Try.ntmps43
  go_wp2_with (go_at_call 52; refine (stringslite_IndexByte _ _ _).mono ?_; rintro e w' ⟨rfl, rfl⟩)
  go_ret
  exact ⟨rfl, rfl⟩

/-! ### TrimSuffix, TrimPrefix at a dot: nothing to trim from an empty string; a dot that is there goes -/
theorem hasSuffix_empty (s : ByteArray) (h : s.size = 0) (w : World) :
    Calls Try.prog 62 #[.string s, .string ⟨#[46]⟩] w fun e w' => e = .returned (.bool false) ∧ w' = w := by
  go_enter Try.func62, Try.ntmps62
  go_wp2
  go_ret
  exact ⟨rfl, rfl⟩
theorem hasSuffix_dot (s : ByteArray) (n : Nat) (h : s.size = n + 1) (hn : n ≤ 65536) (hd : (s.extract n (n + 1)).toList = [46]) (w : World) :
    Calls Try.prog 62 #[.string s, .string ⟨#[46]⟩] w fun e w' => e = .returned (.bool true) ∧ w' = w := by
  go_enter Try.func62, Try.ntmps62
  go_wp2
  go_ret
  exact ⟨rfl, rfl⟩
theorem hasPrefix_empty (s : ByteArray) (h : s.size = 0) (w : World) :
    Calls Try.prog 63 #[.string s, .string ⟨#[46]⟩] w fun e w' => e = .returned (.bool false) ∧ w' = w := by
  go_enter Try.func63, Try.ntmps63
  go_wp2
  go_ret
  exact ⟨rfl, rfl⟩
theorem hasPrefix_dot (s : ByteArray) (n : Nat) (h : s.size = n + 1) (hn : n ≤ 65536) (hd : (s.extract 0 1).toList = [46]) (w : World) :
    Calls Try.prog 63 #[.string s, .string ⟨#[46]⟩] w fun e w' => e = .returned (.bool true) ∧ w' = w := by
  go_enter Try.func63, Try.ntmps63
  go_wp2
  go_ret
  exact ⟨rfl, rfl⟩

theorem trimSuffix_empty (s : ByteArray) (h : s.size = 0) (w : World) :
    Calls Try.prog 47 #[.string s, .string ⟨#[46]⟩] w fun e w' => e = .returned (.string s) ∧ w' = w := by
  have H : Hid (∀ w, _) := fun w => hasSuffix_empty s h w
  have K : Calls Try.prog 54 #[.string s, .string ⟨#[46]⟩] w fun e w' => e = .returned (.string s) ∧ w' = w := by
    go_enter Try.func54, Try.ntmps54
    go_wp2_with (go_at_call 62; refine Calls.mono (H.out _) ?_; rintro e w' ⟨rfl, rfl⟩)
    go_ret
    exact ⟨rfl, rfl⟩
  have HK : Hid _ := K
  clear K
  go_enter Try.func47, Try.ntmps47
  go_wp2_with (go_at_call 54; refine Calls.mono HK.out ?_; rintro e w' ⟨rfl, rfl⟩)
  go_ret
  exact ⟨rfl, rfl⟩
theorem trimSuffix_dot (s : ByteArray) (n : Nat) (h : s.size = n + 1) (hn : n ≤ 65536) (hd : (s.extract n (n + 1)).toList = [46]) (w : World) :
    Calls Try.prog 47 #[.string s, .string ⟨#[46]⟩] w fun e w' => e = .returned (.string (s.extract 0 n)) ∧ w' = w := by
  have H : Hid (∀ w, _) := fun w => hasSuffix_dot s n h hn hd w
  clear hd
  have K : Calls Try.prog 54 #[.string s, .string ⟨#[46]⟩] w fun e w' => e = .returned (.string (s.extract 0 n)) ∧ w' = w := by
    go_enter Try.func54, Try.ntmps54
    go_wp2_with (go_at_call 62; refine Calls.mono (H.out _) ?_; rintro e w' ⟨rfl, rfl⟩)
    go_ret
    exact ⟨rfl, rfl⟩
  have HK : Hid _ := K
  clear K
  go_enter Try.func47, Try.ntmps47
  go_wp2_with (go_at_call 54; refine Calls.mono HK.out ?_; rintro e w' ⟨rfl, rfl⟩)
  go_ret
  exact ⟨rfl, rfl⟩
theorem trimPrefix_empty (s : ByteArray) (h : s.size = 0) (w : World) :
    Calls Try.prog 48 #[.string s, .string ⟨#[46]⟩] w fun e w' => e = .returned (.string s) ∧ w' = w := by
  have H : Hid (∀ w, _) := fun w => hasPrefix_empty s h w
  have K : Calls Try.prog 55 #[.string s, .string ⟨#[46]⟩] w fun e w' => e = .returned (.string s) ∧ w' = w := by
    go_enter Try.func55, Try.ntmps55
    go_wp2_with (go_at_call 63; refine Calls.mono (H.out _) ?_; rintro e w' ⟨rfl, rfl⟩)
    go_ret
    exact ⟨rfl, rfl⟩
  have HK : Hid _ := K
  clear K
  go_enter Try.func48, Try.ntmps48
  go_wp2_with (go_at_call 55; refine Calls.mono HK.out ?_; rintro e w' ⟨rfl, rfl⟩)
  go_ret
  exact ⟨rfl, rfl⟩
theorem trimPrefix_dot (s : ByteArray) (n : Nat) (h : s.size = n + 1) (hn : n ≤ 65536) (hd : (s.extract 0 1).toList = [46]) (w : World) :
    Calls Try.prog 48 #[.string s, .string ⟨#[46]⟩] w fun e w' => e = .returned (.string (s.extract 1 (n + 1))) ∧ w' = w := by
  have H : Hid (∀ w, _) := fun w => hasPrefix_dot s n h hn hd w
  clear hd
  have K : Calls Try.prog 55 #[.string s, .string ⟨#[46]⟩] w fun e w' => e = .returned (.string (s.extract 1 (n + 1))) ∧ w' = w := by
    go_enter Try.func55, Try.ntmps55
    go_wp2_with (go_at_call 63; refine Calls.mono (H.out _) ?_; rintro e w' ⟨rfl, rfl⟩)
    go_ret
    exact ⟨rfl, rfl⟩
  have HK : Hid _ := K
  clear K
  go_enter Try.func48, Try.ntmps48
  go_wp2_with (go_at_call 55; refine Calls.mono HK.out ?_; rintro e w' ⟨rfl, rfl⟩)
  go_ret
  exact ⟨rfl, rfl⟩

/-- strings.TrimSuffix at a dot. -/
theorem trimSuffix_calls (s : ByteArray) (a : List UInt8) (h : (s.size = 0 ∧ a = []) ∨ s.data.toList = a ++ [46]) (ha : a.length ≤ 65536) (w : World) :
    Calls Try.prog 47 #[.string s, .string ⟨#[46]⟩] w fun e w' => e = .returned (strV a) ∧ w' = w := by
  rcases h with ⟨h0, rfl⟩ | h
  · refine (trimSuffix_empty s h0 w).mono ?_
    rintro e w' ⟨rfl, rfl⟩
    exact ⟨by rw [str_eq s [] (List.eq_nil_of_length_eq_zero (by simpa using h0))], rfl⟩
  · have hsz : s.size = a.length + 1 := by rw [Lib.size_eq, h]; simp
    refine (trimSuffix_dot s a.length hsz ha (by rw [Lib.toList_data, Lib.extract_data, h]; simp) w).mono ?_
    rintro e w' ⟨rfl, rfl⟩
    exact ⟨by rw [piece, h]; simp, rfl⟩
/-- strings.TrimPrefix at a dot. -/
theorem trimPrefix_calls (s : ByteArray) (a : List UInt8) (h : (s.size = 0 ∧ a = []) ∨ s.data.toList = 46 :: a) (ha : a.length ≤ 65536) (w : World) :
    Calls Try.prog 48 #[.string s, .string ⟨#[46]⟩] w fun e w' => e = .returned (strV a) ∧ w' = w := by
  rcases h with ⟨h0, rfl⟩ | h
  · refine (trimPrefix_empty s h0 w).mono ?_
    rintro e w' ⟨rfl, rfl⟩
    exact ⟨by rw [str_eq s [] (List.eq_nil_of_length_eq_zero (by simpa using h0))], rfl⟩
  · have hsz : s.size = a.length + 1 := by rw [Lib.size_eq, h]; simp
    refine (trimPrefix_dot s a.length hsz ha (by rw [Lib.toList_data, Lib.extract_data, h]; simp) w).mono ?_
    rintro e w' ⟨rfl, rfl⟩
    exact ⟨by rw [piece, h]; simp, rfl⟩

end Go.Proofs.Qxb6601295a

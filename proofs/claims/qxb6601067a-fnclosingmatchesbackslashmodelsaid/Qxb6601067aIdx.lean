import Derived.Test.Qxb6601067aRows
import Derived.Test.Qxb6601067aPlain
import Derived.WalkKit
import Derived.WalkSpells
import Derived.WalkLawsBesides
import Derived.Lib.Bytealg
import Derived.Lib.IndexLaws
import Derived.PlainAid
namespace Go.Proofs.Qxb6601067a
open Go.RowKit Go.PlainAid
set_option linter.unusedVariables false

set_option maxHeartbeats 400000 in
set_option maxRecDepth 100000 in
/-- internal/stringslite.IndexByte: the model's entry, in the library's words. -/
theorem stringslite_IndexByte (s : ByteArray) (c : Int) (w : World) :
    Calls Try.prog 39 #[.string s, .int .u8 c] w fun e w' => e = .returned (.int .i64 (Lib.indexByte s.data.toList c.toNat.toUInt8)) ∧ w' = w := by
  go_enter Try.func39, Try.ntmps39
  go_wp2
  rw [run_callFunc_extern Try.func46 (by kernel_rfl) (by kernel_rfl) (by kernel_rfl) (e := Extern.BytealgIndexByte.indexByte) (by kernel_rfl), Lib.run_indexByteString]
  simp only [Result.andThen]
  rw [Oper.upon_value]
  go_wp2
  go_ret
  exact ⟨rfl, rfl⟩

set_option maxHeartbeats 400000 in
/-- strings.IndexByte. -/
theorem strings_IndexByte (s : ByteArray) (c : Int) (w : World) :
    Calls Try.prog 30 #[.string s, .int .u8 c] w fun e w' => e = .returned (.int .i64 (Lib.indexByte s.data.toList c.toNat.toUInt8)) ∧ w' = w := by
  go_enter Try.func30, Try.ntmps30
  go_wp2_with (go_at_call 39; refine (stringslite_IndexByte _ _ _).mono ?_; rintro e w' ⟨rfl, rfl⟩)
  go_ret
  exact ⟨rfl, rfl⟩

theorem get_bt_some (s : ByteArray) (j : Nat) (hj : j < s.size) : s.data.toList[j]? = some (UInt8.ofNat (bt s j).toNat) := by
  have h : j < s.data.toList.length := by simpa using hj
  rw [List.getElem?_eq_getElem h, ← get_bt s j hj]
  simp
  rfl

/-- What IndexByte answers of the byte 62. -/
theorem index_said (s : ByteArray) : (Lib.indexByte s.data.toList (62 : Int).toNat.toUInt8 = -1 ∧ Sk.First (bt s) s.size s.size) ∨
    ∃ o : Nat, Lib.indexByte s.data.toList (62 : Int).toNat.toUInt8 = o ∧ Sk.First (bt s) s.size o := by
  have hc : (62 : Int).toNat.toUInt8 = UInt8.ofNat 62 := rfl
  have heq : ∀ j, (UInt8.ofNat (bt s j).toNat = UInt8.ofNat 62 ↔ bt s j = 62) := by
    intro j
    have h1 := bt_nonneg s j
    have h2 := bt_le s j
    constructor
    · intro h
      have h2 := congrArg UInt8.toNat h
      simp only [UInt8.toNat_ofNat'] at h2
      omega
    · intro h
      rw [h]
      rfl
  have hge := Lib.indexByte_ge s.data.toList (UInt8.ofNat 62)
  rw [hc]
  by_cases hn : Lib.indexByte s.data.toList (UInt8.ofNat 62) = -1
  · refine .inl ⟨hn, Nat.le_refl _, fun h => absurd h (by omega), fun j hj h62 => ?_⟩
    exact Lib.indexByte_none hn j (by rw [get_bt_some s j hj, (heq j).2 h62])
  · obtain ⟨o, ho⟩ : ∃ o : Nat, Lib.indexByte s.data.toList (UInt8.ofNat 62) = o := ⟨(Lib.indexByte s.data.toList (UInt8.ofNat 62)).toNat, by omega⟩
    obtain ⟨h1, h2⟩ := Lib.indexByte_some ho
    have hom : o < s.size := by
      have := (List.getElem?_eq_some_iff.1 h1).1
      simpa using this
    rw [get_bt_some s o hom, Option.some.injEq, heq o] at h1
    refine .inr ⟨o, ho, by omega, fun _ => h1, fun j hj h62 => ?_⟩
    exact h2 j hj (by rw [get_bt_some s j (by omega), (heq j).2 h62])

end Go.Proofs.Qxb6601067a

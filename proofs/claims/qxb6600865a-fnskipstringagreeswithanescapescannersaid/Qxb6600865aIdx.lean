import Derived.Test.Qxb6600865aRows
import Derived.WalkKit
import Derived.WalkSpells
import Derived.WalkLawsBesides
import Derived.Lib.BytesEntry
import Derived.Lib.IndexLaws
namespace Go.Proofs.Qxb6600865a
open Go.RowKit
set_option linter.unusedVariables false

set_option maxHeartbeats 400000 in
set_option maxRecDepth 100000 in
/-- bytes.IndexByte at a slice whose cells are known. -/
theorem bytes_IndexByte (b off n c : Nat) (xs : List Int) (hx : xs.length = n) (cv : Int) (w : World) (hc : ∀ i, i < n → w.cell? ⟨b, off + i, none⟩ = some (.int .u8 (xs.getD i 0))) :
    Calls Try.prog 36 #[.slice (some ⟨b, off, none⟩) n c, .int .u8 cv] w fun e w' => e = .returned (.int .i64 (Lib.indexByte (Lib.bytesOf xs) cv.toNat.toUInt8)) ∧ w' = w := by
  have H : Hid _ := Lib.run_indexByteSlice (P := Try.prog) w b off n c xs hx hc cv
  clear hc hx
  go_enter Try.func36, Try.ntmps36
  go_wp2
  rw [run_callFunc_extern Try.func41 (by kernel_rfl) (by kernel_rfl) (by kernel_rfl) (e := Extern.BytealgIndexByte.indexByte) (by kernel_rfl), H.out]
  simp only [Result.andThen]
  rw [Oper.upon_value]
  go_wp2
  go_ret
  exact ⟨rfl, rfl⟩

/-- What IndexByte answers on bytes that are given by their places. -/
theorem index_said (f : Nat → Int) (i m : Nat) (hf : ∀ j, j < m → 0 ≤ f (i + j) ∧ f (i + j) ≤ 255) :
    (Lib.indexByte (Lib.bytesOf ((List.range m).map fun j => f (i + j))) (34 : Int).toNat.toUInt8 = -1 ∧ ∀ j, j < m → f (i + j) ≠ 34) ∨
    ∃ o : Nat, Lib.indexByte (Lib.bytesOf ((List.range m).map fun j => f (i + j))) (34 : Int).toNat.toUInt8 = o ∧ o < m ∧ f (i + o) = 34 ∧ ∀ j, j < o → f (i + j) ≠ 34 := by
  have hget : ∀ j, j < m → (Lib.bytesOf ((List.range m).map fun j => f (i + j)))[j]? = some (UInt8.ofNat (f (i + j)).toNat) := by
    intro j hj
    simp [Lib.bytesOf, hj]
  have hlen : (Lib.bytesOf ((List.range m).map fun j => f (i + j))).length = m := by simp [Lib.bytesOf]
  have hc : (34 : Int).toNat.toUInt8 = UInt8.ofNat 34 := rfl
  have heq : ∀ j, j < m → (UInt8.ofNat (f (i + j)).toNat = UInt8.ofNat 34 ↔ f (i + j) = 34) := by
    intro j hj
    have hb := hf j hj
    constructor
    · intro h
      have h2 := congrArg UInt8.toNat h
      simp only [UInt8.toNat_ofNat'] at h2
      omega
    · intro h
      rw [h]
      rfl
  have hge := Lib.indexByte_ge (Lib.bytesOf ((List.range m).map fun j => f (i + j))) (34 : Int).toNat.toUInt8
  rw [hc] at hge ⊢
  by_cases hn : Lib.indexByte (Lib.bytesOf ((List.range m).map fun j => f (i + j))) (UInt8.ofNat 34) = -1
  · refine .inl ⟨hn, fun j hj h34 => ?_⟩
    exact Lib.indexByte_none hn j (by rw [hget j hj, (heq j hj).2 h34])
  · obtain ⟨o, ho⟩ : ∃ o : Nat, Lib.indexByte (Lib.bytesOf ((List.range m).map fun j => f (i + j))) (UInt8.ofNat 34) = o := ⟨(Lib.indexByte (Lib.bytesOf ((List.range m).map fun j => f (i + j))) (UInt8.ofNat 34)).toNat, by omega⟩
    obtain ⟨h1, h2⟩ := Lib.indexByte_some ho
    have hom : o < m := by
      have := (List.getElem?_eq_some_iff.1 h1).1
      omega
    rw [hget o hom, Option.some.injEq, heq o hom] at h1
    refine .inr ⟨o, ho, hom, h1, fun j hj h34 => ?_⟩
    exact h2 j hj (by rw [hget j (by omega), (heq j (by omega)).2 h34])

/-- bytes.IndexByte of a quote, at bytes that are given by their places. -/
theorem quote_IndexByte (g i m c : Nat) (f : Nat → Int) (w : World) (hf : ∀ j, j < m → 0 ≤ f (i + j) ∧ f (i + j) ≤ 255) (hc : ∀ j, j < m → w.cell? ⟨g, i + j, none⟩ = some (.int .u8 (f (i + j)))) :
    Calls Try.prog 36 #[.slice (some ⟨g, i, none⟩) m c, .int .u8 34] w fun e w' => ∃ q : Int, e = .returned (.int .i64 q) ∧ w' = w ∧
      ((q = -1 ∧ ∀ j, j < m → f (i + j) ≠ 34) ∨ ∃ o : Nat, q = o ∧ o < m ∧ f (i + o) = 34 ∧ ∀ j, j < o → f (i + j) ≠ 34) := by
  refine (bytes_IndexByte g i m c ((List.range m).map fun j => f (i + j)) (by simp) 34 w (fun j hj => ?_)).mono ?_
  · rw [hc j hj]; simp [List.getD_eq_getElem?_getD, hj]
  · rintro e w' ⟨rfl, rfl⟩
    exact ⟨_, rfl, rfl, index_said f i m hf⟩

end Go.Proofs.Qxb6600865a

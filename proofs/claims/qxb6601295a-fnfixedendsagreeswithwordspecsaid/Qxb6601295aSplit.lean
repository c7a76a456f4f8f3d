import Derived.Test.Qxb6601295aRows
import Derived.Test.Qxb6601295aPlain
import Derived.WalkKit
import Derived.WalkSpells
import Derived.WalkLawsBesides
import Derived.Deep.AppendLies
import Derived.Lib.Strings
import Derived.Lib.IndexBytes
import Derived.PlainAid
namespace Go.Proofs.Qxb6601295a
open Go.RowKit Go.PlainAid
set_option linter.unusedVariables false

theorem info9 : (Try.prog.info? 9).map (fun i => (i.zero, i.size, i.bytes)) = some (some (.string ⟨#[]⟩), 1, 16) := by kernel_rfl
theorem info5 : (Try.prog.info? 5).map (fun i => (i.zero, i.size, i.bytes)) = some (some (.int .u8 0), 1, 1) := by kernel_rfl

/-- A list of bytes as a Go string. -/
def strV (l : List UInt8) : Value := .string ⟨l.toArray⟩

theorem str_eq (s : ByteArray) (l : List UInt8) (h : s.data.toList = l) : Value.string s = strV l := by
  subst h; rfl
theorem piece (s : ByteArray) (a b : Nat) : Value.string (s.extract a b) = strV ((s.data.toList.drop a).take (b - a)) := str_eq _ _ (Lib.extract_data s a b)
theorem piece_end (s : ByteArray) (a : Nat) : Value.string (s.extract a s.size) = strV (s.data.toList.drop a) := str_eq _ _ (Lib.extract_to_end s a)

theorem get_bt_some (s : ByteArray) (j : Nat) (hj : j < s.size) : s.data.toList[j]? = some (UInt8.ofNat (bt s j).toNat) := by
  have h : j < s.data.toList.length := by simpa using hj
  rw [List.getElem?_eq_getElem h, ← get_bt s j hj]
  simp
  rfl
theorem bt_is (s : ByteArray) (j : Nat) (hj : j < s.size) (c : Nat) (hc : c < 256) : (s.data.toList[j]? = some (UInt8.ofNat c) ↔ bt s j = c) := by
  rw [get_bt_some s j hj, Option.some.injEq]
  have h1 := bt_nonneg s j
  have h2 := bt_le s j
  constructor
  · intro h
    have h2 := congrArg UInt8.toNat h
    simp only [UInt8.toNat_ofNat'] at h2
    omega
  · intro h
    rw [h]
    rfl

/-- WHAT HOLDS OF THE WORDS CUT OFF SO FAR: 'pre'; what is left begins at a; no dot from a to k. -/
def Cut (l : List UInt8) (pre : List (List UInt8)) (a k : Nat) : Prop := Fe.split l = pre ++ Fe.split (l.drop a) ∧ ∀ j, a ≤ j → j < k → l[j]? ≠ some 46

theorem cut_start (l : List UInt8) : Cut l [] 0 0 := ⟨rfl, fun j h1 h2 => by omega⟩
theorem cut_on (l : List UInt8) (pre : List (List UInt8)) (a k : Nat) (h : Cut l pre a k) (hk : l[k]? ≠ some 46) : Cut l pre a (k + 1) :=
  ⟨h.1, fun j h1 h2 => by
    rcases Nat.lt_or_ge j k with hlt | hge
    · exact h.2 j h1 hlt
    · rw [show j = k from by omega]; exact hk⟩
theorem cut_dot (l : List UInt8) (pre : List (List UInt8)) (a k : Nat) (h : Cut l pre a k) (ha : a ≤ k) (hk : l[k]? = some 46) : Cut l (pre ++ [(l.drop a).take (k - a)]) (k + 1) (k + 1) := by
  refine ⟨?_, fun j h1 h2 => by omega⟩
  rw [h.1, Fe.split_step (l.drop a) (k - a) (by rw [List.getElem?_drop, show a + (k - a) = k from by omega]; exact hk) (fun j hj => by rw [List.getElem?_drop]; exact h.2 (a + j) (by omega) (by omega)),
    List.drop_drop, show a + (k - a + 1) = k + 1 from by omega, List.append_assoc]
  rfl
theorem cut_end (l : List UInt8) (pre : List (List UInt8)) (a : Nat) (h : Cut l pre a l.length) : Fe.split l = pre ++ [l.drop a] := by
  rw [h.1, Fe.split_rest (l.drop a) (fun j hj => ?_)]
  rw [List.getElem?_drop] at hj
  exact h.2 (a + j) (by omega) (List.getElem?_eq_some_iff.1 hj).1 hj

theorem cell_new (w : World) (x : Value) (t : TypeId) : ∀ j u, [x][j]? = some u → (w.alloc (.cells #[x] t)).cell? ((⟨w.heap.size, 0, none⟩ : Addr).add j) = some u :=
  World.news_of_block (cs := #[x]) (t := t) (fr := (0, 0)) (heap_alloc_new w _)

theorem below_app {w wr w1 : World} {e : TypeId} {size n : Nat} {v : Value} {xs : List Value} {o : Obj} (hown : wr.ownsRow w.heap.size e size v n xs) (hbel : Below w.heap.size w wr) (hgrow : (wr.alloc o).grownBy w1 v.ownBlock) : Below w.heap.size w w1 :=
  (hbel.alloc hbel.size o).grown hgrow (by have := hbel.size; simp; omega) (fun k hk => (hown.lt k hk).1)

set_option maxHeartbeats 1000000 in
set_option maxRecDepth 100000 in
/-- tmSplit: the words. -/
theorem split_calls (s : ByteArray) (hs : s.size ≤ 65536) (w : World) :
    Calls Try.prog 23 #[.string s] w fun e w' => ∃ g cap, e = .returned (.slice (some ⟨g, 0, none⟩) (Fe.split s.data.toList).length cap) ∧
      w'.ownsRow w.heap.size 9 1 (.slice (some ⟨g, 0, none⟩) (Fe.split s.data.toList).length cap) (Fe.split s.data.toList).length ((Fe.split s.data.toList).map strV) ∧ Below w.heap.size w w' := by
  obtain ⟨i0, hi0, hz0, hz1, hz2⟩ := info_parts info9
  have hb := get_bt s
  have hsl : s.data.toList.length = s.size := by simp
  have HSL : Hid _ := hsl
  clear hsl
  go_enter Try.func23, Try.ntmps23
  go_wp2
  go_loopw [3, 4, 5] (fun v st i wr => ∃ (k a : Nat) (pre : List (List UInt8)), k ≤ s.size ∧ a ≤ k ∧ pre.length ≤ k ∧ i = .int .i64 k ∧ st = .int .i64 a ∧ wr.ownsRow w.heap.size 9 1 v pre.length (pre.map strV) ∧ Below w.heap.size w wr ∧ Hid (Cut s.data.toList pre a k))
    (fun _ _ i _ => s.size - (intOf i).toNat)
  case atStart => exact ⟨0, 0, [], by omega, by omega, by simp, rfl, rfl, World.ownsRow_nil _ _ _ _, Below.refl _ _, cut_start _⟩
  case round =>
    obtain ⟨k, a, pre, hk, ha, hpre, rfl, rfl, hown, hbel, hcut⟩ := hrel
    have hsz := hbel.size
    by_cases hkn : k < s.size
    · by_cases h46 : bt s k = 46
      · go_wp2_with (at_builtin; refine wpList_append_own _ rfl _ _ 23 rfl w.heap.size 9 i0 (.string ⟨#[]⟩) 1 16 Try.underlying23 hi0 hz0 hz1 hz2 rfl (by decide) _ _ _ rfl (hown.alloc _) ⟨wr.heap.size, 0, none⟩ 1 1 [.string (s.extract a k)] rfl rfl (cell_new _ _ _) (by simp [Value.oneCell']) (by unfold maxLen; omega) (by omega) (by simp; omega) ?_; intro v' w1 hown' hgrow _)
        have hbel' := below_app hown hbel hgrow
        have hown2 : w1.ownsRow w.heap.size 9 1 v' (pre ++ [(s.data.toList.drop a).take (k - a)]).length ((pre ++ [(s.data.toList.drop a).take (k - a)]).map strV) := by
          rw [piece] at hown'
          simpa using hown'
        clear hown' hgrow hown hbel
        go_roundw
        case rel => exact ⟨k + 1, k + 1, _, by omega, by omega, by simp; omega, by go_num, by go_num, hown2, hbel', cut_dot _ _ _ _ hcut ha ((bt_is s k hkn 46 (by omega)).2 h46)⟩
        case measure => simp [intOf]; omega
      · go_wp2
        go_roundw
        case rel => exact ⟨k + 1, a, pre, by omega, by omega, by omega, by go_num, rfl, hown, hbel, cut_on _ _ _ _ hcut (fun h => h46 ((bt_is s k hkn 46 (by omega)).1 h))⟩
        case measure => simp [intOf]; omega
    · have hfin : Hid (Fe.split s.data.toList = pre ++ [s.data.toList.drop a]) := by
        refine cut_end _ _ _ ?_
        rw [HSL.out, show s.size = k from by omega]
        exact hcut
      go_wp2_with (at_builtin; refine wpList_append_lies _ rfl _ _ 23 rfl w.heap.size 9 i0 (.string ⟨#[]⟩) 1 16 Try.underlying23 hi0 hz0 hz1 hz2 rfl (by decide) _ _ _ rfl (hown.alloc _) ⟨wr.heap.size, 0, none⟩ 1 1 [.string (s.extract a s.size)] rfl rfl (cell_new _ _ _) (by simp [Value.oneCell']) (by omega) (by unfold maxLen; omega) (by omega) (by simp; omega) (wr.heap.size + 1) (by simp) ?_; intro g cap w1 hown' hgrow _ _)
      have hbel' := below_app hown hbel hgrow
      have hown2 : w1.ownsRow w.heap.size 9 1 (.slice (some ⟨g, 0, none⟩) (Fe.split s.data.toList).length cap) (Fe.split s.data.toList).length ((Fe.split s.data.toList).map strV) := by
        rw [hfin.out]
        rw [piece_end] at hown'
        simpa using hown'
      have hlen : pre.length + 1 = (Fe.split s.data.toList).length := by rw [hfin.out]; simp
      clear hown' hgrow hown hbel
      go_ret
      exact ⟨g, cap, by rw [← hlen]; rfl, hown2, hbel'⟩

end Go.Proofs.Qxb6601295a

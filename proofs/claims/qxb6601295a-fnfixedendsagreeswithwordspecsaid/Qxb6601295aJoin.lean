import Derived.Test.Qxb6601295aSplit
import Derived.Lib.AppendStr
import Derived.Laws.IdiomStrings
import Derived.Laws.BytesArg
namespace Go.Proofs.Qxb6601295a
open Go.RowKit Go.PlainAid
set_option linter.unusedVariables false

/-- Bytes as cells. -/
def byteCells (l : List UInt8) : List Value := l.map fun b => Value.int .u8 (b.toNat : Int)
theorem strCells_is (l : List UInt8) : Lib.strCells ⟨l.toArray⟩ = byteCells l := rfl

/-- 'string(b)' of a row of bytes that the call owns. -/
theorem conv_own {w : World} {base : Nat} {v : Value} (l : List UInt8) (hown : w.ownsRow base 5 1 v l.length (byteCells l)) : (convert 22 9 v).run Try.prog w = .ok (strV l) w := by
  rcases hown.2 with ⟨rfl, h0⟩ | ⟨g, cap, cur, rfl, _⟩
  · rw [run_convert_bytes_nil (P := Try.prog) w 22 5 Try.underlying22 Try.underlying5 0 0 9 Try.underlying9]
    obtain rfl : l = [] := List.eq_nil_of_length_eq_zero h0
    rfl
  · exact run_convert_bytes_back (P := Try.prog) w 22 9 5 ⟨g, 0, none⟩ cap l Try.underlying22 Try.underlying5 Try.underlying9 (fun j hj => hown.cells rfl j _ (by simp [byteCells, hj]))

theorem join_take (ws : List (List UInt8)) (k : Nat) (hk : k < ws.length) : Fe.join (ws.take (k + 1)) = (if k = 0 then ws.getD k [] else Fe.join (ws.take k) ++ [46] ++ ws.getD k []) := by
  have e : ws.take (k + 1) = ws.take k ++ [ws.getD k []] := by
    rw [List.take_succ_eq_append_getElem hk, List.getD_eq_getElem?_getD, List.getElem?_eq_getElem hk]; rfl
  rw [e, Fe.join_snoc]
  by_cases h0 : k = 0
  · subst h0; simp [Fe.joinDot]
  · rw [if_neg h0, Fe.joinDot_join _ (by cases ws with | nil => simp at hk | cons x r => cases k with | zero => exact absurd rfl h0 | succ k => simp)]
theorem join_take_le (ws : List (List UInt8)) : ∀ (d k : Nat), ws.length - k = d → k ≤ ws.length → (Fe.join (ws.take k)).length ≤ (Fe.join ws).length
  | 0, k, h, h2 => by rw [List.take_of_length_le (by omega)]; exact Nat.le_refl _
  | d + 1, k, h, h2 => by
    have ih := join_take_le ws d (k + 1) (by omega) (by omega)
    rw [join_take ws k (by omega)] at ih
    split at ih
    · rename_i h0; subst h0; simp [Fe.join]
    · simp only [List.length_append] at ih; omega

theorem cell_on {w w1 : World} {g j : Nat} {v : Value} (hb : Below w.heap.size w w1) (hg : g < w.heap.size) (h : w.cell? ⟨g, j, none⟩ = some v) : w1.cell? ⟨g, j, none⟩ = some v :=
  (hb.cell (p := ⟨g, j, none⟩) hg).trans h
theorem below_str {w wr w1 : World} {e : TypeId} {size n : Nat} {v : Value} {xs : List Value} (hown : wr.ownsRow w.heap.size e size v n xs) (hbel : Below w.heap.size w wr) (hgrow : wr.grownBy w1 v.ownBlock) : Below w.heap.size w w1 :=
  hbel.grown hgrow hbel.size (fun k hk => (hown.lt k hk).1)

set_option maxHeartbeats 1000000 in
set_option maxRecDepth 100000 in
/-- feJoin: the words, a dot between. -/
theorem join_calls (g o cap : Nat) (ws : List (List UInt8)) (hn : ws.length ≤ 65537) (hl : (Fe.join ws).length ≤ 65536) (w : World) (hg : g < w.heap.size)
    (hc : ∀ j, j < ws.length → w.cell? ⟨g, o + j, none⟩ = some (strV (ws.getD j []))) :
    Calls Try.prog 39 #[.slice (some ⟨g, o, none⟩) ws.length cap] w fun e w' => e = .returned (strV (Fe.join ws)) ∧ Below w.heap.size w w' := by
  obtain ⟨i0, hi0, hz0, hz1, hz2⟩ := info_parts info5
  have HC : Hid _ := hc
  clear hc
  generalize hm : ws.length = m at *
  have HM : Hid _ := hm
  clear hm
  go_enter Try.func39, Try.ntmps39
  go_wp2
  go_loopw [3, 4] (fun v i wr => ∃ (k : Nat) (l : List UInt8), k ≤ m ∧ l.length ≤ 65536 ∧ i = .int .i64 k ∧ wr.ownsRow w.heap.size 5 1 v l.length (byteCells l) ∧ Below w.heap.size w wr ∧ Hid (l = Fe.join (ws.take k)))
    (fun _ i _ => m - (intOf i).toNat)
  case atStart => exact ⟨0, [], by omega, by simp, rfl, World.ownsRow_nil _ _ _ _, Below.refl _ _, by simp [Hid, Fe.join]⟩
  case round =>
    obtain ⟨k, l, hk, hll, rfl, hown, hbel, hlj⟩ := hrel
    have hsz := hbel.size
    by_cases hkm : k < m
    · obtain ⟨x, hx⟩ : ∃ x, ws.getD k [] = x := ⟨_, rfl⟩
      have hcw : w.cell? ⟨g, o + k, none⟩ = some (.string ⟨x.toArray⟩) := by
        rw [HC.out k hkm, hx]; rfl
      have hcell := cell_on hbel hg hcw
      have hxs : (⟨x.toArray⟩ : ByteArray).size = x.length := by simp [ByteArray.size]
      have hstep := join_take ws k (by rw [HM.out]; exact hkm)
      rw [hx, ← hlj.out] at hstep
      have hle := join_take_le ws _ (k + 1) rfl (by rw [HM.out]; omega)
      rw [hstep] at hle
      have HST : Hid _ := hstep
      have HLE : Hid _ := hle
      clear hstep hle hx
      by_cases hk0 : k = 0
      · have hxl : x.length ≤ 65536 := by have := HLE.out; rw [if_pos hk0] at this; omega
        subst hk0
        have hl0 : l = [] := by rw [hlj.out]; simp [Fe.join]
        subst hl0
        rw [Nat.add_zero] at hcell
        go_wp2_with (at_builtin; refine Lib.wpList_append_own_string _ rfl (.tmp 16) (.tmp 20) 22 9 rfl w.heap.size 5 i0 Try.underlying22 Try.underlying9 hi0 hz0 hz1 hz2 _ _ _ rfl hown ⟨x.toArray⟩ rfl (by rw [hxs]; unfold maxLen; simp; omega) (by rw [hxs]; simp; omega) (by omega) ?_; intro v2 w2 hown2 hgrow2 _; have hb2 := below_str hown hbel hgrow2)
        have hown3 : w2.ownsRow w.heap.size 5 1 v2 x.length (byteCells x) := by
          rw [hxs, strCells_is] at hown2
          simpa [byteCells] using hown2
        clear hown hown2 hgrow2 hbel
        go_roundw
        case rel => exact ⟨1, x, by omega, by omega, rfl, hown3, hb2, HST.out.symm⟩
        case measure => simp [intOf]; omega
      · have hxl : l.length + 1 + x.length ≤ 65536 := by have := HLE.out; rw [if_neg hk0] at this; simp at this; omega
        go_wp2_with (first | (at_builtin; refine wpList_append_own _ rfl (.tmp 13) (.tmp 14) 22 rfl w.heap.size 5 i0 (.int .u8 0) 1 1 Try.underlying22 hi0 hz0 hz1 hz2 rfl (by decide) _ _ _ rfl (hown.alloc _) ⟨wr.heap.size, 0, none⟩ 1 1 [.int .u8 46] rfl rfl (cell_new _ _ _) (by simp [Value.oneCell']) (by unfold maxLen; omega) (by omega) (by simp; omega) ?_; intro v1 w1 hown1 hgrow1 _; have hb1 := below_app hown hbel hgrow1; have hc1 := cell_on hb1 hg hcw; have hz1' := hb1.size) | (at_builtin; refine Lib.wpList_append_own_string _ rfl (.tmp 16) (.tmp 20) 22 9 rfl w.heap.size 5 i0 Try.underlying22 Try.underlying9 hi0 hz0 hz1 hz2 _ _ _ rfl hown1 ⟨x.toArray⟩ rfl (by rw [hxs]; unfold maxLen; omega) (by rw [hxs]; omega) (by omega) ?_; intro v2 w2 hown2 hgrow2 _; have hb2 := below_str hown1 hb1 hgrow2))
        have hown3 : w2.ownsRow w.heap.size 5 1 v2 (l ++ [46] ++ x).length (byteCells (l ++ [46] ++ x)) := by
          have e : (l ++ [46] ++ x).length = l.length + 1 + x.length := by simp; omega
          rw [hxs, strCells_is] at hown2
          rw [e]
          simpa [byteCells] using hown2
        clear hown hown1 hown2 hgrow1 hgrow2 hb1
        go_roundw
        case rel => exact ⟨k + 1, _, by omega, by simp; omega, by go_num, hown3, hb2, by have := HST.out; rw [if_neg hk0] at this; exact this.symm⟩
        case measure => simp [intOf]; omega
    · have hconv := conv_own l hown
      go_wp2
      go_ret
      exact ⟨by rw [hlj.out, List.take_of_length_le (by rw [HM.out]; omega)]; rfl, hbel⟩

end Go.Proofs.Qxb6601295a

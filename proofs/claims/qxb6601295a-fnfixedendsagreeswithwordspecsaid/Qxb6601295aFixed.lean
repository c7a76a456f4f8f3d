import Derived.Test.Qxb6601295aTrim
import Derived.Deep.QuietTactic
import Derived.BigQuiet
namespace Go.Proofs.Qxb6601295a
open Go.RowKit Go.PlainAid
set_option linter.unusedVariables false

/-- Where fixedEnds' loop stands: the words pre are seen; the next one begins at a; or all are seen. -/
def Seen (l : List UInt8) (pre : List (List UInt8)) (a : Nat) : Prop :=
  (a ≤ l.length ∧ a = (Fe.joinDot pre).length ∧ Fe.split l = pre ++ Fe.split (l.drop a)) ∨ (a = l.length + 1 ∧ Fe.split l = pre)

theorem seen_len {l : List UInt8} {pre : List (List UInt8)} {a : Nat} (h : Seen l pre a) (ha : a ≤ l.length) : (Fe.joinDot pre).length = a := by
  rcases h with ⟨_, h, _⟩ | ⟨h, _⟩
  · exact h.symm
  · omega
theorem seen_last {l : List UInt8} {pre : List (List UInt8)} {a : Nat} (h : Seen l pre a) (ha : a ≤ l.length) (hq : Lib.indexByte (l.drop a) 46 = -1) : Seen l (pre ++ [l.drop a]) (l.length + 1) := by
  rcases h with ⟨_, h1, h2⟩ | ⟨h, _⟩
  · refine .inr ⟨rfl, ?_⟩
    rw [h2, Fe.split_rest (l.drop a) (Lib.indexByte_none hq)]
  · omega
theorem seen_next {l : List UInt8} {pre : List (List UInt8)} {a o : Nat} (h : Seen l pre a) (ha : a ≤ l.length) (hq : Lib.indexByte (l.drop a) 46 = o) : Seen l (pre ++ [(l.drop a).take o]) (a + o + 1) ∧ a + o < l.length := by
  obtain ⟨h46, hno⟩ := Lib.indexByte_some hq
  have hlt : o < (l.drop a).length := (List.getElem?_eq_some_iff.1 h46).1
  rw [List.length_drop] at hlt
  rcases h with ⟨_, h1, h2⟩ | ⟨h, _⟩
  · refine ⟨.inl ⟨by omega, ?_, ?_⟩, by omega⟩
    · rw [Fe.joinDot_snoc, ← h1, List.length_take, List.length_drop]; omega
    · rw [h2, Fe.split_step (l.drop a) o h46 hno, List.drop_drop, show a + (o + 1) = a + o + 1 from by omega, List.append_assoc]
      rfl
  · omega

/-- What fixedEnds answers, P and S, of the value l. -/
def Tells (l P S : List UInt8) : Prop :=
  (Fe.firstPos (Fe.split l) = -1 ∧ P = l ∧ S = l) ∨
  ∃ p q : Nat, Fe.firstPos (Fe.split l) = p ∧ Fe.lastPos (Fe.split l) = q ∧ p ≤ l.length ∧ q ≤ l.length ∧ ((p = 0 ∧ P = []) ∨ l.take p = P ++ [46]) ∧ ((q = l.length ∧ S = []) ∨ l.drop q = 46 :: S) ∧ P.length ≤ 65536 ∧ S.length ≤ 65536

theorem val_eq {a b : Int} (h : a = b) : Value.int .i64 a = Value.int .i64 b := by rw [h]

set_option maxHeartbeats 2000000 in
set_option maxRecDepth 100000 in
/-- fixedEnds on a routing key. -/
theorem fixed_routing (pb : Nat) (s : ByteArray) (hs : s.size ≤ 65536) (P S : List UInt8) (ht : Tells s.data.toList P S) (w : World)
    (h0 : w.cell? ⟨pb, 0, none⟩ = some (.string s)) (h2 : w.cell? ⟨pb, 2, none⟩ = some (.int .u8 3)) :
    Calls Try.prog 38 #[.pointer (some ⟨pb, 0, none⟩)] w fun e w' => e = .returned (.tuple #[strV P, strV S]) ∧ Below w.heap.size w w' := by
  have hsl : s.data.toList.length = s.size := by simp
  have hee : Hid (∀ a, (s.extract a s.size).data.toList = s.data.toList.drop a) := fun a => Lib.extract_to_end s a
  have hex : Hid (∀ a b, (s.extract a b).data.toList = (s.data.toList.drop a).take (b - a)) := fun a b => Lib.extract_data s a b
  generalize hl : s.data.toList = l at *
  have HL : Hid _ := hl
  have HSL : Hid _ := hsl
  have HT : Hid _ := ht
  clear hl hsl ht
  go_enter Try.func38, Try.ntmps38
  go_wp2
  go_loop [5, 6, 7] (fun fi li st => ∃ (a : Nat) (pre : List (List UInt8)), a ≤ s.size + 1 ∧ st = .int .i64 a ∧ fi = .int .i64 (Fe.firstPos pre) ∧ li = .int .i64 (Fe.lastPos pre) ∧ Hid (Seen l pre a)) (fun _ _ st => s.size + 2 - (intOf st).toNat)
  case atStart => exact ⟨0, [], by omega, rfl, rfl, rfl, .inl ⟨Nat.zero_le _, rfl, rfl⟩⟩
  case round =>
    obtain ⟨a, pre, ha, rfl, rfl, rfl, hseen⟩ := hrel
    by_cases han : a ≤ s.size
    · have hjl := seen_len hseen (by rw [HSL.out]; exact han)
      have f1 : Hid (∀ x, _) := fun x => Fe.firstPos_wild pre x
      have f2 : Hid (∀ x, _) := fun x => Fe.firstPos_kept pre x
      have f3 : Hid (∀ x, _) := fun x => Fe.firstPos_plain pre x
      have l1 : Hid (∀ x, _) := fun x => Fe.lastPos_wild pre x
      have l2 : Hid (∀ x, _) := fun x => Fe.lastPos_plain pre x
      rw [hjl] at f1 l1
      clear hjl
      generalize Fe.firstPos pre = F at *
      generalize Fe.lastPos pre = L at *
      go_wp2_with fail
      refine (strings_IndexByte _ _ _).mono ?_
      rintro e w1 ⟨rfl, rfl⟩
      rw [hee.out a]
      have hge := Lib.indexByte_ge (l.drop a) 46
      have hc46 : (46 : Int).toNat.toUInt8 = 46 := rfl
      rw [hc46]
      clear hc46
      generalize hq : Lib.indexByte (l.drop a) 46 = q at *
      have HQ : Hid _ := hq
      clear hq
      by_cases hq0 : q < 0
      · have hnx := seen_last hseen (by rw [HSL.out]; exact han) (by rw [HQ.out]; omega)
        rw [HSL.out] at hnx
        have HN : Hid _ := hnx
        have hx : (s.extract a s.size).toList = l.drop a := by rw [Lib.toList_data]; exact hee.out a
        have hxl : Hid ((l.drop a).length = s.size - a) := by show (l.drop a).length = s.size - a; rw [List.length_drop, HSL.out]
        clear hnx
        generalize l.drop a = x at *
        cases h1 : (x == [42])
        · cases h2' : (x == [35])
          · have hw : Hid (Fe.wild x = false) := by show (x == [42] || x == [35]) = false; rw [h1, h2']; rfl
            go_wp2
            go_round
            case rel => exact ⟨s.size + 1, pre ++ [x], by omega, by go_num, val_eq (f3.out x hw.out).symm, val_eq (l2.out x hw.out).symm, HN.out⟩
            case measure => simp [intOf]; omega
          · have hw : Hid (Fe.wild x = true) := by show (x == [42] || x == [35]) = true; rw [h1, h2']; rfl
            by_cases hF : F < 0
            · skip
              go_wp2
              go_round
              case rel => exact ⟨s.size + 1, pre ++ [x], by omega, by go_num, val_eq (f1.out x hw.out hF).symm, val_eq (by rw [l1.out x hw.out]; have := hxl.out; omega), HN.out⟩
              case measure => simp [intOf]; omega
            · skip
              go_wp2
              go_round
              case rel => exact ⟨s.size + 1, pre ++ [x], by omega, by go_num, val_eq (f2.out x hF).symm, val_eq (by rw [l1.out x hw.out]; have := hxl.out; omega), HN.out⟩
              case measure => simp [intOf]; omega
        · have hw : Hid (Fe.wild x = true) := by show (x == [42] || x == [35]) = true; rw [h1]; rfl
          by_cases hF : F < 0
          · skip
            go_wp2
            go_round
            case rel => exact ⟨s.size + 1, pre ++ [x], by omega, by go_num, val_eq (f1.out x hw.out hF).symm, val_eq (by rw [l1.out x hw.out]; have := hxl.out; omega), HN.out⟩
            case measure => simp [intOf]; omega
          · skip
            go_wp2
            go_round
            case rel => exact ⟨s.size + 1, pre ++ [x], by omega, by go_num, val_eq (f2.out x hF).symm, val_eq (by rw [l1.out x hw.out]; have := hxl.out; omega), HN.out⟩
            case measure => simp [intOf]; omega
      · obtain ⟨o, rfl⟩ := Int.eq_ofNat_of_zero_le (by omega : 0 ≤ q)
        obtain ⟨hnx, hao⟩ := seen_next hseen (by rw [HSL.out]; exact han) HQ.out
        rw [HSL.out] at hao
        have HN : Hid _ := hnx
        have hx : (s.extract a (a + o)).toList = (l.drop a).take o := by rw [Lib.toList_data, hex.out a (a + o), show a + o - a = o from by omega]
        have hxl : Hid (((l.drop a).take o).length = o) := by show ((l.drop a).take o).length = o; rw [List.length_take, List.length_drop, HSL.out]; omega
        clear hnx
        generalize (l.drop a).take o = x at *
        cases h1 : (x == [42])
        · cases h2' : (x == [35])
          · have hw : Hid (Fe.wild x = false) := by show (x == [42] || x == [35]) = false; rw [h1, h2']; rfl
            go_wp2
            go_round
            case rel => exact ⟨a + o + 1, pre ++ [x], by omega, by go_num, val_eq (f3.out x hw.out).symm, val_eq (l2.out x hw.out).symm, HN.out⟩
            case measure => simp [intOf]; omega
          · have hw : Hid (Fe.wild x = true) := by show (x == [42] || x == [35]) = true; rw [h1, h2']; rfl
            by_cases hF : F < 0
            · skip
              go_wp2
              go_round
              case rel => exact ⟨a + o + 1, pre ++ [x], by omega, by go_num, val_eq (f1.out x hw.out hF).symm, val_eq (by rw [l1.out x hw.out]; have := hxl.out; omega), HN.out⟩
              case measure => simp [intOf]; omega
            · skip
              go_wp2
              go_round
              case rel => exact ⟨a + o + 1, pre ++ [x], by omega, by go_num, val_eq (f2.out x hF).symm, val_eq (by rw [l1.out x hw.out]; have := hxl.out; omega), HN.out⟩
              case measure => simp [intOf]; omega
        · have hw : Hid (Fe.wild x = true) := by show (x == [42] || x == [35]) = true; rw [h1]; rfl
          by_cases hF : F < 0
          · skip
            go_wp2
            go_round
            case rel => exact ⟨a + o + 1, pre ++ [x], by omega, by go_num, val_eq (f1.out x hw.out hF).symm, val_eq (by rw [l1.out x hw.out]; have := hxl.out; omega), HN.out⟩
            case measure => simp [intOf]; omega
          · skip
            go_wp2
            go_round
            case rel => exact ⟨a + o + 1, pre ++ [x], by omega, by go_num, val_eq (f2.out x hF).symm, val_eq (by rw [l1.out x hw.out]; have := hxl.out; omega), HN.out⟩
            case measure => simp [intOf]; omega
    · have hpre : pre = Fe.split l := by
        rcases hseen with ⟨h, _⟩ | ⟨_, h⟩
        · rw [HSL.out] at h; omega
        · exact h.symm
      subst hpre
      rcases HT.out with ⟨hF, hP, hS⟩ | ⟨p, q, hF, hL, hp, hq, hP, hS, hPl, hSl⟩
      · rw [hF]
        have HP : Hid _ := hP
        have HQ : Hid _ := hS
        clear hF hP hS
        go_wp2
        go_ret2
        rw [HP.out, HQ.out, ← HL.out, ← str_eq s _ rfl]
        exact ⟨rfl, Below.refl _ _⟩
      · rw [hF, hL]
        rw [HSL.out] at hp hq
        have hp0 : (0 : Int) ≤ (p : Int) := by omega
        have hp1 : (p : Int) ≤ (s.size : Int) := by omega
        have hq1 : (q : Int) ≤ (s.size : Int) := by omega
        have HP : Hid (((s.extract 0 p).size = 0 ∧ P = []) ∨ (s.extract 0 p).data.toList = P ++ [46]) := by
          rcases hP with ⟨rfl, rfl⟩ | h
          · exact .inl ⟨by rw [Lib.size_eq, hex.out]; simp, rfl⟩
          · exact .inr (by rw [hex.out, List.drop_zero, Nat.sub_zero]; exact h)
        have HQ : Hid (((s.extract q s.size).size = 0 ∧ S = []) ∨ (s.extract q s.size).data.toList = 46 :: S) := by
          rcases hS with ⟨h, rfl⟩ | h
          · exact .inl ⟨by rw [Lib.size_eq, hee.out, List.length_drop]; omega, rfl⟩
          · exact .inr (by rw [hee.out]; exact h)
        clear hF hL hP hS
        go_wp2
        go_quiet (first | (go_at_call 47; exact Calls.quiet_of_same (trimSuffix_calls _ P HP.out hPl _)) | (go_at_call 48; exact Calls.quiet_of_same (trimPrefix_calls _ S HQ.out hSl _)))
        go_wp2
        go_ret2
        exact ⟨rfl, below_drewN (Below.refl _ _) _⟩
end Go.Proofs.Qxb6601295a

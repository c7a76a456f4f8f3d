import Derived.Test.Qxb6601295aJoin
namespace Go.Proofs.Qxb6601295a
open Go.RowKit Go.PlainAid
set_option linter.unusedVariables false

theorem join_calls' (g o cap m : Nat) (ws : List (List UInt8)) (hm : ws.length = m) (hn : m ≤ 65537) (hl : (Fe.join ws).length ≤ 65536) (w : World) (hg : g < w.heap.size)
    (hc : ∀ j, j < m → w.cell? ⟨g, o + j, none⟩ = some (strV (ws.getD j []))) :
    Calls Try.prog 39 #[.slice (some ⟨g, o, none⟩) m cap] w fun e w' => e = .returned (strV (Fe.join ws)) ∧ Below w.heap.size w w' := by
  subst hm
  exact join_calls g o cap ws hn hl w hg hc

theorem model_cut (s : ByteArray) (hs : s.size ≤ 65536) (h0 : 0 < s.size) (w : World) :
    Calls Try.prog 21 #[.string s, .bool false, .bool true] w fun e w' => e = .returned (.tuple #[.string (s.extract 0 (s.size - 1)), .string ⟨#[]⟩]) ∧ w' = w := by
  obtain ⟨n, hn⟩ : ∃ n, s.size = n + 1 := ⟨s.size - 1, by omega⟩
  go_enter Try.func21, Try.ntmps21
  go_wp2
  go_ret2
  exact ⟨by rw [show s.size - 1 = n from by omega]; rfl, rfl⟩
theorem model_plain (s : ByteArray) (w : World) :
    Calls Try.prog 21 #[.string s, .bool false, .bool false] w fun e w' => e = .returned (.tuple #[.string s, .string s]) ∧ w' = w := by
  go_enter Try.func21, Try.ntmps21
  go_wp2
  go_ret2
  exact ⟨rfl, rfl⟩

theorem take_snoc (ws : List (List UInt8)) (k : Nat) (h : k < ws.length) : ws.take (k + 1) = ws.take k ++ [ws.getD k []] := by
  rw [List.take_succ_eq_append_getElem h, List.getD_eq_getElem?_getD, List.getElem?_eq_getElem h]; rfl

theorem getD_take {ws A : List (List UInt8)} {a j : Nat} (h : ws.take a = A) (hj : j < a) : A.getD j [] = ws.getD j [] := by
  rw [← h, List.getD_eq_getElem?_getD, List.getD_eq_getElem?_getD, List.getElem?_take, if_pos hj]
theorem getD_drop {ws C : List (List UInt8)} {b : Nat} (h : ws.drop b = C) (j : Nat) : C.getD j [] = ws.getD (b + j) [] := by
  rw [← h, List.getD_eq_getElem?_getD, List.getD_eq_getElem?_getD, List.getElem?_drop]
theorem below_drew {w1 w2 w3 : World} (h : Below w1.drew.heap.size w1.drew w2) (k : Below w2.heap.size w2 w3) : Below w1.heap.size w1 w3 :=
  ((Below.refl w1.heap.size w1).drew.trans h).trans (k.mono h.size)

/-- What the model answers, P and S, of the words ws of the value l. -/
def Says (l : List UInt8) (ws : List (List UInt8)) (P S : List UInt8) : Prop :=
  (Fe.firstIdx ws = -1 ∧ P = l ∧ S = l) ∨
  ∃ A B C : List (List UInt8), Fe.firstIdx ws = (A.length : Nat) ∧ Fe.lastIdx ws = (B.length : Nat) ∧ ws.take A.length = A ∧ ws.drop (B.length + 1) = C ∧ A.length < ws.length ∧ B.length < ws.length ∧ P = Fe.join A ∧ S = Fe.join C ∧ (Fe.join A).length ≤ 65536 ∧ (Fe.join C).length ≤ 65536

set_option maxHeartbeats 1000000 in
set_option maxRecDepth 100000 in
/-- The model on a routing key. -/
theorem model_routing (s : ByteArray) (hs : s.size ≤ 65536) (b : Bool) (P S : List UInt8) (hN : (Fe.split s.data.toList).length ≤ 65537) (hsay : Says s.data.toList (Fe.split s.data.toList) P S) (w : World) :
    Calls Try.prog 21 #[.string s, .bool true, .bool b] w fun e w' => e = .returned (.tuple #[strV P, strV S]) ∧ Below w.heap.size w w' := by
  have HS : Hid (∀ w, _) := fun w => split_calls s hs w
  have HY : Hid _ := hsay
  clear hsay
  generalize hl : s.data.toList = l at HS HY hN
  have HL : Hid _ := hl
  clear hl
  generalize Fe.split l = ws at HS HY hN
  generalize hm : ws.length = N at *
  have HM : Hid _ := hm
  clear hm
  go_enter Try.func21, Try.ntmps21
  go_wp2_with fail
  refine Calls.mono (HS.out _) ?_
  rintro e w1 ⟨g, cap, rfl, hown, hbel⟩
  have HC : Hid (∀ j, j < N → w1.cell? ⟨g, j, none⟩ = some (strV (ws.getD j []))) := fun j hj => by
    have := hown.cellAt j (by omega)
    rw [this, List.getElem?_map, List.getElem?_eq_getElem (by rw [HM.out]; exact hj), List.getD_eq_getElem?_getD, List.getElem?_eq_getElem (by rw [HM.out]; exact hj)]
    rfl
  have hlt : g < w1.heap.size ∧ N ≤ cap := by
    rcases hown.2 with ⟨h, _⟩ | ⟨g', cap', cur, h, _, hg, hc, _⟩
    · cases h
    · cases h
      exact ⟨(Array.getElem?_eq_some_iff.1 hg).1, hc⟩
  obtain ⟨hg, hcap⟩ := hlt
  clear hown HS
  go_wp2_with fail
  go_loop [9, 10, 11] (fun fi li i => ∃ k : Nat, k ≤ N ∧ i = .int .i64 k ∧ fi = .int .i64 (Fe.firstIdx (ws.take k)) ∧ li = .int .i64 (Fe.lastIdx (ws.take k))) (fun _ _ i => N - (intOf i).toNat)
  case atStart => exact ⟨0, by omega, rfl, rfl, rfl⟩
  case round =>
    obtain ⟨k, hk, rfl, rfl, rfl⟩ := hrel
    by_cases hkN : k < N
    · obtain ⟨x, hx⟩ : ∃ x, ws.getD k [] = x := ⟨_, rfl⟩
      have hcell : w1.cell? ⟨g, k, none⟩ = some (.string ⟨x.toArray⟩) := by
        rw [HC.out k hkN, hx]; rfl
      have hts := take_snoc ws k (by rw [HM.out]; exact hkN)
      rw [hx] at hts
      have hxl : (⟨x.toArray⟩ : ByteArray).toList = x := by rw [Lib.toList_data]
      have ht : (ws.take k).length = k := by rw [List.length_take, HM.out]; omega
      have f1 : Hid _ := Fe.firstIdx_wild (ws.take k) x
      have f2 : Hid _ := Fe.firstIdx_kept (ws.take k) x
      have f3 : Hid _ := Fe.firstIdx_plain (ws.take k) x
      have l1 : Hid _ := Fe.lastIdx_wild (ws.take k) x
      have l2 : Hid _ := Fe.lastIdx_plain (ws.take k) x
      rw [← hts] at f1 f2 f3 l1 l2
      rw [ht] at f1 l1
      clear hts hx ht
      generalize Fe.firstIdx (ws.take k) = F at *
      generalize Fe.lastIdx (ws.take k) = L at *
      cases h1 : (x == [42])
      · cases h2 : (x == [35])
        · have hw : Hid (Fe.wild x = false) := by show (x == [42] || x == [35]) = false; rw [h1, h2]; rfl
          go_wp2
          go_round
          case rel => exact ⟨k + 1, by omega, by go_num, by rw [f3.out hw.out], by rw [l2.out hw.out]⟩
          case measure => simp [intOf]; omega
        · have hw : Hid (Fe.wild x = true) := by show (x == [42] || x == [35]) = true; rw [h1, h2]; rfl
          by_cases hF : F < 0
          · go_wp2
            go_round
            case rel => exact ⟨k + 1, by omega, by go_num, by rw [f1.out hw.out hF], by rw [l1.out hw.out]⟩
            case measure => simp [intOf]; omega
          · go_wp2
            go_round
            case rel => exact ⟨k + 1, by omega, by go_num, by rw [f2.out hF], by rw [l1.out hw.out]⟩
            case measure => simp [intOf]; omega
      · have hw : Hid (Fe.wild x = true) := by show (x == [42] || x == [35]) = true; rw [h1]; rfl
        by_cases hF : F < 0
        · go_wp2
          go_round
          case rel => exact ⟨k + 1, by omega, by go_num, by rw [f1.out hw.out hF], by rw [l1.out hw.out]⟩
          case measure => simp [intOf]; omega
        · go_wp2
          go_round
          case rel => exact ⟨k + 1, by omega, by go_num, by rw [f2.out hF], by rw [l1.out hw.out]⟩
          case measure => simp [intOf]; omega
    · have ht : ws.take k = ws := List.take_of_length_le (by rw [HM.out]; omega)
      rw [ht]
      clear ht
      rcases HY.out with ⟨hF, hP, hS⟩ | ⟨A, B, C, hF, hL, hA, hC, hA2, hB2, hP, hS, hAl, hCl⟩
      · rw [hF]
        have HP : Hid _ := hP
        have HQ : Hid _ := hS
        clear hF hP hS
        go_wp2
        go_ret2
        rw [HP.out, HQ.out, ← HL.out, ← str_eq s _ rfl]
        exact ⟨rfl, hbel⟩
      · rw [hF, hL]
        have HP : Hid _ := hP
        have HQ : Hid _ := hS
        have HA : Hid _ := hA
        have HCC : Hid _ := hC
        clear hF hL hP hS hA hC
        have ha0 : (0 : Int) ≤ (A.length : Int) := by omega
        have ha1 : (A.length : Int) ≤ (cap : Int) := by omega
        obtain ⟨bn, hbn⟩ : ∃ bn, bn = B.length + 1 := ⟨_, rfl⟩
        have hbN : (bn : Int) ≤ (N : Int) := by omega
        have hwb : IntKind.i64.wrap ((B.length : Int) + 1) = (bn : Int) := by rw [IntWalk.i64_in _ ⟨by omega, by omega⟩]; omega
        have HBN : Hid _ := hbn
        clear hbn
        by_cases hcb : cap = bn
        · subst hcb
          go_wp2
          refine wp_region_any (by kernel_rfl) ?_
          try (change wpAny _ _ _ _ _ _ _ (World.drew _))
          refine wpAny_take (i := 0) (v := ?_) rfl (by kernel_rfl) (by kernel_rfl) (by kernel_rfl) (fun _ _ _ h => h) (Or.inl ⟨by rfl, ?hy⟩) ?rest
          case hy => intro w; go_simp; try (with_reducible rfl)
          case rest =>
          refine wpAny_take (i := 1) (v := ?_) rfl (by kernel_rfl) (by kernel_rfl) (by kernel_rfl) (fun _ _ _ h => h) (Or.inl ⟨by rfl, ?hy⟩) ?rest
          case hy => intro w; go_simp; try (with_reducible rfl)
          case rest =>
          refine wpAny_take (i := 2) (v := ?_) rfl (by kernel_rfl) (by kernel_rfl) (by kernel_rfl) (fun _ _ _ h => h) (Or.inl ⟨by rfl, ?hy⟩) ?rest
          case hy => intro w; go_simp; try (with_reducible rfl)
          case rest =>
          refine wpAny_take (i := 4) (v := ?_) rfl (by kernel_rfl) (by kernel_rfl) (by kernel_rfl) (fun _ _ _ h => h) (Or.inl ⟨by rfl, ?hy⟩) ?rest
          case hy => intro w; go_simp; try (with_reducible rfl)
          case rest =>
          refine wpAny_take (i := 5) (v := ?_) rfl (by kernel_rfl) (by kernel_rfl) (by kernel_rfl) (fun _ _ _ h => h) (Or.inl ⟨by rfl, ?hy⟩) ?rest
          case hy => intro w; go_simp; try (with_reducible rfl)
          case rest =>
          refine wpAny_take (i := 6) (v := ?_) rfl (by kernel_rfl) (by kernel_rfl) (by kernel_rfl) (fun _ _ _ h => h) (Or.inl ⟨by rfl, ?hy⟩) ?rest
          case hy => intro w; go_simp; try (with_reducible rfl)
          case rest =>
          refine wpAny_take (i := 7) (v := ?_) rfl (by kernel_rfl) (by kernel_rfl) (by kernel_rfl) (fun _ _ _ h => h) (Or.inl ⟨by rfl, ?hy⟩) ?rest
          case hy => intro w; go_simp; try (with_reducible rfl)
          case rest =>
          refine wpAny_ready (rs := [3]) (by kernel_rfl) (by simp) ?_
          refine AllReady.cons rfl (fun K hK => ?_) AllReady.nil
          go_simp
          refine (join_calls' g 0 _ A.length A rfl (by omega) hAl w1.drew (by exact hg) (fun j hj => (show w1.drew.cell? ⟨g, 0 + j, none⟩ = _ from HC.out (0 + j) (by omega)).trans (by rw [Nat.zero_add, getD_take HA.out hj]))).mono ?_
          rintro e w2 ⟨rfl, hb2⟩
          refine hK _ _ ?_
          clear hK K
          refine wpAny_ready (rs := [8]) (by kernel_rfl) (by simp) ?_
          refine AllReady.cons rfl (fun K hK => ?_) AllReady.nil
          go_simp
          refine (join_calls' g 0 _ (0) C (by rw [← HCC.out, List.length_drop, HM.out]; have := HBN.out; omega) (by omega) hCl w2 (Nat.lt_of_lt_of_le hg hb2.size) (fun j hj => (hb2.cell (p := ⟨g, 0 + j, none⟩) (by exact hg)).trans (absurd hj (by omega)))).mono ?_
          rintro e w3 ⟨rfl, hb3⟩
          refine hK _ _ ?_
          clear hK K
          refine wpAny_take (i := 9) (v := ?_) rfl (by kernel_rfl) (by kernel_rfl) (by kernel_rfl) (fun _ _ _ h => h) (Or.inl ⟨by rfl, ?hy⟩) ?rest
          case hy => intro w; go_simp; try (with_reducible rfl)
          case rest =>
          refine wpAny_take (i := 10) (v := ?_) rfl (by kernel_rfl) (by kernel_rfl) (by kernel_rfl) (fun _ _ _ h => h) (Or.inl ⟨by rfl, ?hy⟩) ?rest
          case hy => intro w; go_simp; try (with_reducible rfl)
          case rest =>
          refine wpAny_done (by kernel_rfl) ?_ _
          go_wp2
          go_ret2
          refine ⟨?_, hbel.trans ((below_drew hb2 hb3).mono hbel.size)⟩
          rw [HP.out, HQ.out]
          rfl
        · go_wp2
          refine wp_region_any (by kernel_rfl) ?_
          try (change wpAny _ _ _ _ _ _ _ (World.drew _))
          refine wpAny_take (i := 0) (v := ?_) rfl (by kernel_rfl) (by kernel_rfl) (by kernel_rfl) (fun _ _ _ h => h) (Or.inl ⟨by rfl, ?hy⟩) ?rest
          case hy => intro w; go_simp; try (with_reducible rfl)
          case rest =>
          refine wpAny_take (i := 1) (v := ?_) rfl (by kernel_rfl) (by kernel_rfl) (by kernel_rfl) (fun _ _ _ h => h) (Or.inl ⟨by rfl, ?hy⟩) ?rest
          case hy => intro w; go_simp; try (with_reducible rfl)
          case rest =>
          refine wpAny_take (i := 2) (v := ?_) rfl (by kernel_rfl) (by kernel_rfl) (by kernel_rfl) (fun _ _ _ h => h) (Or.inl ⟨by rfl, ?hy⟩) ?rest
          case hy => intro w; go_simp; try (with_reducible rfl)
          case rest =>
          refine wpAny_take (i := 4) (v := ?_) rfl (by kernel_rfl) (by kernel_rfl) (by kernel_rfl) (fun _ _ _ h => h) (Or.inl ⟨by rfl, ?hy⟩) ?rest
          case hy => intro w; go_simp; try (with_reducible rfl)
          case rest =>
          refine wpAny_take (i := 5) (v := ?_) rfl (by kernel_rfl) (by kernel_rfl) (by kernel_rfl) (fun _ _ _ h => h) (Or.inl ⟨by rfl, ?hy⟩) ?rest
          case hy => intro w; go_simp; try (with_reducible rfl)
          case rest =>
          refine wpAny_take (i := 6) (v := ?_) rfl (by kernel_rfl) (by kernel_rfl) (by kernel_rfl) (fun _ _ _ h => h) (Or.inl ⟨by rfl, ?hy⟩) ?rest
          case hy => intro w; go_simp; try (with_reducible rfl)
          case rest =>
          refine wpAny_take (i := 7) (v := ?_) rfl (by kernel_rfl) (by kernel_rfl) (by kernel_rfl) (fun _ _ _ h => h) (Or.inl ⟨by rfl, ?hy⟩) ?rest
          case hy => intro w; go_simp; try (with_reducible rfl)
          case rest =>
          refine wpAny_ready (rs := [3]) (by kernel_rfl) (by simp) ?_
          refine AllReady.cons rfl (fun K hK => ?_) AllReady.nil
          go_simp
          refine (join_calls' g 0 _ A.length A rfl (by omega) hAl w1.drew (by exact hg) (fun j hj => (show w1.drew.cell? ⟨g, 0 + j, none⟩ = _ from HC.out (0 + j) (by omega)).trans (by rw [Nat.zero_add, getD_take HA.out hj]))).mono ?_
          rintro e w2 ⟨rfl, hb2⟩
          refine hK _ _ ?_
          clear hK K
          refine wpAny_ready (rs := [8]) (by kernel_rfl) (by simp) ?_
          refine AllReady.cons rfl (fun K hK => ?_) AllReady.nil
          go_simp
          refine (join_calls' g bn _ (N - bn) C (by rw [← HCC.out, List.length_drop, HM.out]; have := HBN.out; omega) (by omega) hCl w2 (Nat.lt_of_lt_of_le hg hb2.size) (fun j hj => (hb2.cell (p := ⟨g, bn + j, none⟩) (by exact hg)).trans ((HC.out (bn + j) (by omega)).trans (by rw [getD_drop HCC.out j, HBN.out])))).mono ?_
          rintro e w3 ⟨rfl, hb3⟩
          refine hK _ _ ?_
          clear hK K
          refine wpAny_take (i := 9) (v := ?_) rfl (by kernel_rfl) (by kernel_rfl) (by kernel_rfl) (fun _ _ _ h => h) (Or.inl ⟨by rfl, ?hy⟩) ?rest
          case hy => intro w; go_simp; try (with_reducible rfl)
          case rest =>
          refine wpAny_take (i := 10) (v := ?_) rfl (by kernel_rfl) (by kernel_rfl) (by kernel_rfl) (fun _ _ _ h => h) (Or.inl ⟨by rfl, ?hy⟩) ?rest
          case hy => intro w; go_simp; try (with_reducible rfl)
          case rest =>
          refine wpAny_done (by kernel_rfl) ?_ _
          go_wp2
          go_ret2
          refine ⟨?_, hbel.trans ((below_drew hb2 hb3).mono hbel.size)⟩
          rw [HP.out, HQ.out]
          rfl

end Go.Proofs.Qxb6601295a

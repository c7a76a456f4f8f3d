import Derived.Test.Qxb6600347aIdx
import Derived.Deep.AppendLies
namespace Go.Proofs.Qxb6600347a
open Go.RowKit
set_option linter.unusedVariables false

theorem info5 : (Try.prog.info? 5).map (fun i => (i.zero, i.size, i.bytes)) = some (some (.int .u8 0), 1, 1) := by kernel_rfl

set_option maxHeartbeats 1000000 in
set_option maxRecDepth 100000 in
/-- appendWord(nil, a): five new bytes, those of the two tables at the five places. -/
theorem appendWord_calls (a n0 n1 n2 n3 n4 c0 c1 c2 c3 c4 : Int) (e0 : a / 4096 = n0) (e1 : bits .and .u16 (a / 1024) 3 = n1) (e2 : bits .and .u16 (a / 64) 15 = n2) (e3 : bits .and .u16 (a / 16) 3 = n3) (e4 : bits .and .u16 a 15 = n4)
    (l0 : 0 ≤ n0) (u0 : n0 < 16) (l1 : 0 ≤ n1) (u1 : n1 < 4) (l2 : 0 ≤ n2) (u2 : n2 < 16) (l3 : 0 ≤ n3) (u3 : n3 < 4) (l4 : 0 ≤ n4) (u4 : n4 < 16) (h0 : 0 ≤ a) (h1 : a ≤ 65535)
    (k0 : ∀ h, (((⟨#[98, 100, 102, 103, 104, 106, 107, 108, 109, 110, 112, 114, 115, 116, 118, 122]⟩ : ByteArray)[n0.toNat]'h).toNat : Int) = c0)
    (k1 : ∀ h, (((⟨#[97, 105, 111, 117]⟩ : ByteArray)[n1.toNat]'h).toNat : Int) = c1)
    (k2 : ∀ h, (((⟨#[98, 100, 102, 103, 104, 106, 107, 108, 109, 110, 112, 114, 115, 116, 118, 122]⟩ : ByteArray)[n2.toNat]'h).toNat : Int) = c2)
    (k3 : ∀ h, (((⟨#[97, 105, 111, 117]⟩ : ByteArray)[n3.toNat]'h).toNat : Int) = c3)
    (k4 : ∀ h, (((⟨#[98, 100, 102, 103, 104, 106, 107, 108, 109, 110, 112, 114, 115, 116, 118, 122]⟩ : ByteArray)[n4.toNat]'h).toNat : Int) = c4)
    (w : World) :
    Calls Try.prog 20 #[.slice none 0 0, .int .u16 a] w fun e w' => ∃ g cap, e = .returned (.slice (some ⟨g, 0, none⟩) 5 cap) ∧
      w'.ownsRow w.heap.size 5 1 (.slice (some ⟨g, 0, none⟩) 5 cap) 5 [.int .u8 c0, .int .u8 c1, .int .u8 c2, .int .u8 c3, .int .u8 c4] ∧ Below w.heap.size w w' := by
  obtain ⟨i0, hi0, hz0, hz1, hz2⟩ := info_parts info5
  have K0 : Hid _ := k0
  have K1 : Hid _ := k1
  have K2 : Hid _ := k2
  have K3 : Hid _ := k3
  have K4 : Hid _ := k4
  clear k0 k1 k2 k3 k4
  go_enter Try.func20, Try.ntmps20
  go_wp2
  refine wp_region_any (by kernel_rfl) ?_
  try (change wpAny _ _ _ _ _ _ _ (World.drew _))
  refine wpAny_take (i := 0) (v := ?_) rfl (by kernel_rfl) (by kernel_rfl) (by kernel_rfl) (fun _ _ _ h => h) (Or.inl ⟨by rfl, ?hy⟩) ?rest
  case hy => intro w; go_simp; try (with_reducible rfl)
  case rest =>
  refine wpAny_take (i := 1) (v := ?_) rfl (by kernel_rfl) (by kernel_rfl) (by kernel_rfl) (fun _ _ _ h => h) (Or.inl ⟨by rfl, ?hy⟩) ?rest
  case hy => intro w; go_simp; try (with_reducible rfl)
  case rest =>
  refine wpAny_take (i := 2) (v := ?_) rfl (by kernel_rfl) (by kernel_rfl) (by kernel_rfl) (fun _ _ _ h => h) (Or.inl ⟨by rfl, ?hy⟩) ?rest
  case hy => intro w; go_simp; try (with_reducible rfl)
  case rest =>
  refine wpAny_take (i := 3) (v := .int .u8 c0) rfl (by kernel_rfl) (by kernel_rfl) (by kernel_rfl) (fun _ _ _ h => h) (Or.inl ⟨by rfl, ?hy⟩) ?rest
  case hy => intro w; go_simp; exact K0.out _
  case rest =>
  refine wpAny_take (i := 4) (v := ?_) rfl (by kernel_rfl) (by kernel_rfl) (by kernel_rfl) (fun _ _ _ h => h) (Or.inl ⟨by rfl, ?hy⟩) ?rest
  case hy => intro w; go_simp; try (with_reducible rfl)
  case rest =>
  refine wpAny_take (i := 5) (v := ?_) rfl (by kernel_rfl) (by kernel_rfl) (by kernel_rfl) (fun _ _ _ h => h) (Or.inl ⟨by rfl, ?hy⟩) ?rest
  case hy => intro w; go_simp; try (with_reducible rfl)
  case rest =>
  refine wpAny_take (i := 6) (v := ?_) rfl (by kernel_rfl) (by kernel_rfl) (by kernel_rfl) (fun _ _ _ h => h) (Or.inl ⟨by rfl, ?hy⟩) ?rest
  case hy => intro w; go_simp; try (with_reducible rfl)
  case rest =>
  refine wpAny_take (i := 7) (v := .int .u8 c1) rfl (by kernel_rfl) (by kernel_rfl) (by kernel_rfl) (fun _ _ _ h => h) (Or.inl ⟨by rfl, ?hy⟩) ?rest
  case hy => intro w; go_simp; exact K1.out _
  case rest =>
  refine wpAny_take (i := 8) (v := ?_) rfl (by kernel_rfl) (by kernel_rfl) (by kernel_rfl) (fun _ _ _ h => h) (Or.inl ⟨by rfl, ?hy⟩) ?rest
  case hy => intro w; go_simp; try (with_reducible rfl)
  case rest =>
  refine wpAny_take (i := 9) (v := ?_) rfl (by kernel_rfl) (by kernel_rfl) (by kernel_rfl) (fun _ _ _ h => h) (Or.inl ⟨by rfl, ?hy⟩) ?rest
  case hy => intro w; go_simp; try (with_reducible rfl)
  case rest =>
  refine wpAny_take (i := 10) (v := ?_) rfl (by kernel_rfl) (by kernel_rfl) (by kernel_rfl) (fun _ _ _ h => h) (Or.inl ⟨by rfl, ?hy⟩) ?rest
  case hy => intro w; go_simp; try (with_reducible rfl)
  case rest =>
  refine wpAny_take (i := 11) (v := .int .u8 c2) rfl (by kernel_rfl) (by kernel_rfl) (by kernel_rfl) (fun _ _ _ h => h) (Or.inl ⟨by rfl, ?hy⟩) ?rest
  case hy => intro w; go_simp; exact K2.out _
  case rest =>
  refine wpAny_take (i := 12) (v := ?_) rfl (by kernel_rfl) (by kernel_rfl) (by kernel_rfl) (fun _ _ _ h => h) (Or.inl ⟨by rfl, ?hy⟩) ?rest
  case hy => intro w; go_simp; try (with_reducible rfl)
  case rest =>
  refine wpAny_take (i := 13) (v := ?_) rfl (by kernel_rfl) (by kernel_rfl) (by kernel_rfl) (fun _ _ _ h => h) (Or.inl ⟨by rfl, ?hy⟩) ?rest
  case hy => intro w; go_simp; try (with_reducible rfl)
  case rest =>
  refine wpAny_take (i := 14) (v := ?_) rfl (by kernel_rfl) (by kernel_rfl) (by kernel_rfl) (fun _ _ _ h => h) (Or.inl ⟨by rfl, ?hy⟩) ?rest
  case hy => intro w; go_simp; try (with_reducible rfl)
  case rest =>
  refine wpAny_take (i := 15) (v := .int .u8 c3) rfl (by kernel_rfl) (by kernel_rfl) (by kernel_rfl) (fun _ _ _ h => h) (Or.inl ⟨by rfl, ?hy⟩) ?rest
  case hy => intro w; go_simp; exact K3.out _
  case rest =>
  refine wpAny_take (i := 16) (v := ?_) rfl (by kernel_rfl) (by kernel_rfl) (by kernel_rfl) (fun _ _ _ h => h) (Or.inl ⟨by rfl, ?hy⟩) ?rest
  case hy => intro w; go_simp; try (with_reducible rfl)
  case rest =>
  refine wpAny_take (i := 17) (v := ?_) rfl (by kernel_rfl) (by kernel_rfl) (by kernel_rfl) (fun _ _ _ h => h) (Or.inl ⟨by rfl, ?hy⟩) ?rest
  case hy => intro w; go_simp; try (with_reducible rfl)
  case rest =>
  refine wpAny_take (i := 18) (v := .int .u8 c4) rfl (by kernel_rfl) (by kernel_rfl) (by kernel_rfl) (fun _ _ _ h => h) (Or.inl ⟨by rfl, ?hy⟩) ?rest
  case hy => intro w; go_simp; exact K4.out _
  case rest =>
  refine wpAny_ready (rs := [19]) (by kernel_rfl) (by simp) ?_
  refine AllReady.cons rfl (fun K hK => ?_) AllReady.nil
  go_simp
  refine hK _ _ ?_
  clear hK K
  refine wpAny_ready (rs := [20]) (by kernel_rfl) (by simp) ?_
  refine AllReady.cons rfl (fun K hK => ?_) AllReady.nil
  refine step_append_lies _ (by rfl) _ _ _ (by rfl) w.heap.size 5 i0 _ 1 1 Try.underlying26 hi0 hz0 hz1 hz2 rfl (by omega) (.slice none 0 0) 0 [] (by rfl) (World.ownsRow_nil _ _ _ _)
        ⟨w.heap.size, 0, none⟩ 5 5 [.int .u8 c0, .int .u8 c1, .int .u8 c2, .int .u8 c3, .int .u8 c4] (by rfl) (by rfl) (World.news_of_block (cs := #[.int .u8 c0, .int .u8 c1, .int .u8 c2, .int .u8 c3, .int .u8 c4]) (t := 5) (fr := (0, 0)) (heap_alloc_new w _)) (by simp [Value.oneCell'])
        (by omega) (by decide) (by decide) (by simp) (w.heap.size + 1) (by simp) ?_
  intro g cap w1 hown hgrow hat hlt
  refine hK _ _ ?_
  clear hK K
  refine wpAny_take (i := 21) (v := ?_) rfl (by kernel_rfl) (by kernel_rfl) (by kernel_rfl) (fun _ _ _ h => h) (Or.inl ⟨by rfl, ?hy⟩) ?rest
  case hy => intro w; go_simp; try (with_reducible rfl)
  case rest =>
  refine wpAny_done (by kernel_rfl) ?_ _
  go_wp2
  go_ret
  exact ⟨g, cap, rfl, by simpa using hown, (((Below.refl _ _).alloc (Nat.le_refl _) _).drew).grown hgrow (by simp) (by simp [Value.ownBlock])⟩

set_option maxHeartbeats 400000 in
theorem ZZappendWord_calls (a n0 n1 n2 n3 n4 c0 c1 c2 c3 c4 : Int) (e0 : a / 4096 = n0) (e1 : bits .and .u16 (a / 1024) 3 = n1) (e2 : bits .and .u16 (a / 64) 15 = n2) (e3 : bits .and .u16 (a / 16) 3 = n3) (e4 : bits .and .u16 a 15 = n4)
    (l0 : 0 ≤ n0) (u0 : n0 < 16) (l1 : 0 ≤ n1) (u1 : n1 < 4) (l2 : 0 ≤ n2) (u2 : n2 < 16) (l3 : 0 ≤ n3) (u3 : n3 < 4) (l4 : 0 ≤ n4) (u4 : n4 < 16) (h0 : 0 ≤ a) (h1 : a ≤ 65535)
    (k0 : ∀ h, (((⟨#[98, 100, 102, 103, 104, 106, 107, 108, 109, 110, 112, 114, 115, 116, 118, 122]⟩ : ByteArray)[n0.toNat]'h).toNat : Int) = c0)
    (k1 : ∀ h, (((⟨#[97, 105, 111, 117]⟩ : ByteArray)[n1.toNat]'h).toNat : Int) = c1)
    (k2 : ∀ h, (((⟨#[98, 100, 102, 103, 104, 106, 107, 108, 109, 110, 112, 114, 115, 116, 118, 122]⟩ : ByteArray)[n2.toNat]'h).toNat : Int) = c2)
    (k3 : ∀ h, (((⟨#[97, 105, 111, 117]⟩ : ByteArray)[n3.toNat]'h).toNat : Int) = c3)
    (k4 : ∀ h, (((⟨#[98, 100, 102, 103, 104, 106, 107, 108, 109, 110, 112, 114, 115, 116, 118, 122]⟩ : ByteArray)[n4.toNat]'h).toNat : Int) = c4)
    (w : World) :
    Calls Try.prog 11 #[.slice none 0 0, .int .u16 a] w fun e w' => ∃ g cap, e = .returned (.slice (some ⟨g, 0, none⟩) 5 cap) ∧
      w'.ownsRow w.heap.size 5 1 (.slice (some ⟨g, 0, none⟩) 5 cap) 5 [.int .u8 c0, .int .u8 c1, .int .u8 c2, .int .u8 c3, .int .u8 c4] ∧ Below w.heap.size w w' := by
  have H : Hid _ := appendWord_calls a n0 n1 n2 n3 n4 c0 c1 c2 c3 c4 e0 e1 e2 e3 e4 l0 u0 l1 u1 l2 u2 l3 u3 l4 u4 h0 h1 k0 k1 k2 k3 k4 w
  clear e0 e1 e2 e3 e4 k0 k1 k2 k3 k4
  go_enter Try.func11, Try.ntmps11
  go_wp2_with fail
  refine Calls.mono H.out ?_
  rintro e w' ⟨g, cap, rfl, hown, hb⟩
  go_wp2
  go_ret
  exact ⟨g, cap, rfl, hown, hb⟩
end Go.Proofs.Qxb6600347a

import Derived.Test.Qxb6001546aBase
namespace Go.Proofs.Qxb6001546a
open Go.RowKit
set_option linter.unusedVariables false

set_option maxHeartbeats 4000000 in
set_option maxRecDepth 100000 in
theorem zz5 (nm : ByteArray) (a1 a2 : Option Addr) (n c1 m c2 : Nat) (S T : Nat → Spec) (w : World) (B : Nat) (h1 : Sp w B a1 n S) (h2 : Sp w B a2 m T) (b0 : nm.size ≤ 9223372036854775807) (b1 : n ≤ 9223372036854775807) (b2 : m ≤ 9223372036854775807)
    (hs : Hid (∀ i, i < n → (S i).ok)) (ht : Hid (∀ i, i < m → (T i).ok)) :
    Calls Try.prog 5 #[.string nm, .slice a1 n c1, .slice a2 m c2] w fun e w' => SomeBool e ∧ w = w' := by
  go_enter Try.func5, Try.ntmps5
  go_wp2
  any_goals (go_ret; exact ⟨⟨_, rfl⟩, rfl⟩)
  go_loop [7, 8] (fun z i => ∃ (k : Nat) (y : Int), k ≤ n ∧ i = .int .i64 k ∧ z = .int .i64 y ∧ 0 ≤ y ∧ y ≤ 1048576) (fun _ i => n - (intOf i).toNat)
  case atStart => exact ⟨0, _, Nat.zero_le _, rfl, rfl, by omega, by omega⟩
  case round =>
    obtain ⟨k, y, hk, rfl, rfl, hy0, hy1⟩ := hrel
    by_cases hkn : k < n
    · obtain ⟨b, o, rfl, hbB, A⟩ := h1.at hkn
      have hki : (k : Int) < (n : Int) := by omega
      have hok := hs.out k hkn
      revert A hok
      generalize S k = c
      intro A hok
      obtain ⟨s0, s1, b2, b3, b4, b5, s6, b7, s8, b9, s10, s11, b12, s13, s14, s15, s16⟩ := c
      obtain ⟨z0, z1, z6, z8, z10, z11, z13, z14, z15, z16⟩ := hok
      simp only at z0 z1 z6 z8 z10 z11 z13 z14 z15 z16
      obtain ⟨h0, h1', _, _, _, _, h6, _, h8, _, h10, h11, _, h13, h14, h15, h16⟩ := A
      simp only at h0 h1' h6 h8 h10 h11 h13 h14 h15 h16
      clear h1 h2 hs ht
      go_wp2
      any_goals (go_ret; exact ⟨⟨_, rfl⟩, rfl⟩)
      go_round
      case rel => exact ⟨k + 1, _, by omega, by go_num, rfl, by omega, by omega⟩
      case measure => simp [intOf]; omega
    · go_wp2
      any_goals (go_ret; exact ⟨⟨_, rfl⟩, rfl⟩)
      go_loop [7, 9] (fun z i => ∃ (k : Nat) (y : Int), k ≤ m ∧ i = .int .i64 k ∧ z = .int .i64 y ∧ 0 ≤ y ∧ y ≤ 1048576) (fun _ i => m - (intOf i).toNat)
      case atStart => exact ⟨0, _, Nat.zero_le _, rfl, rfl, by omega, by omega⟩
      case round =>
        clear hk hkn hy0 hy1
        obtain ⟨k, y, hk, rfl, rfl, hy0, hy1⟩ := hrel
        by_cases hkn : k < m
        · obtain ⟨b, o, rfl, hbB, A⟩ := h2.at hkn
          have hki : (k : Int) < (m : Int) := by omega
          have hok := ht.out k hkn
          revert A hok
          generalize T k = c
          intro A hok
          obtain ⟨s0, s1, b2, b3, b4, b5, s6, b7, s8, b9, s10, s11, b12, s13, s14, s15, s16⟩ := c
          obtain ⟨z0, z1, z6, z8, z10, z11, z13, z14, z15, z16⟩ := hok
          simp only at z0 z1 z6 z8 z10 z11 z13 z14 z15 z16
          obtain ⟨h0, h1', _, _, _, _, h6, _, h8, _, h10, h11, _, h13, h14, h15, h16⟩ := A
          simp only at h0 h1' h6 h8 h10 h11 h13 h14 h15 h16
          clear h1 h2 hs ht
          go_wp2
          any_goals (go_ret; exact ⟨⟨_, rfl⟩, rfl⟩)
          go_round
          case rel => exact ⟨k + 1, _, by omega, by go_num, rfl, by omega, by omega⟩
          case measure => simp [intOf]; omega
        · go_wp2
          go_ret
          exact ⟨⟨_, rfl⟩, rfl⟩
end Go.Proofs.Qxb6001546a

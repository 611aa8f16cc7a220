import Derived.Test.Qxb6000464aBase
namespace Go.Proofs.Qxb6000464a
open Go.RowKit
set_option linter.unusedVariables false

/-- what the byte bound answers. -/
def ZzPost (n m t : Nat) (key : Nat → List Int) (e : Ending) : Prop := ∃ b, e = .returned (.bool b) ∧ (b = true → n ≤ 1048576 ∧ m ≤ 1048576 ∧ t ≤ 1048576 ∧ ∀ i, i < m → (key i).length ≤ 1048576)
theorem ZzPost.no (n m t : Nat) (key : Nat → List Int) : ZzPost n m t key (.returned (.bool false)) := ⟨false, rfl, fun h => by cases h⟩

set_option maxHeartbeats 1000000 in
theorem zz26 (a1 a2 a4 : Option Addr) (n c1 m c2 t c4 : Nat) (gap : Int) (key : Nat → List Int) (A : Nat → Option Addr) (C : Nat → Nat) (w : World) (B : Nat) (hK : Keys w B a2 m key A C)
    (b1 : n ≤ 9223372036854775807) (b2 : m ≤ 9223372036854775807) (b4 : t ≤ 9223372036854775807) (bk : Hid (∀ i, i < m → (key i).length ≤ 9223372036854775807)) :
    Calls Try.prog 26 #[.slice a1 n c1, .slice a2 m c2, .int .i64 gap, .slice a4 t c4] w fun e w' => ZzPost n m t key e ∧ w = w' := by
  go_enter Try.func26, Try.ntmps26
  go_wp2
  any_goals (go_ret; exact ⟨ZzPost.no _ _ _ _, rfl⟩)
  go_loop [9, 10] (fun z i => ∃ (k : Nat) (y : Int), k ≤ m ∧ i = .int .i64 k ∧ z = .int .i64 y ∧ 0 ≤ y ∧ y ≤ 1048576 ∧ Hid (∀ i, i < k → (key i).length ≤ 1048576)) (fun _ i => m - (intOf i).toNat)
  case atStart => exact ⟨0, _, Nat.zero_le _, rfl, rfl, by omega, by omega, fun i hi => by omega⟩
  case round =>
    obtain ⟨k, y, hk, rfl, rfl, hy0, hy1, hs⟩ := hrel
    by_cases hkn : k < m
    · obtain ⟨b, o, rfl, _, hc⟩ := hK.rd.at hkn
      have hl := bk.out k hkn
      have hki : (k : Int) < (m : Int) := by omega
      have hs2 : Hid ((key k).length ≤ 1048576 → ∀ i, i < k + 1 → (key i).length ≤ 1048576) := fun h i hi => by
        by_cases e : i = k
        · subst e; exact h
        · exact hs.out i (by omega)
      generalize (key k).length = L at *
      go_wp2
      any_goals (go_ret; exact ⟨ZzPost.no _ _ _ _, rfl⟩)
      go_round
      case rel => exact ⟨k + 1, _, by omega, by go_num, rfl, by omega, by omega, hs2.out (by omega)⟩
      case measure => simp [intOf]; omega
    · go_wp2
      any_goals (go_ret; exact ⟨ZzPost.no _ _ _ _, rfl⟩)
      go_ret
      exact ⟨⟨true, rfl, fun _ => ⟨by omega, by omega, by omega, fun i hi => hs.out i (by omega)⟩⟩, rfl⟩

set_option maxHeartbeats 1000000 in
theorem sp35 (a2 : Option Addr) (m c2 : Nat) (key : Nat → List Int) (A : Nat → Option Addr) (C : Nat → Nat) (w : World) (B : Nat) (hK : Keys w B a2 m key A C) (b2 : m ≤ 1048576) (bk : Hid (∀ i, i < m → (key i).length ≤ 1048576)) :
    Calls Try.prog 35 #[.slice a2 m c2] w fun e w' => SomeInt 2097152 e ∧ w = w' := by
  go_enter Try.func35, Try.ntmps35
  go_wp2
  go_loop [3, 4] (fun z i => ∃ (k : Nat) (y : Int), k ≤ m ∧ i = .int .i64 k ∧ z = .int .i64 y ∧ 0 ≤ y ∧ y ≤ 1048576) (fun _ i => m - (intOf i).toNat)
  case atStart => exact ⟨0, _, Nat.zero_le _, rfl, rfl, by omega, by omega⟩
  case round =>
    obtain ⟨k, y, hk, rfl, rfl, hy0, hy1⟩ := hrel
    by_cases hkn : k < m
    · obtain ⟨b, o, rfl, _, hc⟩ := hK.rd.at hkn
      have hl := bk.out k hkn
      have hki : (k : Int) < (m : Int) := by omega
      generalize (key k).length = L at *
      go_wp2
      · go_ret
        exact ⟨⟨_, rfl, by omega, by omega⟩, rfl⟩
      · go_round
        case rel => exact ⟨k + 1, _, by omega, by go_num, rfl, by omega, by omega⟩
        case measure => simp [intOf]; omega
    · go_wp2
      go_ret
      exact ⟨⟨_, rfl, by omega, by omega⟩, rfl⟩

/-- what zzHoldFits answers. -/
def HfPost (n m t : Nat) (l : List Int) (e : Ending) : Prop := ∃ b, e = .returned (.bool b) ∧ (b = true → n ≤ 65536 ∧ m ≤ 65536 ∧ ∀ i, i < n → i < m → 0 ≤ l.getD i 0 ∧ l.getD i 0 ≤ 65536)
theorem HfPost.no (n m t : Nat) (l : List Int) : HfPost n m t l (.returned (.bool false)) := ⟨false, rfl, fun h => by cases h⟩

set_option maxHeartbeats 2000000 in
theorem hf15 (a1 a2 : Option Addr) (n c1 m c2 t : Nat) (l : List Int) (key : Nat → List Int) (A : Nat → Option Addr) (C : Nat → Nat) (w : World) (B : Nat) (h1 : Rd w B a1 n (ci .i64 l)) (hK : Keys w B a2 m key A C)
    (b1 : n ≤ 1048576) (b2 : m ≤ 1048576) (b4 : t ≤ 1048576) (bk : Hid (∀ i, i < m → (key i).length ≤ 1048576)) :
    Calls Try.prog 15 #[.slice a1 n c1, .slice a2 m c2, .int .i64 t] w fun e w' => HfPost n m t l e ∧ w = w' := by
  by_cases g1 : n ≤ 65536
  case neg =>
    go_enter Try.func15, Try.ntmps15
    go_wp2
    go_ret
    exact ⟨HfPost.no _ _ _ _, rfl⟩
  by_cases g2 : m ≤ 65536
  case neg =>
    go_enter Try.func15, Try.ntmps15
    go_wp2
    go_ret
    exact ⟨HfPost.no _ _ _ _, rfl⟩
  go_enter Try.func15, Try.ntmps15
  go_wp2_with fail
  refine (sp35 a2 m c2 key A C w B hK b2 bk).mono ?_
  rintro e w' ⟨⟨y, rfl, p1, p2⟩, rfl⟩
  clear hK bk
  go_wp2
  any_goals (go_ret; exact ⟨HfPost.no _ _ _ _, rfl⟩)
  all_goals
    go_loop [8] (fun i => ∃ (k : Nat), k ≤ n ∧ k ≤ m ∧ i = .int .i64 k ∧ Hid (∀ i, i < k → 0 ≤ l.getD i 0 ∧ l.getD i 0 ≤ 65536)) (fun i => n + m - (intOf i).toNat)
    case atStart => exact ⟨0, Nat.zero_le _, Nat.zero_le _, rfl, fun i hi => by omega⟩
    case round =>
      obtain ⟨k, hk1, hk2, rfl, hs⟩ := hrel
      by_cases hkn : k < n ∧ k < m
      · obtain ⟨hk3, hk4⟩ := hkn
        obtain ⟨b, o, rfl, _, hc⟩ := h1.at hk3
        have hki : (k : Int) < (n : Int) := by omega
        have hki2 : (k : Int) < (m : Int) := by omega
        have hs2 : Hid (0 ≤ l.getD k 0 → l.getD k 0 ≤ 65536 → ∀ i, i < k + 1 → 0 ≤ l.getD i 0 ∧ l.getD i 0 ≤ 65536) := fun h h' i hi => by
          by_cases e : i = k
          · subst e; exact ⟨h, h'⟩
          · exact hs.out i (by omega)
        simp only [ci] at hc
        clear h1
        generalize l.getD k 0 = x at *
        by_cases x1 : x < 0
        case pos =>
          go_wp2
          go_ret
          exact ⟨HfPost.no _ _ _ _, rfl⟩
        by_cases x2 : 65536 < x
        case pos =>
          go_wp2
          go_ret
          exact ⟨HfPost.no _ _ _ _, rfl⟩
        go_wp2
        go_round
        case rel => exact ⟨k + 1, by omega, by omega, by go_num, hs2.out (by omega) (by omega)⟩
        case measure => simp [intOf]; omega
      · first
          | have hkn' : ¬ k < n := by omega
          | have hkn' : ¬ k < m := by omega
        go_wp2
        go_ret
        exact ⟨⟨true, rfl, fun _ => ⟨by omega, by omega, fun i hi hi' => hs.out i (by omega)⟩⟩, rfl⟩

set_option maxHeartbeats 1000000 in
theorem same27 (a1 a2 : Option Addr) (n c1 c2 : Nat) (f : Nat → Int) (w : World) (B1 B2 : Nat) (h1 : Rd w B1 a1 n (fun i => .int .u8 (f i))) (h2 : Rd w B2 a2 n (fun i => .int .u8 (f i))) (hl : n ≤ 10485760) :
    Calls Try.prog 27 #[.slice a1 n c1, .slice a2 n c2] w fun e w' => e = .returned (.bool true) ∧ ∃ q, w' = w.drewN q := by
  have hnn : ((n : Int) != (n : Int)) = false := by simp
  go_enter Try.func27, Try.ntmps27
  go_wp2
  go_loopw [5] (fun i wr => ∃ j : Nat, j ≤ n ∧ i = .int .i64 j ∧ Hid (∃ q, wr = w.drewN q)) (fun i _ => n - (intOf i).toNat)
  case atStart => exact ⟨0, Nat.zero_le _, rfl, 0, rfl⟩
  case round =>
    obtain ⟨j, hj, rfl, q, rfl⟩ := hrel
    by_cases hjn : j < n
    · obtain ⟨b1, o1, rfl, _, hc1⟩ := h1.at hjn
      obtain ⟨b2, o2, rfl, _, hc2⟩ := h2.at hjn
      have hji : (j : Int) < (n : Int) := by omega
      generalize f j = t at *
      clear h1 h2
      go_wp2
      go_quiet (fail)
      go_wp2
      go_roundw
      case rel => exact ⟨j + 1, by omega, by go_num, _, rfl⟩
      case measure => simp [intOf]; omega
    · go_wp2
      go_ret
      exact ⟨rfl, q, rfl⟩
end Go.Proofs.Qxb6000464a

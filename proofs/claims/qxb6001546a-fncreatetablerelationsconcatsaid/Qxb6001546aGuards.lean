import Derived.Test.Qxb6001546aBase
namespace Go.Proofs.Qxb6001546a
open Go.RowKit
set_option linter.unusedVariables false

set_option maxHeartbeats 400000 in
theorem add11 (n : Int) (s : ByteArray) (w : World) (h0 : 0 ≤ n) (h1 : n ≤ 100000000) (hs : s.size ≤ 9223372036854775807) :
    Calls Try.prog 11 #[.int .i64 n, .string s] w fun e w' => SomeInt (n + 1048577) e ∧ w = w' := by
  go_enter Try.func11, Try.ntmps11
  go_wp2
  all_goals (go_ret; exact ⟨⟨_, rfl, by omega, by omega⟩, rfl⟩)

set_option maxHeartbeats 1000000 in
set_option maxRecDepth 100000 in
theorem col16 (c : Spec) (w : World) (hc : Hid c.ok) : Calls Try.prog 16 #[c.val] w fun e w' => SomeInt 10485770 e ∧ Below w.heap.size w w' := by
  obtain ⟨s0, s1, b2, b3, b4, b5, s6, b7, s8, b9, s10, s11, b12, s13, s14, s15, s16⟩ := c
  obtain ⟨z0, z1, z6, z8, z10, z11, z13, z14, z15, z16⟩ := hc.out
  clear hc
  simp only at z0 z1 z6 z8 z10 z11 z13 z14 z15 z16
  simp only [Spec.val]
  have HB : ∀ o, Hid (Below w.heap.size w (w.alloc o)) := fun o => (Below.refl _ w).alloc (Nat.le_refl _) o
  go_enter Try.func16, Try.ntmps16
  go_wp2_with fail
  refine (add11 _ s0 _ (by omega) (by omega) z0).mono ?_
  rintro e w' ⟨⟨y1, rfl, p1, q1⟩, rfl⟩
  go_wp2_with fail
  refine (add11 _ s1 _ (by omega) (by omega) z1).mono ?_
  rintro e w' ⟨⟨y2, rfl, p2, q2⟩, rfl⟩
  go_wp2_with fail
  refine (add11 _ s6 _ (by omega) (by omega) z6).mono ?_
  rintro e w' ⟨⟨y3, rfl, p3, q3⟩, rfl⟩
  go_wp2_with fail
  refine (add11 _ s8 _ (by omega) (by omega) z8).mono ?_
  rintro e w' ⟨⟨y4, rfl, p4, q4⟩, rfl⟩
  go_wp2_with fail
  refine (add11 _ s10 _ (by omega) (by omega) z10).mono ?_
  rintro e w' ⟨⟨y5, rfl, p5, q5⟩, rfl⟩
  go_wp2_with fail
  refine (add11 _ s11 _ (by omega) (by omega) z11).mono ?_
  rintro e w' ⟨⟨y6, rfl, p6, q6⟩, rfl⟩
  go_wp2_with fail
  refine (add11 _ s13 _ (by omega) (by omega) z13).mono ?_
  rintro e w' ⟨⟨y7, rfl, p7, q7⟩, rfl⟩
  go_wp2_with fail
  refine (add11 _ s14 _ (by omega) (by omega) z14).mono ?_
  rintro e w' ⟨⟨y8, rfl, p8, q8⟩, rfl⟩
  go_wp2_with fail
  refine (add11 _ s15 _ (by omega) (by omega) z15).mono ?_
  rintro e w' ⟨⟨y9, rfl, p9, q9⟩, rfl⟩
  go_wp2_with fail
  refine (add11 _ s16 _ (by omega) (by omega) z16).mono ?_
  rintro e w' ⟨⟨y10, rfl, p10, q10⟩, rfl⟩
  go_wp2
  go_ret
  exact ⟨⟨_, rfl, by omega, by omega⟩, (HB _).out⟩

set_option maxHeartbeats 1000000 in
set_option maxRecDepth 100000 in
theorem sb6 (a : Option Addr) (n c : Nat) (S : Nat → Spec) (w : World) (B : Nat) (hB : B ≤ w.heap.size) (h : Sp w B a n S) (hl : n ≤ 65536) (hs : Hid (∀ i, i < n → (S i).ok)) :
    Calls Try.prog 6 #[.slice a n c] w fun e w' => SomeInt 100000000 e ∧ Below w.heap.size w w' := by
  go_enter Try.func6, Try.ntmps6
  go_wp2
  go_loopw [3, 4] (fun z i wr => ∃ (k : Nat) (y : Int), k ≤ n ∧ i = .int .i64 k ∧ z = .int .i64 y ∧ 0 ≤ y ∧ y ≤ 1048576 ∧ Hid (Below w.heap.size w wr)) (fun _ i _ => n - (intOf i).toNat)
  case atStart => exact ⟨0, _, Nat.zero_le _, rfl, rfl, by omega, by omega, Below.refl _ _⟩
  case round =>
    obtain ⟨k, y, hk, rfl, rfl, hy0, hy1, hb⟩ := hrel
    by_cases hkn : k < n
    · obtain ⟨b, o, rfl, hbB, A0⟩ := h.at hkn
      have A := A0.keep hb.out (by omega)
      have hok : Hid (S k).ok := hs.out k hkn
      have hki : (k : Int) < (n : Int) := by omega
      obtain ⟨h0, h1, h2, h3, h4, h5, h6, h7, h8, h9, h10, h11, h12, h13, h14, h15, h16⟩ := A
      clear A0
      go_wp2_with fail
      refine (col16 (S k) wr hok).mono ?_
      rintro e w' ⟨⟨y1, rfl, p1, q1⟩, hb1⟩
      have hb2 : Hid (Below w.heap.size w w') := hb.out.trans (hb1.mono hb.out.size)
      clear hb1 hb h0 h1 h2 h3 h4 h5 h6 h7 h8 h9 h10 h11 h12 h13 h14 h15 h16
      go_wp2
      · go_ret
        exact ⟨⟨_, rfl, by omega, by omega⟩, hb2.out⟩
      · go_roundw
        case rel => exact ⟨k + 1, _, by omega, by go_num, rfl, by omega, by omega, hb2.out⟩
        case measure => simp [intOf]; omega
    · go_wp2
      go_ret
      exact ⟨⟨_, rfl, by omega, by omega⟩, hb.out⟩
end Go.Proofs.Qxb6001546a

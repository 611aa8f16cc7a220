import Derived.Test.Qxb6000858aCmp
namespace Go.Proofs.Qxb6000858a
open Go.RowKit

/-- A [][]byte that is only read. -/
structure Keys (w : World) (B : Nat) (a : Option Addr) (n : Nat) (key : Nat → List Int) (A : Nat → Option Addr) (C : Nat → Nat) : Prop where
  rd : Rd w B a n (fun i => .slice (A i) (key i).length (C i))
  row : ∀ i, i < n → Rd w B (A i) (key i).length (ci .u8 (key i))

theorem Keys.keep {w w' : World} {B : Nat} {a : Option Addr} {n : Nat} {key : Nat → List Int} {A : Nat → Option Addr} {C : Nat → Nat} (h : Keys w B a n key A C) (hb : Below B w w') : Keys w' B a n key A C :=
  ⟨h.rd.keep hb, fun i hi => (h.row i hi).keep hb⟩

theorem Keys.mono {w : World} {B B' : Nat} {a : Option Addr} {n : Nat} {key : Nat → List Int} {A : Nat → Option Addr} {C : Nat → Nat} (h : Keys w B a n key A C) (hb : B ≤ B') : Keys w B' a n key A C :=
  ⟨h.rd.mono hb, fun i hi => (h.row i hi).mono hb⟩

/-- what the byte bound answers. -/
def ZzPost (n1 n2 n3 : Nat) (key : Nat → List Int) (e : Ending) : Prop := ∃ b, e = .returned (.bool b) ∧ (b = true → n1 ≤ 1048576 ∧ n2 ≤ 1048576 ∧ n3 ≤ 1048576 ∧ ∀ i, i < n3 → (key i).length ≤ 1048576)

theorem ZzPost.no (n1 n2 n3 : Nat) (key : Nat → List Int) : ZzPost n1 n2 n3 key (.returned (.bool false)) := ⟨false, rfl, fun h => by cases h⟩

/-- what keysBytesB1 answers: some small number. -/
def KbPost (e : Ending) : Prop := ∃ b : Int, e = .returned (.int .i64 b) ∧ 0 ≤ b ∧ b ≤ 100000000

set_option maxHeartbeats 1000000 in
theorem zz17 (t : Int) (a1 a2 a3 : Option Addr) (n1 c1 n2 c2 n3 c3 : Nat) (key : Nat → List Int) (A : Nat → Option Addr) (C : Nat → Nat) (w : World) (B : Nat) (hK : Keys w B a3 n3 key A C)
    (b1 : n1 ≤ 9223372036854775807) (b2 : n2 ≤ 9223372036854775807) (b3 : n3 ≤ 9223372036854775807) (bk : Hid (∀ i, i < n3 → (key i).length ≤ 9223372036854775807)) :
    Calls Try.prog 17 #[.int .i64 t, .slice a1 n1 c1, .slice a2 n2 c2, .slice a3 n3 c3] w fun e w' => ZzPost n1 n2 n3 key e ∧ w' = w := by
  go_enter Try.func17, Try.ntmps17
  go_wp2
  any_goals (go_ret; exact ⟨ZzPost.no _ _ _ _, rfl⟩)
  go_loop [9, 10] (fun z i => ∃ (k : Nat) (y : Int), k ≤ n3 ∧ i = .int .i64 k ∧ z = .int .i64 y ∧ 0 ≤ y ∧ y ≤ 1048576 ∧ Hid (∀ i, i < k → (key i).length ≤ 1048576)) (fun _ i => n3 - (intOf i).toNat)
  case atStart => exact ⟨0, _, Nat.zero_le _, rfl, rfl, by omega, by omega, fun i hi => by omega⟩
  case round =>
    obtain ⟨k, y, hk, rfl, rfl, hy0, hy1, hs⟩ := hrel
    by_cases hkn : k < n3
    · obtain ⟨b, o, rfl, _, hc⟩ := hK.rd.at hkn
      have hl := bk.out k hkn
      have hs2 : Hid ((key k).length ≤ 1048576 → ∀ i, i < k + 1 → (key i).length ≤ 1048576) := fun h i hi => by
        by_cases e : i = k
        · subst e; exact h
        · exact hs.out i (by omega)
      generalize (key k).length = L at *
      go_wp2
      any_goals (go_ret; exact ⟨ZzPost.no _ _ _ _, rfl⟩)
      go_round
      case rel => exact ⟨k + 1, _, by omega, by go_num, rfl, by omega, by omega, hs2.out (by omega)⟩
      case measure => simp [intOf]; omega
    · go_wp2
      go_ret
      exact ⟨⟨true, rfl, fun _ => ⟨by omega, by omega, by omega, fun i hi => hs.out i (by omega)⟩⟩, rfl⟩

set_option maxHeartbeats 1000000 in
theorem kb18 (a3 : Option Addr) (n3 c3 : Nat) (key : Nat → List Int) (A : Nat → Option Addr) (C : Nat → Nat) (w : World) (B : Nat) (hK : Keys w B a3 n3 key A C)
    (b3 : n3 ≤ 1048576) (bk : Hid (∀ i, i < n3 → (key i).length ≤ 1048576)) :
    Calls Try.prog 18 #[.slice a3 n3 c3] w fun e w' => KbPost e ∧ w' = w := by
  go_enter Try.func18, Try.ntmps18
  go_wp2
  go_loop [3, 4] (fun z i => ∃ (k : Nat) (y : Int), k ≤ n3 ∧ i = .int .i64 k ∧ z = .int .i64 y ∧ 0 ≤ y ∧ y ≤ 10000000) (fun _ i => n3 - (intOf i).toNat)
  case atStart => exact ⟨0, _, Nat.zero_le _, rfl, rfl, by omega, by omega⟩
  case round =>
    obtain ⟨k, y, hk, rfl, rfl, hy0, hy1⟩ := hrel
    by_cases hkn : k < n3
    · obtain ⟨b, o, rfl, _, hc⟩ := hK.rd.at hkn
      have hl := bk.out k hkn
      generalize (key k).length = L at *
      go_wp2
      · go_ret
        exact ⟨⟨_, rfl, by omega, by omega⟩, rfl⟩
      · go_round
        case rel => exact ⟨k + 1, _, by omega, by go_num, rfl, by omega, by omega⟩
        case measure => simp [intOf]; omega
    · go_wp2
      go_ret
      exact ⟨⟨_, rfl, by omega, by omega⟩, rfl⟩

set_option maxHeartbeats 1000000 in
theorem in22 (a0 a1 a2 : Option Addr) (c0 c1 c2 : Nat) (l0 l1 l2 : List Int) (w : World) (B : Nat) (h0 : Rd w B a0 l0.length (ci .u8 l0)) (h1 : Rd w B a1 l1.length (ci .u8 l1)) (h2 : Rd w B a2 l2.length (ci .u8 l2))
    (b0 : l0.length ≤ 1048576) (b1 : l1.length ≤ 1048576) (b2 : l2.length ≤ 1048576) :
    Calls Try.prog 22 #[.slice a0 l0.length c0, .slice a1 l1.length c1, .slice a2 l2.length c2] w fun e w' => e = .returned (.bool (Pl.inR l0 l1 l2)) ∧ ∃ q, w' = w.drewN q := by
  have he : l2.isEmpty = decide (l2.length = 0) := by cases l2 <;> simp
  have HR : Hid (Pl.inR l0 l1 l2 = (decide (¬ 0 < Pl.cmpL l1 l0) && (decide (l2.length = 0) || decide (Pl.cmpL l0 l2 < 0)))) := by show Pl.inR l0 l1 l2 = _; rw [← he]; rfl
  clear he
  generalize Pl.inR l0 l1 l2 = R at *
  by_cases hC1 : 0 < Pl.cmpL l1 l0
  · have HR2 : Hid (R = false) := by show R = false; rw [HR.out]; simp [hC1]
    clear HR
    go_enter Try.func22, Try.ntmps22
    go_wp2_with fail
    refine (cmp_any a1 a0 c1 c0 l1 l0 _ B B h1 h0 (by omega) (by omega)).mono ?_
    rintro e w' ⟨rfl, q, rfl⟩
    go_wp2
    go_ret
    exact ⟨ret_bool HR2.out.symm, q, rfl⟩
  · by_cases hl : l2.length = 0
    · have HR2 : Hid (R = true) := by show R = true; rw [HR.out]; simp [hC1, hl]
      have hl' : ((l2.length : Int) == 0) = true := by simp [hl]
      clear HR
      go_enter Try.func22, Try.ntmps22
      go_wp2_with fail
      refine (cmp_any a1 a0 c1 c0 l1 l0 _ B B h1 h0 (by omega) (by omega)).mono ?_
      rintro e w' ⟨rfl, q, rfl⟩
      go_wp2
      go_ret
      exact ⟨ret_bool HR2.out.symm, q, rfl⟩
    · have HR2 : Hid (R = decide (Pl.cmpL l0 l2 < 0)) := by show R = _; rw [HR.out]; simp [hC1, hl]
      have hl' : ((l2.length : Int) == 0) = false := beq_eq_false_iff_ne.2 (by omega)
      clear HR
      go_enter Try.func22, Try.ntmps22
      go_wp2_with fail
      refine (cmp_any a1 a0 c1 c0 l1 l0 _ B B h1 h0 (by omega) (by omega)).mono ?_
      rintro e w' ⟨rfl, q, rfl⟩
      go_wp2_with fail
      refine (cmp_any a0 a2 c0 c2 l0 l2 (w.drewN q) B B (h0.drewN q) (h2.drewN q) (by omega) (by omega)).mono ?_
      rintro e w' ⟨rfl, q2, rfl⟩
      go_wp2
      go_ret
      exact ⟨ret_bool HR2.out.symm, _, rfl⟩
end Go.Proofs.Qxb6000858a

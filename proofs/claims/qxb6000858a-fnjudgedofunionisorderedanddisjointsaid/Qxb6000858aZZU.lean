import Derived.Test.Qxb6000858aUnion
namespace Go.Proofs.Qxb6000858a
open Go.RowKit
set_option linter.unusedVariables false

/-- what ZZUnion hands back. -/
def ZuPost (w : World) (n : Nat) (e : Ending) (w' : World) : Prop :=
  ∃ a1 c1 a2 c2 p ulo uhi, e = .returned (.tuple #[.slice a1 p c1, .slice a2 p c2]) ∧ UOk n p ulo uhi ∧ p ≤ 4096 ∧ Rd w' w'.heap.size a1 p (fun i => .int .i64 (ulo i : Nat)) ∧ Rd w' w'.heap.size a2 p (fun i => .int .i64 (uhi i : Nat)) ∧ Below w.heap.size w w'

/-- two rows of numbers, filled. -/
structure JC (w wr : World) (m k : Nat) (X Y : Nat → Value) : Prop where
  r1 : wr.rowIs w.heap.size 3 m (fun j => if j < k then X j else .int .i64 0)
  r2 : wr.rowIs (w.heap.size + 1) 3 m (fun j => if j < k then Y j else .int .i64 0)
  below : Below w.heap.size w wr

theorem JC.start (w : World) (m : Nat) (X Y : Nat → Value) : JC w ((w.alloc (.cells (madeCells #[.int .i64 0] m) 3)).alloc (.cells (madeCells #[.int .i64 0] m) 3)) m 0 X Y := by
  have hz : (w.alloc (.cells (madeCells #[.int .i64 0] m) 3)).heap.size = w.heap.size + 1 := by simp
  refine ⟨((World.rowIs_made w (.int .i64 0) m 3).alloc _).congr (fun i _ => by simp), ?_, ((Below.refl _ _).alloc (Nat.le_refl _) _).alloc (by omega) _⟩
  have := World.rowIs_made (w.alloc (.cells (madeCells #[.int .i64 0] m) 3)) (.int .i64 0) m 3
  rw [hz] at this
  exact this.congr fun i _ => by simp

theorem JC.step {w wr : World} {m k : Nat} {X Y : Nat → Value} (h : JC w wr m k X Y) : JC w ((wr.setCell ⟨w.heap.size, k, none⟩ (X k)).setCell ⟨w.heap.size + 1, k, none⟩ (Y k)) m (k + 1) X Y := by
  refine ⟨((h.r1.set k (X k)).setOther (by show w.heap.size ≠ w.heap.size + 1; omega) _).congr fun i hi => ?_, ((h.r2.setOther (by show w.heap.size + 1 ≠ w.heap.size; omega) _).set k (Y k)).congr fun i hi => ?_,
    (h.below.setCell (Nat.le_refl _) _).setCell (by show _ ≤ w.heap.size + 1; omega) _⟩
  all_goals
    by_cases e : i = k
    · subst e; simp
    · by_cases e2 : i < k
      · simp [e, e2, show i < k + 1 by omega]
      · simp [e, e2, show ¬ i < k + 1 by omega]

set_option maxHeartbeats 2000000 in
theorem zu11 (hS : SortSaid) (a1 a2 : Option Addr) (c1 c2 m n : Nat) (lo hi : Nat → Nat) (w : World) (B : Nat) (hB : B ≤ w.heap.size)
    (h1 : Rd w B a1 m (fun i => .int .i64 (lo i))) (h2 : Rd w B a2 m (fun i => .int .i64 (hi i))) (hb : Hid (∀ i, i < m → lo i ≤ n ∧ hi i ≤ n)) (hm : m ≤ 4096) (hn : n ≤ 4096) :
    Calls Try.prog 11 #[.slice a1 m c1, .slice a2 m c2] w (ZuPost w n) := by
  have hmk := run_make_rowK (P := Try.prog) 40 42 (.agg #[.int .i64 0, .int .i64 0]) 2 16 Try.underlying40 Try.info42 .i64 .i64 m (by omega) (by omega)
  go_enter Try.func11, Try.ntmps11
  go_wp2
  go_loopw [17] (fun i wr => ∃ k : Nat, k ≤ m ∧ i = .int .i64 k ∧ JA w wr m k lo hi) (fun i _ => m - (intOf i).toNat)
  case atStart => exact ⟨0, Nat.zero_le _, rfl, JA.start w m lo hi⟩
  case round =>
    obtain ⟨k, hk, rfl, hr⟩ := hrel
    by_cases hkm : k < m
    · obtain ⟨x1, o1, rfl, hx1, hc1⟩ := h1.at hkm
      obtain ⟨x2, o2, rfl, hx2, hc2⟩ := h2.at hkm
      have hc1' : wr.cell? ⟨x1, o1 + k, none⟩ = some (.int .i64 (lo k)) := (hr.below.cell (p := ⟨x1, o1 + k, none⟩) (by show x1 < _; omega)).trans hc1
      have hc2' : wr.cell? ⟨x2, o2 + k, none⟩ = some (.int .i64 (hi k)) := (hr.below.cell (p := ⟨x2, o2 + k, none⟩) (by show x2 < _; omega)).trans hc2
      have hki : (k : Int) < (m : Int) := by omega
      have g1 := hr.row.cell (i := k * 2) (by omega)
      have g2 := hr.row.cell (i := k * 2 + 1) (by omega)
      rw [pr_even, if_neg (by omega)] at g1
      rw [pr_odd, if_neg (by omega)] at g2
      have g3 := hr.row.frozen (k * 2)
      have g4 := hr.row.frozen (k * 2 + 1)
      have R2 := hr.step
      clear hc1 hc2 h1 h2 hr hmk
      go_wp2
      go_region
      go_wp2
      go_roundw
      case rel => exact ⟨k + 1, by omega, by go_num, R2⟩
      case measure => simp [intOf]; omega
    · obtain rfl : k = m := by omega
      clear hmk h1 h2
      have hrow := hr.fin
      have hbel := hr.below
      clear hr
      go_wp2_with fail
      refine (un25 hS w.heap.size k n lo hi wr hrow hb.out hm hn).mono ?_
      rintro e w1 ⟨a, p, c, ulo, uhi, rfl, hok, hp, hown, hb1⟩
      have hall : Below w.heap.size w w1 := hbel.trans (hb1.mono hbel.size)
      clear hrow hb1 hbel
      have hmk2 := run_make_row' (P := Try.prog) 22 3 (.int .i64 0) 8 Try.underlying22 Try.info3 rfl .i64 .i64 p (by omega) (by omega)
      go_wp2
      go_loopw [43] (fun i wr => ∃ j : Nat, j ≤ p ∧ i = .int .i64 j ∧ JC w1 wr p j (fun i => .int .i64 (ulo i : Nat)) (fun i => .int .i64 (uhi i : Nat))) (fun i _ => p - (intOf i).toNat)
      case atStart => exact ⟨0, Nat.zero_le _, rfl, JC.start w1 p _ _⟩
      case round =>
        clear hmk2
        obtain ⟨j, hj, rfl, hr⟩ := hrel
        by_cases hjm : j < p
        · obtain ⟨g, rfl, _, hg, u1, u2, _⟩ := hown.at hjm
          have g1 : wr.cell? ⟨g, j * 2, none⟩ = some (.int .i64 (ulo j : Nat)) := by rw [hr.below.cell (p := ⟨g, j * 2, none⟩) hg, u1]
          have g2 : wr.cell? ⟨g, j * 2 + 1, none⟩ = some (.int .i64 (uhi j : Nat)) := by rw [hr.below.cell (p := ⟨g, j * 2 + 1, none⟩) hg, u2]
          have g3 := hr.r1.cell hjm
          have g4 := hr.r2.cell hjm
          rw [if_neg (by omega)] at g3 g4
          have g5 := hr.r1.frozen j
          have g6 := hr.r2.frozen j
          have hji : (j : Int) < (p : Int) := by omega
          have R2 := hr.step
          clear hr hown hok u1 u2
          go_wp2
          go_roundw
          case rel => exact ⟨j + 1, by omega, by go_num, R2⟩
          case measure => simp [intOf]; omega
        · obtain rfl : j = p := by omega
          go_wp2
          refine bodyPost_ret (v := .tuple #[.slice (some ⟨w1.heap.size, 0, none⟩) j j, .slice (some ⟨w1.heap.size + 1, 0, none⟩) j j]) (by simp [results, Try.results11, go_sem]) rfl ?_
          exact ⟨_, _, _, _, j, ulo, uhi, rfl, hok, hp, (Rn_of_row (lo := 0) (hr.r1.congr fun i hi => by rw [if_pos hi]) (Nat.zero_le _)).rd, (Rn_of_row (lo := 0) (hr.r2.congr fun i hi => by rw [if_pos hi]) (Nat.zero_le _)).rd, hall.trans (hr.below.mono hall.size)⟩
end Go.Proofs.Qxb6000858a

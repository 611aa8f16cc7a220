import Derived.Test.Qxb6000858aJudged
namespace Go.Proofs.Qxb6000858a
open Go.RowKit
set_option linter.unusedVariables false

/-- what ZZJudgedOne hands back. -/
def JoPost (w : World) (t : Int) (m n : Nat) (lo hi : Nat → Nat) (key : Nat → List Int) (e : Ending) (w' : World) : Prop :=
  (m = 0 ∧ e = .returned (.tuple #[.int .i64 0, .int .i64 0, .slice none 0 0, .slice none 0 0]) ∧ Below w.heap.size w w') ∨
  (0 < m ∧ ∃ a1 c1 a2 c2 A1 C1 A2 C2, e = .returned (.tuple #[.int .i64 1, .int .i64 t, .slice a1 m c1, .slice a2 m c2]) ∧ Keys w' w'.heap.size a1 m (fun i => key (lo i)) A1 C1 ∧
    Keys w' w'.heap.size a2 m (fun i => Pl.hiOf n key (hi i)) A2 C2 ∧ Below w.heap.size w w')

/-- the first loop: pairs. -/
structure JA (w wr : World) (m k : Nat) (lo hi : Nat → Nat) : Prop where
  row : wr.rowIs w.heap.size 42 (m * 2) (pr (fun j => if j < k then .int .i64 (lo j) else .int .i64 0) (fun j => if j < k then .int .i64 (hi j) else .int .i64 0))
  below : Below w.heap.size w wr

theorem JA.start (w : World) (m : Nat) (lo hi : Nat → Nat) : JA w (w.alloc (.cells (madeCells #[.int .i64 0, .int .i64 0] (m * 2)) 42)) m 0 lo hi :=
  ⟨(made_pairs w _ _ m 42).congr (fun i _ => by simp), (Below.refl _ _).alloc (Nat.le_refl _) _⟩

theorem JA.step {w wr : World} {m k : Nat} {lo hi : Nat → Nat} (h : JA w wr m k lo hi) : JA w ((wr.setCell ⟨w.heap.size, k * 2, none⟩ (.int .i64 (lo k))).setCell ⟨w.heap.size, k * 2 + 1, none⟩ (.int .i64 (hi k))).drew m (k + 1) lo hi := by
  refine ⟨World.rowIs.drew ((set_pair h.row k (.int .i64 (lo k)) (.int .i64 (hi k))).congr fun i hi => ?_), ((h.below.setCell (Nat.le_refl _) _).setCell (Nat.le_refl _) _).drew⟩
  congr 1 <;> funext j
  all_goals
    by_cases e : j = k
    · subst e; simp
    · by_cases e2 : j < k
      · simp [e, e2, show j < k + 1 by omega]
      · simp [e, e2, show ¬ j < k + 1 by omega]

theorem JA.fin {w wr : World} {m : Nat} {lo hi : Nat → Nat} (h : JA w wr m m lo hi) : wr.rowIs w.heap.size 42 (m * 2) (pr (fun i => .int .i64 (lo i)) (fun i => .int .i64 (hi i))) :=
  h.row.congr fun i hi => by
    rcases (show i % 2 = 0 ∨ i % 2 = 1 by omega) with e | e
    · obtain ⟨q, rfl⟩ : ∃ q, i = q * 2 := ⟨i / 2, by omega⟩
      rw [pr_even, pr_even, if_pos (by omega)]
    · obtain ⟨q, rfl⟩ : ∃ q, i = q * 2 + 1 := ⟨i / 2, by omega⟩
      rw [pr_odd, pr_odd, if_pos (by omega)]

/-- the second loop: two rows of slices. -/
structure JB (w wr : World) (m k : Nat) (X Y : Nat → Value) : Prop where
  r1 : wr.rowIs w.heap.size 38 m (fun j => if j < k then X j else .slice none 0 0)
  r2 : wr.rowIs (w.heap.size + 1) 38 m (fun j => if j < k then Y j else .slice none 0 0)
  below : Below w.heap.size w wr

theorem JB.start (w : World) (m : Nat) (X Y : Nat → Value) : JB w ((w.alloc (.cells (madeCells #[.slice none 0 0] m) 38)).alloc (.cells (madeCells #[.slice none 0 0] m) 38)) m 0 X Y := by
  have hz : (w.alloc (.cells (madeCells #[.slice none 0 0] m) 38)).heap.size = w.heap.size + 1 := by simp
  refine ⟨((World.rowIs_made w (.slice none 0 0) m 38).alloc _).congr (fun i _ => by simp), ?_, ((Below.refl _ _).alloc (Nat.le_refl _) _).alloc (by omega) _⟩
  have := World.rowIs_made (w.alloc (.cells (madeCells #[.slice none 0 0] m) 38)) (.slice none 0 0) m 38
  rw [hz] at this
  exact this.congr fun i _ => by simp

theorem JB.step {w wr : World} {m k : Nat} {X Y : Nat → Value} (h : JB w wr m k X Y) : JB w ((wr.setCell ⟨w.heap.size, k, none⟩ (X k)).setCell ⟨w.heap.size + 1, k, none⟩ (Y k)) m (k + 1) X Y := by
  refine ⟨((h.r1.set k (X k)).setOther (by show w.heap.size ≠ w.heap.size + 1; omega) _).congr fun i hi => ?_, ((h.r2.setOther (by show w.heap.size + 1 ≠ w.heap.size; omega) _).set k (Y k)).congr fun i hi => ?_,
    (h.below.setCell (Nat.le_refl _) _).setCell (by show _ ≤ w.heap.size + 1; omega) _⟩
  all_goals
    by_cases e : i = k
    · subst e; simp
    · by_cases e2 : i < k
      · simp [e, e2, show i < k + 1 by omega]
      · simp [e, e2, show ¬ i < k + 1 by omega]

theorem new3 (w : World) (x y z : Value) (t : TypeId) : (w.alloc (.cells #[x, y, z] t)).cell? ⟨w.heap.size, 0, none⟩ = some x ∧ (w.alloc (.cells #[x, y, z] t)).cell? ⟨w.heap.size, 1, none⟩ = some y ∧ (w.alloc (.cells #[x, y, z] t)).cell? ⟨w.heap.size, 2, none⟩ = some z := by
  simp only [World.cell?, heap_alloc_new]
  exact ⟨rfl, rfl, rfl⟩

/-- the two values that ZZJudgedOne copies. -/
def hiA (n : Nat) (A : Nat → Option Addr) (h : Nat) : Option Addr := if h < n then A h else none
def hiC (n : Nat) (C : Nat → Nat) (h : Nat) : Nat := if h < n then C h else 0

theorem jd_row {w : World} {r m n : Nat} {lo hi : Nat → Nat} {key : Nat → List Int} {A : Nat → Option Addr} {C : Nat → Nat}
    (h : w.rowIs r 56 (m * 2) (pr (fun i => .slice (A (lo i)) (key (lo i)).length (C (lo i))) (fun i => if hi i < n then .slice (A (hi i)) (key (hi i)).length (C (hi i)) else .slice none 0 0))) :
    w.rowIs r 56 (m * 2) (pr (fun i => .slice (A (lo i)) (key (lo i)).length (C (lo i))) (fun i => .slice (hiA n A (hi i)) (Pl.hiOf n key (hi i)).length (hiC n C (hi i)))) := by
  refine h.congr fun i _ => ?_
  congr 1
  funext j
  unfold hiA hiC Pl.hiOf
  by_cases e : hi j < n <;> simp [e]

theorem keys_hi {w : World} {B n : Nat} {a : Option Addr} {key : Nat → List Int} {A : Nat → Option Addr} {C : Nat → Nat} (h : Keys w B a n key A C) (j : Nat) : Rd w B (hiA n A j) (Pl.hiOf n key j).length (ci .u8 (Pl.hiOf n key j)) := by
  unfold hiA Pl.hiOf
  by_cases e : j < n
  · rw [if_pos e, if_pos e]; exact h.row j e
  · rw [if_neg e, if_neg e]; exact .inl rfl

theorem jo_fin {w w1 wr : World} {t : Int} {m n B : Nat} {lo hi : Nat → Nat} {a3 : Option Addr} {key : Nat → List Int} {A : Nat → Option Addr} {C : Nat → Nat} (hm : 0 < m) (q : Nat)
    (h : JB w1 wr m m (fun i => .slice (A (lo i)) (key (lo i)).length (C (lo i))) (fun i => .slice (hiA n A (hi i)) (Pl.hiOf n key (hi i)).length (hiC n C (hi i))))
    (hK : Keys wr B a3 n key A C) (hsz : B ≤ wr.heap.size) (hlo : ∀ i, i < m → lo i < n) (hb : Below w.heap.size w w1) :
    JoPost w t m n lo hi key (.returned (.tuple #[.int .i64 1, .int .i64 t, .slice (some ⟨w1.heap.size, 0, none⟩) m m, .slice (some ⟨w1.heap.size + 1, 0, none⟩) m m])) (wr.drewN q) := by
  refine .inr ⟨hm, some ⟨w1.heap.size, 0, none⟩, m, some ⟨w1.heap.size + 1, 0, none⟩, m, fun i => A (lo i), fun i => C (lo i), fun i => hiA n A (hi i), fun i => hiC n C (hi i), rfl, ⟨?_, ?_⟩, ⟨?_, ?_⟩, ?_⟩
  · exact (Rn_of_row (lo := 0) (h.r1.congr fun i hi => by rw [if_pos hi]) (Nat.zero_le _)).rd
  · exact fun i hi => ((hK.row (lo i) (hlo i hi)).mono hsz)
  · exact (Rn_of_row (lo := 0) (h.r2.congr fun i hi => by rw [if_pos hi]) (Nat.zero_le _)).rd
  · exact fun i hi => ((keys_hi hK _).mono hsz)
  · exact below_drewN (hb.trans (h.below.mono hb.size)) q

set_option maxHeartbeats 2000000 in
theorem jo21 (t : Int) (a1 a2 a3 : Option Addr) (c1 c2 m n c3 : Nat) (lo hi : Nat → Nat) (key : Nat → List Int) (A : Nat → Option Addr) (C : Nat → Nat) (w : World) (B : Nat) (hB : B ≤ w.heap.size) (hK : Keys w B a3 n key A C)
    (h1 : Rd w B a1 m (fun i => .int .i64 (lo i))) (h2 : Rd w B a2 m (fun i => .int .i64 (hi i))) (hlo : Hid (∀ i, i < m → lo i < n))
    (b1 : m ≤ 1048576) (b3 : n ≤ 1048576) :
    Calls Try.prog 21 #[.int .i64 t, .slice a1 m c1, .slice a2 m c2, .slice a3 n c3] w (JoPost w t m n lo hi key) := by
  have hmk := run_make_rowK (P := Try.prog) 43 42 (.agg #[.int .i64 0, .int .i64 0]) 2 16 Try.underlying43 Try.info42 .i64 .i64 m (by omega) (by omega)
  have hmk2 := run_make_row' (P := Try.prog) 30 38 (.slice none 0 0) 24 Try.underlying30 Try.info38 rfl .i64 .i64 m (by omega) (by omega)
  go_enter Try.func21, Try.ntmps21
  go_wp2
  go_loopw [24] (fun i wr => ∃ k : Nat, k ≤ m ∧ i = .int .i64 k ∧ JA w wr m k lo hi) (fun i _ => m - (intOf i).toNat)
  case atStart => exact ⟨0, Nat.zero_le _, rfl, JA.start w m lo hi⟩
  case round =>
    obtain ⟨k, hk, rfl, hr⟩ := hrel
    by_cases hkm : k < m
    · obtain ⟨x1, o1, rfl, hx1, hc1⟩ := h1.at hkm
      obtain ⟨x2, o2, rfl, hx2, hc2⟩ := h2.at hkm
      have hc1' : wr.cell? ⟨x1, o1 + k, none⟩ = some (.int .i64 (lo k)) := (hr.below.cell (p := ⟨x1, o1 + k, none⟩) (by show x1 < _; omega)).trans hc1
      have hc2' : wr.cell? ⟨x2, o2 + k, none⟩ = some (.int .i64 (hi k)) := (hr.below.cell (p := ⟨x2, o2 + k, none⟩) (by show x2 < _; omega)).trans hc2
      have hki : (k : Int) < (m : Int) := by omega
      have g1 := hr.row.cell (i := k * 2) (by omega)
      have g2 := hr.row.cell (i := k * 2 + 1) (by omega)
      rw [pr_even, if_neg (by omega)] at g1
      rw [pr_odd, if_neg (by omega)] at g2
      have g3 := hr.row.frozen (k * 2)
      have g4 := hr.row.frozen (k * 2 + 1)
      have R2 := hr.step
      clear hc1 hc2 h1 h2 hr hmk hmk2
      go_wp2
      go_region
      go_wp2
      go_roundw
      case rel => exact ⟨k + 1, by omega, by go_num, R2⟩
      case measure => simp [intOf]; omega
    · obtain rfl : k = m := by omega
      clear hmk h1 h2
      have hrow := hr.fin
      have hbel := hr.below
      clear hr
      have hbel1 := hbel.alloc (Nat.le_trans (Nat.le_refl _) hbel.size) (.cells #[.int .i64 0, .int .i64 t, .slice (some ⟨w.heap.size, 0, none⟩) k k] 50)
      have hrow1 := hrow.alloc (.cells #[.int .i64 0, .int .i64 t, .slice (some ⟨w.heap.size, 0, none⟩) k k] 50)
      have hK1 := hK.keep (hbel1.mono hB)
      obtain ⟨n0, n1, n2⟩ := new3 wr (.int .i64 0) (.int .i64 t) (.slice (some ⟨w.heap.size, 0, none⟩) k k) 50
      have hcon := jd27 wr.heap.size w.heap.size 0 t k n c3 lo hi a3 key A C _ B (Nat.le_trans hB hbel1.size) hK1 n0 n1 n2 hrow1 hlo (by omega) (by omega)
      have HC : Hid (Calls _ _ _ _ _) := hcon
      clear hcon hrow1 hrow n0 n1 n2
      go_wp2_with fail
      refine Calls.mono HC.out ?_
      clear HC
      generalize hW1 : wr.alloc (.cells #[.int .i64 0, .int .i64 t, .slice (some ⟨w.heap.size, 0, none⟩) k k] 50) = W1 at *
      clear hW1
      intro e w1 hpost
      rcases hpost with ⟨hm0, rfl, hb1⟩ | ⟨hm0, g, r, c, rfl, hg0, hg1, hrr, hgs, hb1⟩
      · have hall : Below w.heap.size w w1 := hbel1.trans (hb1.mono hbel1.size)
        go_wp2
        exact bodyPost_ret (v := .tuple #[.int .i64 0, .int .i64 0, .slice none 0 0, .slice none 0 0]) (by simp [results, Try.results21, go_sem]) rfl (.inl ⟨hm0, rfl, hall⟩)
      · have hrr2 := jd_row hrr
        have hgs2 : g < w1.heap.size := hgs
        have hrs := hrr2.lt
        have hall : Below w.heap.size w w1 := hbel1.trans (hb1.mono hbel1.size)
        have hK2 := hK.keep (hall.mono hB)
        clear hrr hb1 hbel1 hbel hK1
        go_wp2
        go_loopw [61] (fun i wr => ∃ j : Nat, j ≤ k ∧ i = .int .i64 j ∧ JB w1 wr k j (fun i => .slice (A (lo i)) (key (lo i)).length (C (lo i))) (fun i => .slice (hiA n A (hi i)) (Pl.hiOf n key (hi i)).length (hiC n C (hi i)))) (fun i _ => k - (intOf i).toNat)
        case atStart => exact ⟨0, Nat.zero_le _, rfl, JB.start w1 k _ _⟩
        case round =>
          clear hmk2
          obtain ⟨j, hj, rfl, hr⟩ := hrel
          by_cases hjm : j < k
          · have g1 : wr.cell? ⟨r, j * 2, none⟩ = some (.slice (A (lo j)) (key (lo j)).length (C (lo j))) := by
              rw [hr.below.cell (p := ⟨r, j * 2, none⟩) hrs, hrr2.cell (by omega), pr_even]
            have g2 : wr.cell? ⟨r, j * 2 + 1, none⟩ = some (.slice (hiA n A (hi j)) (Pl.hiOf n key (hi j)).length (hiC n C (hi j))) := by
              rw [hr.below.cell (p := ⟨r, j * 2 + 1, none⟩) hrs, hrr2.cell (by omega), pr_odd]
            have g3 := hr.r1.cell hjm
            have g4 := hr.r2.cell hjm
            rw [if_neg (by omega)] at g3 g4
            have g5 := hr.r1.frozen j
            have g6 := hr.r2.frozen j
            have hji : (j : Int) < (k : Int) := by omega
            have R2 := hr.step
            clear hr hrr2 hlo
            go_wp2
            go_roundw
            case rel => exact ⟨j + 1, by omega, by go_num, R2⟩
            case measure => simp [intOf]; omega
          · obtain rfl : j = k := by omega
            have g1 : wr.cell? ⟨g, 0, none⟩ = some (.int .i64 t) := by rw [hr.below.cell (p := ⟨g, 0, none⟩) hgs2, hg0]
            have hK3 := hK2.keep (hr.below.mono (Nat.le_trans hB hall.size))
            have hsz : B ≤ wr.heap.size := Nat.le_trans hB (Nat.le_trans hall.size hr.below.size)
            go_wp2
            go_quiet (fail)
            go_wp2
            refine bodyPost_ret (v := .tuple #[.int .i64 1, .int .i64 t, .slice (some ⟨w1.heap.size, 0, none⟩) j j, .slice (some ⟨w1.heap.size + 1, 0, none⟩) j j]) (by simp [results, Try.results21, go_sem]) rfl ?_
            exact jo_fin hm0 _ hr hK3 hsz hlo.out hall
end Go.Proofs.Qxb6000858a

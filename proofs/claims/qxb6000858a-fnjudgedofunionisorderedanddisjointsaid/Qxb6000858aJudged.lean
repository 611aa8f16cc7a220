import Derived.Test.Qxb6000858aPairs
namespace Go.Proofs.Qxb6000858a
open Go.RowKit
set_option linter.unusedVariables false

def JdPost (w : World) (t : Int) (m : Nat) (X Y : Nat → Value) (e : Ending) (w' : World) : Prop :=
  (m = 0 ∧ e = .returned (.slice none 0 0) ∧ Below w.heap.size w w') ∨
  (0 < m ∧ ∃ g r c, e = .returned (.slice (some ⟨g, 0, none⟩) 1 c) ∧ w'.cell? ⟨g, 0, none⟩ = some (.int .i64 t) ∧ w'.cell? ⟨g, 1, none⟩ = some (.slice (some ⟨r, 0, none⟩) m m) ∧ w'.rowIs r 56 (m * 2) (pr X Y) ∧ g < w'.heap.size ∧ Below w.heap.size w w')

/-- the inner loop's relation on the world. -/
structure JIn (w wr : World) (t : Int) (m k : Nat) (X Y : Nat → Value) : Prop where
  row : wr.rowIs (w.heap.size + 1) 56 (m * 2) (pr (fun j => if j < k then X j else .slice none 0 0) (fun j => if j < k then Y j else .slice none 0 0))
  box : wr.cell? ⟨w.heap.size, 1, none⟩ = some (.int .i64 t)
  below : Below w.heap.size w wr

theorem JIn.alloc {w wr : World} {t : Int} {m k : Nat} {X Y : Nat → Value} (h : JIn w wr t m k X Y) (o : Obj) : JIn w (wr.alloc o) t m k X Y := by
  have hlt := h.row.lt
  refine ⟨h.row.alloc o, ?_, h.below.alloc (by omega) o⟩
  rw [World.cell?_of_block (w := wr) (Below.heap_alloc _ _ _ (by show w.heap.size < _; omega))]
  exact h.box

theorem JIn.step2 {w wr : World} {t : Int} {m k : Nat} {X Y : Nat → Value} (h : JIn w wr t m k X Y) :
    JIn w ((wr.setCell ⟨w.heap.size + 1, k * 2, none⟩ (X k)).setCell ⟨w.heap.size + 1, k * 2 + 1, none⟩ (Y k)) t m (k + 1) X Y := by
  have hlt := h.row.lt
  refine ⟨(set_pair h.row k (X k) (Y k)).congr fun i hi => ?_, ?_, ?_⟩
  · congr 1 <;> funext j
    all_goals
      by_cases e : j = k
      · subst e; simp
      · by_cases e2 : j < k
        · simp [e, e2, show j < k + 1 by omega]
        · simp [e, e2, show ¬ j < k + 1 by omega]
  · rw [World.cell?_of_block (Below.heap_setCell _ _ _ _ (by show w.heap.size ≠ w.heap.size + 1; omega)), World.cell?_of_block (Below.heap_setCell _ _ _ _ (by show w.heap.size ≠ w.heap.size + 1; omega))]
    exact h.box
  · exact (h.below.setCell (by show _ ≤ w.heap.size + 1; omega) _).setCell (by show _ ≤ w.heap.size + 1; omega) _

theorem JIn.step1 {w wr : World} {t : Int} {m k : Nat} {X Y : Nat → Value} (h : JIn w wr t m k X Y) (hY : Y k = .slice none 0 0) :
    JIn w (wr.setCell ⟨w.heap.size + 1, k * 2, none⟩ (X k)) t m (k + 1) X Y := by
  have hlt := h.row.lt
  refine ⟨(h.row.set (k * 2) (X k)).congr fun i hi => ?_, ?_, ?_⟩
  · rcases (show i % 2 = 0 ∨ i % 2 = 1 by omega) with e | e
    · obtain ⟨q, rfl⟩ : ∃ q, i = q * 2 := ⟨i / 2, by omega⟩
      rw [pr_even, pr_even]
      by_cases eq : q = k
      · subst eq; simp
      · rw [if_neg (by omega)]
        by_cases e2 : q < k
        · simp [e2, show q < k + 1 by omega]
        · simp [e2, show ¬ q < k + 1 by omega]
    · obtain ⟨q, rfl⟩ : ∃ q, i = q * 2 + 1 := ⟨i / 2, by omega⟩
      rw [pr_odd, pr_odd, if_neg (by omega)]
      by_cases eq : q = k
      · subst eq; simp [hY]
      · by_cases e2 : q < k
        · simp [e2, show q < k + 1 by omega]
        · simp [e2, show ¬ q < k + 1 by omega]
  · rw [World.cell?_of_block (Below.heap_setCell _ _ _ _ (by show w.heap.size ≠ w.heap.size + 1; omega))]
    exact h.box
  · exact h.below.setCell (by show _ ≤ w.heap.size + 1; omega) _

theorem JIn.start (w : World) (hst : Value) (t : Int) (sp : Value) (m : Nat) (X Y : Nat → Value) :
    JIn w ((w.alloc (.cells #[hst, .int .i64 t, sp] 50)).alloc (.cells (madeCells #[.slice none 0 0, .slice none 0 0] (m * 2)) 56)) t m 0 X Y := by
  have hz : (w.alloc (.cells #[hst, .int .i64 t, sp] 50)).heap.size = w.heap.size + 1 := by simp
  refine ⟨?_, ?_, ((Below.refl _ _).alloc (Nat.le_refl _) _).alloc (by omega) _⟩
  · have := made_pairs (w.alloc (.cells #[hst, .int .i64 t, sp] 50)) (.slice none 0 0) (.slice none 0 0) m 56
    rw [hz] at this
    exact this.congr fun i _ => by simp
  · rw [World.cell?_of_block (w := w.alloc (.cells #[hst, .int .i64 t, sp] 50)) (Below.heap_alloc _ _ _ (by show w.heap.size < _; omega))]
    simp only [World.cell?, heap_alloc_new]
    rfl

theorem jd_fin {w wr w1 : World} {t : Int} {m : Nat} {X Y : Nat → Value} {o : Obj} {v' : Value} (hm : 0 < m) (h : JIn w wr t m m X Y)
    (hown : w1.ownsRow w.heap.size 54 2 v' 1 [.int .i64 t, .slice (some ⟨w.heap.size + 1, 0, none⟩) m m]) (hg : (wr.alloc o).grownBy w1 (Value.ownBlock (.slice none 0 0))) : JdPost w t m X Y (.returned v') w1 := by
  have hlt := h.row.lt
  right
  refine ⟨hm, ?_⟩
  rcases hown.2 with ⟨_, h0⟩ | ⟨g, cap, cur, rfl, hb, hh, h1, h2, h3, h4⟩
  · omega
  · have hc := hown.cells (g := g) rfl
    have e0 := hc 0 _ rfl
    have e1 := hc 1 _ rfl
    refine ⟨g, w.heap.size + 1, cap, rfl, by simpa [Addr.add] using e0, by simpa [Addr.add] using e1, ?_, (Array.getElem?_eq_some_iff.1 hh).1, ?_⟩
    · have hrow : (wr.alloc o).rowIs (w.heap.size + 1) 56 (m * 2) _ := h.row.alloc o
      have := hrow.of_block (hg.block (w.heap.size + 1) hrow.lt (by simp [Value.ownBlock]))
      refine this.congr fun i hi => ?_
      rcases (show i % 2 = 0 ∨ i % 2 = 1 by omega) with e | e
      · obtain ⟨q, rfl⟩ : ∃ q, i = q * 2 := ⟨i / 2, by omega⟩
        rw [pr_even, pr_even, if_pos (by omega)]
      · obtain ⟨q, rfl⟩ : ∃ q, i = q * 2 + 1 := ⟨i / 2, by omega⟩
        rw [pr_odd, pr_odd, if_pos (by omega)]
    · have hz : w.heap.size ≤ (wr.alloc o).heap.size := by simp; omega
      exact (h.below.alloc (by omega) o).grown hg hz (by simp [Value.ownBlock])

set_option maxHeartbeats 1000000 in
theorem jd27 (bl bs : Nat) (hst : Int) (t : Int) (m n c3 : Nat) (lo hi : Nat → Nat) (a3 : Option Addr) (key : Nat → List Int) (A : Nat → Option Addr) (C : Nat → Nat) (w : World) (B : Nat) (hB : B ≤ w.heap.size) (hK : Keys w B a3 n key A C)
    (hl0 : w.cell? ⟨bl, 0, none⟩ = some (.int .i64 hst)) (hl1 : w.cell? ⟨bl, 1, none⟩ = some (.int .i64 t)) (hl2 : w.cell? ⟨bl, 2, none⟩ = some (.slice (some ⟨bs, 0, none⟩) m m))
    (hs : w.rowIs bs 42 (m * 2) (pr (fun i => .int .i64 (lo i)) (fun i => .int .i64 (hi i)))) (hlo : Hid (∀ i, i < m → lo i < n)) (hm : m ≤ 1048576) (hn : n ≤ 1048576) :
    Calls Try.prog 27 #[.slice (some ⟨bl, 0, none⟩) 1 1, .slice a3 n c3] w (JdPost w t m (fun i => .slice (A (lo i)) (key (lo i)).length (C (lo i))) (fun i => if hi i < n then .slice (A (hi i)) (key (hi i)).length (C (hi i)) else .slice none 0 0)) := by
  have hmk := run_make_rowK (P := Try.prog) 52 56 (.agg #[.slice none 0 0, .slice none 0 0]) 2 48 Try.underlying52 Try.info56 .i64 .i64 m (by omega) (by omega)
  by_cases hm0 : m = 0
  · have hm0' : ((m : Int) == 0) = true := by simp [hm0]
    go_enter Try.func27, Try.ntmps27
    go_wp2
    refine wp_loop_rounds 2 ?_
    rw [rounds_succ]
    go_wp2
    rw [rounds_succ]
    go_wp2
    go_ret
    exact .inl ⟨hm0, rfl, (Below.refl _ _).alloc (Nat.le_refl _) _⟩
  · have hm0' : ((m : Int) == 0) = false := beq_eq_false_iff_ne.2 (by omega)
    go_enter Try.func27, Try.ntmps27
    go_wp2
    refine wp_loop_rounds 2 ?_
    rw [rounds_succ]
    go_wp2
    go_loopw [28] (fun i wr => ∃ k : Nat, k ≤ m ∧ i = .int .i64 k ∧ JIn w wr t m k (fun i => .slice (A (lo i)) (key (lo i)).length (C (lo i))) (fun i => if hi i < n then .slice (A (hi i)) (key (hi i)).length (C (hi i)) else .slice none 0 0)) (fun i _ => m - (intOf i).toNat)
    case atStart => exact ⟨0, Nat.zero_le _, rfl, JIn.start w _ t _ m _ _⟩
    case round =>
      obtain ⟨k, hk, rfl, hr⟩ := hrel
      by_cases hkm : k < m
      · have hlk := hlo.out k hkm
        obtain ⟨b3, o3, rfl, hb3, hc3⟩ := hK.rd.at hlk
        have hsz := hr.row.lt
        have hbs := hs.lt
        have g1 : wr.cell? ⟨bs, k * 2, none⟩ = some (.int .i64 (lo k)) := by
          rw [hr.below.cell (p := ⟨bs, k * 2, none⟩) hbs, hs.cell (by omega), pr_even]
        have g2 : wr.cell? ⟨bs, k * 2 + 1, none⟩ = some (.int .i64 (hi k)) := by
          rw [hr.below.cell (p := ⟨bs, k * 2 + 1, none⟩) hbs, hs.cell (by omega), pr_odd]
        have g3 : wr.cell? ⟨b3, o3 + lo k, none⟩ = some (.slice (A (lo k)) (key (lo k)).length (C (lo k))) := by
          rw [hr.below.cell (p := ⟨b3, o3 + lo k, none⟩) (by show b3 < _; omega), hc3]
        have g4 : wr.cell? ⟨w.heap.size + 1, k * 2, none⟩ = some (.slice none 0 0) := by rw [hr.row.cell (by omega), pr_even, if_neg (by omega)]
        have g5 : wr.cell? ⟨w.heap.size + 1, k * 2 + 1, none⟩ = some (.slice none 0 0) := by rw [hr.row.cell (by omega), pr_odd, if_neg (by omega)]
        have g6 := hr.row.frozen (k * 2)
        have g7 := hr.row.frozen (k * 2 + 1)
        have s1 : bs < wr.heap.size := by have := hr.below.size; omega
        have s2 : b3 < wr.heap.size := by have := hr.below.size; omega
        have hki : (k : Int) < (m : Int) := by omega
        have hli : (lo k : Int) < (n : Int) := by omega
        by_cases hh : hi k < n
        · have g8 : wr.cell? ⟨b3, o3 + hi k, none⟩ = some (.slice (A (hi k)) (key (hi k)).length (C (hi k))) := by
            obtain ⟨b', o', e', _, hc'⟩ := hK.rd.at hh
            simp only [Option.some.injEq, Addr.mk.injEq, and_true] at e'
            obtain ⟨rfl, rfl⟩ := e'
            rw [hr.below.cell (p := ⟨b3, o3 + hi k, none⟩) (by show b3 < _; omega), hc']
          have hhi : (hi k : Int) < (n : Int) := by omega
          have R2 := hr.step2.alloc (.cells #[.int .i64 (lo k), .int .i64 (hi k)] 42)
          rw [if_pos hh] at R2
          clear hr hc3 hs hl0 hl1 hl2 hbs
          go_wp2
          go_roundw
          case rel => exact ⟨k + 1, by omega, by go_num, R2⟩
          case measure => simp [intOf]; omega
        · have hhi : ¬ (hi k : Int) < (n : Int) := by omega
          have R2 := (hr.step1 (if_neg hh)).alloc (.cells #[.int .i64 (lo k), .int .i64 (hi k)] 42)
          clear hr hc3 hs hl0 hl1 hl2 hbs
          go_wp2
          go_roundw
          case rel => exact ⟨k + 1, by omega, by go_num, R2⟩
          case measure => simp [intOf]; omega
      · obtain rfl : k = m := by omega
        have hbx := hr.box
        have hsz := hr.row.lt
        clear hl0 hl1 hl2 hs
        obtain ⟨i0, hi0, hz0, hz1, hz2⟩ := info_parts Try.info54
        go_wp2_with (at_builtin; refine wpList_append_own _ rfl _ _ 46 rfl w.heap.size 54 i0 (.agg #[.int .i64 0, .slice none 0 0]) 2 32 Try.underlying46 hi0 hz0 hz1 hz2 rfl (by decide) _ _ _ rfl (World.ownsRow_nil _ _ _ _) ⟨wr.heap.size, 0, none⟩ 1 1 [.int .i64 t, .slice (some ⟨w.heap.size + 1, 0, none⟩) k k] rfl rfl ?c1 ?c2 ?c3 ?c4 ?c5 ?_)
        case c1 =>
          intro j u hj
          match j, hj with
          | 0, hj => simp at hj; subst hj; simp [Addr.add]
          | 1, hj => simp at hj; subst hj; simp [Addr.add]
        case c2 => intro u hu; simp at hu; rcases hu with rfl | rfl <;> rfl
        case c3 => unfold maxLen; omega
        case c4 => omega
        case c5 => simp; omega
        intro v' w1 hown' hgrow _
        have fin := jd_fin (by omega) hr hown' hgrow
        clear hown' hgrow hr
        go_wp2
        rw [rounds_succ]
        go_wp2
        go_ret
        exact fin
end Go.Proofs.Qxb6000858a

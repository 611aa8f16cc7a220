import Derived.Test.Qxb6000464aBase
namespace Go.Proofs.Qxb6000464a
open Go.RowKit
set_option linter.unusedVariables false

theorem Try.info3 : (Try.prog.info? 3).map (fun i => (i.zero, i.size, i.bytes)) = some (some (.int .i64 0), 1, 8) := by kernel_rfl
theorem Try.info5 : (Try.prog.info? 5).map (fun i => (i.zero, i.size, i.bytes)) = some (some (.int .u8 0), 1, 1) := by kernel_rfl
theorem Try.info22 : (Try.prog.info? 22).map (fun i => (i.zero, i.size, i.bytes)) = some (some (.slice none 0 0), 1, 24) := by kernel_rfl

/-- A SLICE IN NEW MEMORY: n cells in a block from lo on. -/
def Rn (w : World) (lo : Nat) (a : Option Addr) (n : Nat) (f : Nat → Value) : Prop :=
  n = 0 ∨ ∃ b off, a = some ⟨b, off, none⟩ ∧ lo ≤ b ∧ b < w.heap.size ∧ ∀ i, i < n → w.cell? ⟨b, off + i, none⟩ = some (f i)

theorem Rn.rd {w : World} {lo : Nat} {a : Option Addr} {n : Nat} {f : Nat → Value} (h : Rn w lo a n f) : Rd w w.heap.size a n f := by
  rcases h with h | ⟨b, off, e, _, hB, hc⟩
  · exact .inl h
  · exact .inr ⟨b, off, e, hB, hc⟩

theorem Rn.mono {w : World} {lo lo' : Nat} {a : Option Addr} {n : Nat} {f : Nat → Value} (h : Rn w lo a n f) (hl : lo' ≤ lo) : Rn w lo' a n f := by
  rcases h with h | ⟨b, off, e, h1, hB, hc⟩
  · exact .inl h
  · exact .inr ⟨b, off, e, by omega, hB, hc⟩

theorem Rn.keep {w w' : World} {lo : Nat} {a : Option Addr} {n : Nat} {f : Nat → Value} (h : Rn w lo a n f) (hb : Below w.heap.size w w') : Rn w' lo a n f := by
  rcases h with h | ⟨b, off, e, h1, hB, hc⟩
  · exact .inl h
  · exact .inr ⟨b, off, e, h1, Nat.lt_of_lt_of_le hB hb.size, fun i hi => (hb.cell (p := ⟨b, off + i, none⟩) hB).trans (hc i hi)⟩

theorem Rn.setBelow {w : World} {lo : Nat} {a : Option Addr} {n : Nat} {f : Nat → Value} (h : Rn w lo a n f) {p : Addr} (hp : p.block < lo) (v : Value) : Rn (w.setCell p v) lo a n f := by
  rcases h with h | ⟨b, off, e, h1, hB, hc⟩
  · exact .inl h
  · refine .inr ⟨b, off, e, h1, by simpa using hB, fun i hi => ?_⟩
    rw [← hc i hi]
    exact World.cell?_of_block (w := w) (Below.heap_setCell w p v b (by omega))

theorem Rn_of_row {w : World} {b lo : Nat} {t : TypeId} {n : Nat} {f : Nat → Value} (h : w.rowIs b t n f) (hlo : lo ≤ b) : Rn w lo (some ⟨b, 0, none⟩) n f :=
  .inr ⟨b, 0, rfl, hlo, h.lt, fun i hi => by rw [Nat.zero_add]; exact h.cell hi⟩

/-- WHAT A CLONE HANDS BACK: a slice of the same cells in new memory; nothing old has turned. -/
def Cloned (w : World) (n : Nat) (f : Nat → Value) (e : Ending) (w' : World) : Prop :=
  ∃ a c, e = .returned (.slice a n c) ∧ Rn w' w.heap.size a n f ∧ n ≤ c ∧ Below w.heap.size w w'

set_option maxHeartbeats 1000000 in
theorem ci16 (a : Option Addr) (n c : Nat) (l : List Int) (w : World) (B : Nat) (hB : B ≤ w.heap.size) (h : Rd w B a n (ci .i64 l)) (hl : n ≤ 1048576) (hn : a = none → n = 0) :
    Calls Try.prog 16 #[.slice a n c] w (Cloned w n (ci .i64 l)) := by
  have q29 : ∀ (w : World) (a : Option Addr) (n c n' c' : Nat), (binOp .eql 29 (.slice a n c) (.slice none n' c')).run Try.prog w = .ok (.bool a.isNone) w := fun w a n c n' c' => Lib.run_eql_slice_nil w _ _ a n c n' c' Try.underlying29
  cases a with
  | none =>
    have hn0 := hn rfl
    clear hn h
    go_enter Try.func16, Try.ntmps16
    go_wp2
    go_ret
    exact ⟨none, 0, by rw [hn0]; rfl, .inl hn0, Nat.le_of_eq hn0, Below.refl _ _⟩
  | some x =>
    clear hn
    have hmk := run_make_row' (P := Try.prog) 29 3 (.int .i64 0) 8 Try.underlying29 Try.info3 rfl .i64 .i64 n (by omega) (by omega)
    go_enter Try.func16, Try.ntmps16
    go_wp2
    go_loopw [4] (fun i wr => ∃ k : Nat, k ≤ n ∧ i = .int .i64 k ∧ Hid (wr.rowIs w.heap.size 3 n (fun j => if j < k then ci .i64 l j else .int .i64 0)) ∧ Hid (Below w.heap.size w wr)) (fun i _ => n - (intOf i).toNat)
    case atStart => exact ⟨0, Nat.zero_le _, rfl, (World.rowIs_made w (.int .i64 0) n 3).congr (fun i _ => by simp), (Below.refl _ _).alloc (Nat.le_refl _) _⟩
    case round =>
      obtain ⟨k, hk, rfl, hr, hb⟩ := hrel
      by_cases hkn : k < n
      · obtain ⟨b, o, e1, hbB, hc1⟩ := h.at hkn
        simp only [Option.some.injEq] at e1
        subst e1
        have hc2 : wr.cell? ⟨b, o + k, none⟩ = some (.int .i64 (l.getD k 0)) := (hb.out.cell (p := ⟨b, o + k, none⟩) (by show b < _; omega)).trans hc1
        have hd := hr.out.cell hkn
        have hf := hr.out.frozen k
        have hki : (k : Int) < (n : Int) := by omega
        rw [if_neg (by omega)] at hd
        have R2 : Hid ((wr.setCell ⟨w.heap.size, k, none⟩ (.int .i64 (l.getD k 0))).rowIs w.heap.size 3 n (fun j => if j < k + 1 then ci .i64 l j else .int .i64 0)) := by
          refine (hr.out.set k (.int .i64 (l.getD k 0))).congr fun i hi => ?_
          by_cases e : i = k
          · subst e; simp [ci]
          · by_cases e2 : i < k
            · simp [e, e2, show i < k + 1 by omega]
            · simp [e, e2, show ¬ i < k + 1 by omega]
        have B2 : Hid (Below w.heap.size w (wr.setCell ⟨w.heap.size, k, none⟩ (.int .i64 (l.getD k 0)))) := hb.out.setCell (Nat.le_refl _) _
        clear hc1 h
        generalize l.getD k 0 = x at *
        go_wp2
        go_roundw
        case rel => exact ⟨k + 1, by omega, by go_num, R2.out, B2.out⟩
        case measure => simp [intOf]; omega
      · obtain rfl : k = n := by omega
        go_wp2
        go_ret
        exact ⟨_, _, rfl, Rn_of_row (hr.out.congr fun i hi => by rw [if_pos hi]) (Nat.le_refl _), Nat.le_refl _, hb.out⟩
set_option maxHeartbeats 1000000 in
theorem cb11 (a : Option Addr) (n c : Nat) (l : List Int) (w : World) (B : Nat) (hB : B ≤ w.heap.size) (h : Rd w B a n (ci .u8 l)) (hl : n ≤ 16777216) (hn : a = none → n = 0) :
    Calls Try.prog 11 #[.slice a n c] w (Cloned w n (ci .u8 l)) := by
  have q22 : ∀ (w : World) (a : Option Addr) (n c n' c' : Nat), (binOp .eql 22 (.slice a n c) (.slice none n' c')).run Try.prog w = .ok (.bool a.isNone) w := fun w a n c n' c' => Lib.run_eql_slice_nil w _ _ a n c n' c' Try.underlying22
  cases a with
  | none =>
    have hn0 := hn rfl
    clear hn h
    go_enter Try.func11, Try.ntmps11
    go_wp2
    go_ret
    exact ⟨none, 0, by rw [hn0]; rfl, .inl hn0, Nat.le_of_eq hn0, Below.refl _ _⟩
  | some x =>
    clear hn
    have hmk := run_make_row' (P := Try.prog) 22 5 (.int .u8 0) 1 Try.underlying22 Try.info5 rfl .i64 .i64 n (by omega) (by omega)
    go_enter Try.func11, Try.ntmps11
    go_wp2
    go_loopw [4] (fun i wr => ∃ k : Nat, k ≤ n ∧ i = .int .i64 k ∧ Hid (wr.rowIs w.heap.size 5 n (fun j => if j < k then ci .u8 l j else .int .u8 0)) ∧ Hid (Below w.heap.size w wr)) (fun i _ => n - (intOf i).toNat)
    case atStart => exact ⟨0, Nat.zero_le _, rfl, (World.rowIs_made w (.int .u8 0) n 5).congr (fun i _ => by simp), (Below.refl _ _).alloc (Nat.le_refl _) _⟩
    case round =>
      obtain ⟨k, hk, rfl, hr, hb⟩ := hrel
      by_cases hkn : k < n
      · obtain ⟨b, o, e1, hbB, hc1⟩ := h.at hkn
        simp only [Option.some.injEq] at e1
        subst e1
        have hc2 : wr.cell? ⟨b, o + k, none⟩ = some (.int .u8 (l.getD k 0)) := (hb.out.cell (p := ⟨b, o + k, none⟩) (by show b < _; omega)).trans hc1
        have hd := hr.out.cell hkn
        have hf := hr.out.frozen k
        have hki : (k : Int) < (n : Int) := by omega
        rw [if_neg (by omega)] at hd
        have R2 : Hid ((wr.setCell ⟨w.heap.size, k, none⟩ (.int .u8 (l.getD k 0))).rowIs w.heap.size 5 n (fun j => if j < k + 1 then ci .u8 l j else .int .u8 0)) := by
          refine (hr.out.set k (.int .u8 (l.getD k 0))).congr fun i hi => ?_
          by_cases e : i = k
          · subst e; simp [ci]
          · by_cases e2 : i < k
            · simp [e, e2, show i < k + 1 by omega]
            · simp [e, e2, show ¬ i < k + 1 by omega]
        have B2 : Hid (Below w.heap.size w (wr.setCell ⟨w.heap.size, k, none⟩ (.int .u8 (l.getD k 0)))) := hb.out.setCell (Nat.le_refl _) _
        clear hc1 h
        generalize l.getD k 0 = x at *
        go_wp2
        go_roundw
        case rel => exact ⟨k + 1, by omega, by go_num, R2.out, B2.out⟩
        case measure => simp [intOf]; omega
      · obtain rfl : k = n := by omega
        go_wp2
        go_ret
        exact ⟨_, _, rfl, Rn_of_row (hr.out.congr fun i hi => by rw [if_pos hi]) (Nat.le_refl _), Nat.le_refl _, hb.out⟩
/-- what cloneKeysB1 hands back. -/
def KCloned (w : World) (n : Nat) (key : Nat → List Int) (e : Ending) (w' : World) : Prop :=
  ∃ a c A C, e = .returned (.slice a n c) ∧ Keys w' w'.heap.size a n key A C ∧ (∀ i, i < n → (key i).length ≤ C i) ∧ Below w.heap.size w w'

/-- the loop's relation on the world: the outer row at block Bo, the first k inner rows made. -/
structure CkRel (w wr : World) (n k : Nat) (key : Nat → List Int) (A : Nat → Option Addr) (C : Nat → Nat) : Prop where
  row : wr.rowIs w.heap.size 22 n (fun j => if j < k then .slice (A j) (key j).length (C j) else .slice none 0 0)
  inner : ∀ j, j < k → Rn wr (w.heap.size + 1) (A j) (key j).length (ci .u8 (key j))
  caps : ∀ j, j < k → (key j).length ≤ C j
  below : Below w.heap.size w wr

theorem CkRel.start (w : World) (n : Nat) (key : Nat → List Int) : CkRel w (w.alloc (.cells (madeCells #[.slice none 0 0] n) 22)) n 0 key (fun _ => none) (fun _ => 0) :=
  ⟨(World.rowIs_made w (.slice none 0 0) n 22).congr (fun i _ => by simp), fun j hj => by omega, fun j hj => by omega, (Below.refl _ _).alloc (Nat.le_refl _) _⟩

theorem CkRel.step {w wr w1 : World} {n k : Nat} {key : Nat → List Int} {A : Nat → Option Addr} {C : Nat → Nat} (h : CkRel w wr n k key A C) {a : Option Addr} {c : Nat}
    (hr : Rn w1 wr.heap.size a (key k).length (ci .u8 (key k))) (hcap : (key k).length ≤ c) (hb : Below wr.heap.size wr w1) :
    ∃ A' C', CkRel w (w1.setCell ⟨w.heap.size, k, none⟩ (.slice a (key k).length c)) n (k + 1) key A' C' := by
  have hlt := h.row.lt
  have row1 : w1.rowIs w.heap.size 22 n _ := h.row.of_block (hb.block _ hlt)
  refine ⟨fun j => if j = k then a else A j, fun j => if j = k then c else C j, ?_, ?_, ?_, ?_⟩
  · refine (row1.set k (.slice a (key k).length c)).congr fun i hi => ?_
    by_cases e : i = k
    · subst e; simp
    · by_cases e2 : i < k
      · simp [e, e2, show i < k + 1 by omega]
      · simp [e, e2, show ¬ i < k + 1 by omega]
  · intro j hj
    by_cases e : j = k
    · subst e
      simp only [if_true]
      exact (hr.mono (by omega)).setBelow (by show w.heap.size < _; omega) _
    · simp only [if_neg e]
      exact ((h.inner j (by omega)).keep hb).setBelow (by show w.heap.size < _; omega) _
  · intro j hj
    by_cases e : j = k
    · subst e
      simp only [if_true]
      exact hcap
    · simp only [if_neg e]
      exact h.caps j (by omega)
  · exact (h.below.trans (hb.mono (by omega))).setCell (Nat.le_refl _) _

theorem rd_of_row {w : World} {b : Nat} {t : TypeId} {n : Nat} {f : Nat → Value} (h : w.rowIs b t n f) : Rd w w.heap.size (some ⟨b, 0, none⟩) n f :=
  .inr ⟨b, 0, rfl, h.lt, fun i hi => by rw [Nat.zero_add]; exact h.cell hi⟩

theorem CkRel.fin {w wr : World} {n : Nat} {key : Nat → List Int} {A : Nat → Option Addr} {C : Nat → Nat} (h : CkRel w wr n n key A C) : Keys wr wr.heap.size (some ⟨w.heap.size, 0, none⟩) n key A C :=
  ⟨rd_of_row (h.row.congr fun i hi => by rw [if_pos hi]), fun i hi => (h.inner i hi).rd⟩

set_option maxHeartbeats 1000000 in
theorem ck17 (a : Option Addr) (n c : Nat) (key : Nat → List Int) (A : Nat → Option Addr) (C : Nat → Nat) (w : World) (B : Nat) (hB : B ≤ w.heap.size) (h : Keys w B a n key A C) (hl : n ≤ 1048576)
    (bk : Hid (∀ i, i < n → (key i).length ≤ 1048576)) :
    Calls Try.prog 17 #[.slice a n c] w (KCloned w n key) := by
  have q30 : ∀ (w : World) (a : Option Addr) (n c n' c' : Nat), (binOp .eql 30 (.slice a n c) (.slice none n' c')).run Try.prog w = .ok (.bool a.isNone) w := fun w a n c n' c' => Lib.run_eql_slice_nil w _ _ a n c n' c' Try.underlying30
  cases a with
  | none =>
    obtain rfl := h.rd.nil rfl
    go_enter Try.func17, Try.ntmps17
    go_wp2
    go_ret
    exact ⟨none, 0, A, C, rfl, ⟨.inl rfl, fun i hi => by omega⟩, fun i hi => by omega, Below.refl _ _⟩
  | some x =>
    have hmk := run_make_row' (P := Try.prog) 30 22 (.slice none 0 0) 24 Try.underlying30 Try.info22 rfl .i64 .i64 n (by omega) (by omega)
    go_enter Try.func17, Try.ntmps17
    go_wp2
    go_loopw [4] (fun i wr => ∃ (k : Nat) (A' : Nat → Option Addr) (C' : Nat → Nat), k ≤ n ∧ i = .int .i64 k ∧ CkRel w wr n k key A' C') (fun i _ => n - (intOf i).toNat)
    case atStart => exact ⟨0, _, _, Nat.zero_le _, rfl, CkRel.start w n key⟩
    case round =>
      obtain ⟨k, A', C', hk, rfl, hr⟩ := hrel
      by_cases hkn : k < n
      · obtain ⟨b, o, e1, hbB, hc1⟩ := h.rd.at hkn
        simp only [Option.some.injEq] at e1
        subst e1
        have hc2 : wr.cell? ⟨b, o + k, none⟩ = some (.slice (A k) (key k).length (C k)) := (hr.below.cell (p := ⟨b, o + k, none⟩) (by show b < _; omega)).trans hc1
        have hki : (k : Int) < (n : Int) := by omega
        have hrow := (h.row k hkn).keep (hr.below.mono hB)
        have hlk := bk.out k hkn
        have hsz : B ≤ wr.heap.size := Nat.le_trans hB hr.below.size
        clear hc1
        go_wp2_with fail
        refine (cb11 (A k) _ (C k) (key k) _ B hsz hrow (by omega) hrow.nil).mono ?_
        rintro e w1 ⟨a', c', rfl, hn1, hcp, hb1⟩
        have hd : w1.cell? ⟨w.heap.size, k, none⟩ = some (.slice none 0 0) := by
          rw [hb1.cell (p := ⟨w.heap.size, k, none⟩) hr.row.lt, hr.row.cell hkn, if_neg (by omega)]
        have hf : w1.frozen? ⟨w.heap.size, k, none⟩ = false := by
          rw [hb1.frozen (p := ⟨w.heap.size, k, none⟩) hr.row.lt, hr.row.frozen]
        obtain ⟨A2, C2, R2⟩ := hr.step hn1 hcp hb1
        clear hn1 hb1 hr hrow hcp
        go_wp2
        go_roundw
        case rel => exact ⟨k + 1, A2, C2, by omega, by go_num, R2⟩
        case measure => simp [intOf]; omega
      · obtain rfl : k = n := by omega
        go_wp2
        go_ret
        exact ⟨_, _, _, _, rfl, hr.fin, hr.caps, hr.below⟩
end Go.Proofs.Qxb6000464a

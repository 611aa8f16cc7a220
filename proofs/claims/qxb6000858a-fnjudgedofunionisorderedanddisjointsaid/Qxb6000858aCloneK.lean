import Derived.Test.Qxb6000858aClone
namespace Go.Proofs.Qxb6000858a
open Go.RowKit

theorem Rd.nil {w : World} {B : Nat} {a : Option Addr} {n : Nat} {f : Nat → Value} (h : Rd w B a n f) : a = none → n = 0 := by
  intro e
  rcases h with h | ⟨b, off, e2, _, _⟩
  · exact h
  · rw [e] at e2; cases e2

/-- what cloneKeysB1 hands back. -/
def KCloned (w : World) (n : Nat) (key : Nat → List Int) (e : Ending) (w' : World) : Prop :=
  ∃ a c A C, e = .returned (.slice a n c) ∧ Keys w' w'.heap.size a n key A C ∧ Below w.heap.size w w'

/-- the loop's relation on the world: the outer row at block Bo, the first k inner rows made. -/
structure CkRel (w wr : World) (n k : Nat) (key : Nat → List Int) (A : Nat → Option Addr) (C : Nat → Nat) : Prop where
  row : wr.rowIs w.heap.size 38 n (fun j => if j < k then .slice (A j) (key j).length (C j) else .slice none 0 0)
  inner : ∀ j, j < k → Rn wr (w.heap.size + 1) (A j) (key j).length (ci .u8 (key j))
  below : Below w.heap.size w wr

theorem CkRel.start (w : World) (n : Nat) (key : Nat → List Int) : CkRel w (w.alloc (.cells (madeCells #[.slice none 0 0] n) 38)) n 0 key (fun _ => none) (fun _ => 0) :=
  ⟨(World.rowIs_made w (.slice none 0 0) n 38).congr (fun i _ => by simp), fun j hj => by omega, (Below.refl _ _).alloc (Nat.le_refl _) _⟩

theorem CkRel.step {w wr w1 : World} {n k : Nat} {key : Nat → List Int} {A : Nat → Option Addr} {C : Nat → Nat} (h : CkRel w wr n k key A C) {a : Option Addr} {c : Nat}
    (hr : Rn w1 wr.heap.size a (key k).length (ci .u8 (key k))) (hb : Below wr.heap.size wr w1) :
    ∃ A' C', CkRel w (w1.setCell ⟨w.heap.size, k, none⟩ (.slice a (key k).length c)) n (k + 1) key A' C' := by
  have hlt := h.row.lt
  have row1 : w1.rowIs w.heap.size 38 n _ := h.row.of_block (hb.block _ hlt)
  refine ⟨fun j => if j = k then a else A j, fun j => if j = k then c else C j, ?_, ?_, ?_⟩
  · refine (row1.set k (.slice a (key k).length c)).congr fun i hi => ?_
    by_cases e : i = k
    · subst e; simp
    · by_cases e2 : i < k
      · simp [e, e2, show i < k + 1 by omega]
      · simp [e, e2, show ¬ i < k + 1 by omega]
  · intro j hj
    by_cases e : j = k
    · subst e
      simp only [if_true]
      exact (hr.mono (by omega)).setBelow (by show w.heap.size < _; omega) _
    · simp only [if_neg e]
      exact ((h.inner j (by omega)).keep hb).setBelow (by show w.heap.size < _; omega) _
  · exact (h.below.trans (hb.mono (by omega))).setCell (Nat.le_refl _) _

theorem rd_of_row {w : World} {b : Nat} {t : TypeId} {n : Nat} {f : Nat → Value} (h : w.rowIs b t n f) : Rd w w.heap.size (some ⟨b, 0, none⟩) n f :=
  .inr ⟨b, 0, rfl, h.lt, fun i hi => by rw [Nat.zero_add]; exact h.cell hi⟩

theorem CkRel.fin {w wr : World} {n : Nat} {key : Nat → List Int} {A : Nat → Option Addr} {C : Nat → Nat} (h : CkRel w wr n n key A C) : Keys wr wr.heap.size (some ⟨w.heap.size, 0, none⟩) n key A C :=
  ⟨rd_of_row (h.row.congr fun i hi => by rw [if_pos hi]), fun i hi => (h.inner i hi).rd⟩

set_option maxHeartbeats 1000000 in
theorem ck20 (a : Option Addr) (n c : Nat) (key : Nat → List Int) (A : Nat → Option Addr) (C : Nat → Nat) (w : World) (B : Nat) (hB : B ≤ w.heap.size) (h : Keys w B a n key A C) (hl : n ≤ 1048576)
    (bk : Hid (∀ i, i < n → (key i).length ≤ 1048576)) :
    Calls Try.prog 20 #[.slice a n c] w (KCloned w n key) := by
  have q30 : ∀ (w : World) (a : Option Addr) (n c n' c' : Nat), (binOp .eql 30 (.slice a n c) (.slice none n' c')).run Try.prog w = .ok (.bool a.isNone) w := fun w a n c n' c' => Lib.run_eql_slice_nil w _ _ a n c n' c' Try.underlying30
  cases a with
  | none =>
    obtain rfl := h.rd.nil rfl
    go_enter Try.func20, Try.ntmps20
    go_wp2
    go_ret
    exact ⟨none, 0, A, C, rfl, ⟨.inl rfl, fun i hi => by omega⟩, Below.refl _ _⟩
  | some x =>
    have hmk := run_make_row' (P := Try.prog) 30 38 (.slice none 0 0) 24 Try.underlying30 Try.info38 rfl .i64 .i64 n (by omega) (by omega)
    go_enter Try.func20, Try.ntmps20
    go_wp2
    go_loopw [4] (fun i wr => ∃ (k : Nat) (A' : Nat → Option Addr) (C' : Nat → Nat), k ≤ n ∧ i = .int .i64 k ∧ CkRel w wr n k key A' C') (fun i _ => n - (intOf i).toNat)
    case atStart => exact ⟨0, _, _, Nat.zero_le _, rfl, CkRel.start w n key⟩
    case round =>
      obtain ⟨k, A', C', hk, rfl, hr⟩ := hrel
      by_cases hkn : k < n
      · obtain ⟨b, o, e1, hbB, hc1⟩ := h.rd.at hkn
        simp only [Option.some.injEq] at e1
        subst e1
        have hc2 : wr.cell? ⟨b, o + k, none⟩ = some (.slice (A k) (key k).length (C k)) := (hr.below.cell (p := ⟨b, o + k, none⟩) (by show b < _; omega)).trans hc1
        have hki : (k : Int) < (n : Int) := by omega
        have hrow := (h.row k hkn).keep (hr.below.mono hB)
        have hlk := bk.out k hkn
        have hsz : B ≤ wr.heap.size := Nat.le_trans hB hr.below.size
        clear hc1
        go_wp2_with fail
        refine (cb26 (A k) _ (C k) (key k) _ B hsz hrow hlk hrow.nil).mono ?_
        rintro e w1 ⟨a', c', rfl, hn1, _, hb1⟩
        have hd : w1.cell? ⟨w.heap.size, k, none⟩ = some (.slice none 0 0) := by
          rw [hb1.cell (p := ⟨w.heap.size, k, none⟩) hr.row.lt, hr.row.cell hkn, if_neg (by omega)]
        have hf : w1.frozen? ⟨w.heap.size, k, none⟩ = false := by
          rw [hb1.frozen (p := ⟨w.heap.size, k, none⟩) hr.row.lt, hr.row.frozen]
        obtain ⟨A2, C2, R2⟩ := hr.step hn1 hb1 (c := c')
        clear hn1 hb1 hr hrow
        go_wp2
        go_roundw
        case rel => exact ⟨k + 1, A2, C2, by omega, by go_num, R2⟩
        case measure => simp [intOf]; omega
      · obtain rfl : k = n := by omega
        go_wp2
        go_ret
        exact ⟨_, _, _, _, rfl, hr.fin, hr.below⟩
end Go.Proofs.Qxb6000858a

import Derived.Test.Qxb6000464aHold
namespace Go.Proofs.Qxb6000464a
open Go.RowKit
set_option linter.unusedVariables false

set_option maxHeartbeats 400000 in
theorem nw18 (w : World) : Calls Try.prog 18 #[] w fun e w' => e = .returned (.pointer (some ⟨w.heap.size, 0, none⟩)) ∧ Asm w' w.heap.size (.slice none 0 0) ∧ Below w.heap.size w w' ∧ w'.heap.size = w.heap.size + 1 := by
  go_enter Try.func18, Try.ntmps18
  go_wp2
  go_ret
  exact ⟨rfl, ⟨_, heap_alloc_new _ _, rfl⟩, below1 _ _, by simp⟩

set_option maxHeartbeats 400000 in
theorem ll22 (bt : Nat) (a : Option Addr) (n c : Nat) (w : World) (hA : Asm w bt (.slice a n c)) : Calls Try.prog 22 #[.pointer (some ⟨bt, 0, none⟩)] w fun e w' => e = .returned (.int .i64 (n : Int)) ∧ w = w' := by
  obtain ⟨hA1, hA2, hA3⟩ := hA.cell
  clear hA
  go_enter Try.func22, Try.ntmps22
  go_wp2
  go_ret
  exact ⟨rfl, rfl⟩

set_option maxHeartbeats 1000000 in
theorem la24 (bt : Nat) (a : Option Addr) (c : Nat) (L : List Piece) (k : Nat) (p : Piece) (w : World) (hA : Asm w bt (.slice a L.length c)) (hL : Hd w 0 a c L) (hk : L[k]? = some p) (hl : L.length ≤ 256) :
    Calls Try.prog 24 #[.pointer (some ⟨bt, 0, none⟩), .int .i64 (k : Int)] w fun e w' => e = .returned (.tuple #[.int .i64 (p.off : Int), .slice p.a p.oct.length p.c]) ∧ ∃ q, w' = w.drewN q := by
  obtain ⟨hA1, hA2, hA3⟩ := hA.cell
  obtain ⟨g, rfl, _, hg, t0, t1⟩ := hL.at hk
  have hkl : k < L.length := (List.getElem?_eq_some_iff.1 hk).1
  have hki : (k : Int) < (L.length : Int) := by omega
  clear hA hL hk hA2
  generalize p.oct.length = n1 at *
  go_enter Try.func24, Try.ntmps24
  go_wp2
  go_quiet (fail)
  go_wp2
  go_returns
  exact ⟨rfl, _, rfl⟩

theorem Asm.drewN {w : World} {bt : Nat} {v : Value} (h : Asm w bt v) (q : Nat) : Asm (w.drewN q) bt v := h
theorem Hd.drewN {w : World} {base c : Nat} {a : Option Addr} {L : List Piece} (h : Hd w base a c L) (q : Nat) : Hd (w.drewN q) base a c L := ⟨h.own, h.oct⟩

/-- the offsets and octets of the pieces. -/
def offL (L : List Piece) : List Int := L.map fun p => (p.off : Int)
def keyL (L : List Piece) (i : Nat) : List Int := ((L[i]?).map Piece.oct).getD []

theorem offL_at (L : List Piece) (k : Nat) (p : Piece) (h : L[k]? = some p) : (offL L).getD k 0 = (p.off : Int) := by
  simp [offL, List.getD, h]
theorem keyL_at (L : List Piece) (k : Nat) (p : Piece) (h : L[k]? = some p) : keyL L k = p.oct := by
  simp [keyL, h]

/-- what zzSnapOffs hands back. -/
def SnO (w : World) (L : List Piece) (e : Ending) (w' : World) : Prop :=
  ∃ a c, e = .returned (.slice a L.length c) ∧ Rn w' w.heap.size a L.length (ci .i64 (offL L)) ∧ Below w.heap.size w w'

/-- the loop of zzSnapOffs. -/
structure SoRel (w wr : World) (L : List Piece) (k : Nat) : Prop where
  row : wr.rowIs w.heap.size 3 L.length (fun j => if j < k then ci .i64 (offL L) j else .int .i64 0)
  below : Below w.heap.size w wr

theorem SoRel.step {w wr : World} {L : List Piece} {k : Nat} {p : Piece} (h : SoRel w wr L k) (hk : L[k]? = some p) (q : Nat) : SoRel w ((wr.drewN q).setCell ⟨w.heap.size, k, none⟩ (.int .i64 (p.off : Int))) L (k + 1) := by
  have row1 : (wr.drewN q).rowIs w.heap.size 3 L.length _ := h.row.of_block rfl
  refine ⟨(row1.set k (.int .i64 (p.off : Int))).congr fun i hi => ?_, (below_drewN h.below q).setCell (Nat.le_refl _) _⟩
  by_cases e : i = k
  · subst e
    simp only [if_true, ci, show i < i + 1 by omega]
    rw [offL_at L i p hk]
  · by_cases e2 : i < k
    · simp [e, e2, show i < k + 1 by omega]
    · simp [e, e2, show ¬ i < k + 1 by omega]

set_option maxHeartbeats 1000000 in
theorem so19 (bt : Nat) (a : Option Addr) (c : Nat) (L : List Piece) (w : World) (hA : Asm w bt (.slice a L.length c)) (hL : Hd w 0 a c L) (hl : L.length ≤ 256) :
    Calls Try.prog 19 #[.pointer (some ⟨bt, 0, none⟩)] w (SnO w L) := by
  have hmk := run_make_row' (P := Try.prog) 29 3 (.int .i64 0) 8 Try.underlying29 Try.info3 rfl .i64 .i64 L.length (by omega) (by omega)
  go_enter Try.func19, Try.ntmps19
  go_wp2_with fail
  refine (ll22 bt a L.length c w hA).mono ?_
  rintro e w' ⟨rfl, rfl⟩
  go_wp2
  go_loopw [5] (fun i wr => ∃ k : Nat, k ≤ L.length ∧ i = .int .i64 k ∧ SoRel w wr L k) (fun i _ => L.length - (intOf i).toNat)
  case atStart => exact ⟨0, Nat.zero_le _, rfl, (World.rowIs_made w (.int .i64 0) L.length 3).congr (fun i _ => by simp), (Below.refl _ _).alloc (Nat.le_refl _) _⟩
  case round =>
    obtain ⟨k, hk, rfl, hr⟩ := hrel
    by_cases hkn : k < L.length
    · obtain ⟨p, hp⟩ : ∃ p, L[k]? = some p := ⟨L[k], List.getElem?_eq_getElem hkn⟩
      have hki : (k : Int) < (L.length : Int) := by omega
      have hAr := hA.keep (hr.below.block bt hA.cell.2.2)
      have hLr := hL.keep hr.below
      go_wp2_with fail
      refine (la24 bt a c L k p wr hAr hLr hp hl).mono ?_
      rintro e w' ⟨rfl, q, rfl⟩
      have hd : (wr.drewN q).cell? ⟨w.heap.size, k, none⟩ = some (.int .i64 0) := by
        have := hr.row.cell hkn
        rw [if_neg (by omega)] at this
        exact this
      have hf : (wr.drewN q).frozen? ⟨w.heap.size, k, none⟩ = false := hr.row.frozen k
      have R2 := hr.step hp q
      clear hr hAr hLr
      go_wp2
      go_roundw
      case rel => exact ⟨k + 1, by omega, by go_num, R2⟩
      case measure => simp [intOf]; omega
    · obtain rfl : k = L.length := by omega
      go_wp2
      go_ret
      exact ⟨_, _, rfl, Rn_of_row (hr.row.congr fun i hi => by rw [if_pos hi]) (Nat.le_refl _), hr.below⟩
end Go.Proofs.Qxb6000464a

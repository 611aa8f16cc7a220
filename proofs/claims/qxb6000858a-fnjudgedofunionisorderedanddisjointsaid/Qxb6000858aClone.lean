import Derived.Test.Qxb6000858aInc
namespace Go.Proofs.Qxb6000858a
open Go.RowKit

theorem Try.info3 : (Try.prog.info? 3).map (fun i => (i.zero, i.size, i.bytes)) = some (some (.int .i64 0), 1, 8) := by kernel_rfl
theorem Try.info5 : (Try.prog.info? 5).map (fun i => (i.zero, i.size, i.bytes)) = some (some (.int .u8 0), 1, 1) := by kernel_rfl
theorem Try.info38 : (Try.prog.info? 38).map (fun i => (i.zero, i.size, i.bytes)) = some (some (.slice none 0 0), 1, 24) := by kernel_rfl

/-- A SLICE IN NEW MEMORY: n cells in a block from lo on. -/
def Rn (w : World) (lo : Nat) (a : Option Addr) (n : Nat) (f : Nat → Value) : Prop :=
  n = 0 ∨ ∃ b off, a = some ⟨b, off, none⟩ ∧ lo ≤ b ∧ b < w.heap.size ∧ ∀ i, i < n → w.cell? ⟨b, off + i, none⟩ = some (f i)

theorem Rn.rd {w : World} {lo : Nat} {a : Option Addr} {n : Nat} {f : Nat → Value} (h : Rn w lo a n f) : Rd w w.heap.size a n f := by
  rcases h with h | ⟨b, off, e, _, hB, hc⟩
  · exact .inl h
  · exact .inr ⟨b, off, e, hB, hc⟩

theorem Rn.mono {w : World} {lo lo' : Nat} {a : Option Addr} {n : Nat} {f : Nat → Value} (h : Rn w lo a n f) (hl : lo' ≤ lo) : Rn w lo' a n f := by
  rcases h with h | ⟨b, off, e, h1, hB, hc⟩
  · exact .inl h
  · exact .inr ⟨b, off, e, by omega, hB, hc⟩

theorem Rn.keep {w w' : World} {lo : Nat} {a : Option Addr} {n : Nat} {f : Nat → Value} (h : Rn w lo a n f) (hb : Below w.heap.size w w') : Rn w' lo a n f := by
  rcases h with h | ⟨b, off, e, h1, hB, hc⟩
  · exact .inl h
  · exact .inr ⟨b, off, e, h1, Nat.lt_of_lt_of_le hB hb.size, fun i hi => (hb.cell (p := ⟨b, off + i, none⟩) hB).trans (hc i hi)⟩

theorem Rn.setBelow {w : World} {lo : Nat} {a : Option Addr} {n : Nat} {f : Nat → Value} (h : Rn w lo a n f) {p : Addr} (hp : p.block < lo) (v : Value) : Rn (w.setCell p v) lo a n f := by
  rcases h with h | ⟨b, off, e, h1, hB, hc⟩
  · exact .inl h
  · refine .inr ⟨b, off, e, h1, by simpa using hB, fun i hi => ?_⟩
    rw [← hc i hi]
    exact World.cell?_of_block (w := w) (Below.heap_setCell w p v b (by omega))

theorem Rn_of_row {w : World} {b lo : Nat} {t : TypeId} {n : Nat} {f : Nat → Value} (h : w.rowIs b t n f) (hlo : lo ≤ b) : Rn w lo (some ⟨b, 0, none⟩) n f :=
  .inr ⟨b, 0, rfl, hlo, h.lt, fun i hi => by rw [Nat.zero_add]; exact h.cell hi⟩

/-- WHAT A CLONE HANDS BACK: a slice of the same cells in new memory; nothing old has turned. -/
def Cloned (w : World) (n : Nat) (f : Nat → Value) (e : Ending) (w' : World) : Prop :=
  ∃ a c, e = .returned (.slice a n c) ∧ Rn w' w.heap.size a n f ∧ (a = none → n = 0) ∧ Below w.heap.size w w'

set_option maxHeartbeats 1000000 in
theorem ci10 (a : Option Addr) (n c : Nat) (l : List Int) (w : World) (B : Nat) (hB : B ≤ w.heap.size) (h : Rd w B a n (ci .i64 l)) (hl : n ≤ 1048576) (hn : a = none → n = 0) :
    Calls Try.prog 10 #[.slice a n c] w (Cloned w n (ci .i64 l)) := by
  have q22 : ∀ (w : World) (a : Option Addr) (n c n' c' : Nat), (binOp .eql 22 (.slice a n c) (.slice none n' c')).run Try.prog w = .ok (.bool a.isNone) w := fun w a n c n' c' => Lib.run_eql_slice_nil w _ _ a n c n' c' Try.underlying22
  cases a with
  | none =>
    have hn0 := hn rfl
    clear hn h
    go_enter Try.func10, Try.ntmps10
    go_wp2
    go_ret
    exact ⟨none, 0, by rw [hn0]; rfl, .inl hn0, fun _ => hn0, Below.refl _ _⟩
  | some x =>
    clear hn
    have hmk := run_make_row' (P := Try.prog) 22 3 (.int .i64 0) 8 Try.underlying22 Try.info3 rfl .i64 .i64 n (by omega) (by omega)
    go_enter Try.func10, Try.ntmps10
    go_wp2
    go_loopw [4] (fun i wr => ∃ k : Nat, k ≤ n ∧ i = .int .i64 k ∧ Hid (wr.rowIs w.heap.size 3 n (fun j => if j < k then ci .i64 l j else .int .i64 0)) ∧ Hid (Below w.heap.size w wr)) (fun i _ => n - (intOf i).toNat)
    case atStart => exact ⟨0, Nat.zero_le _, rfl, (World.rowIs_made w (.int .i64 0) n 3).congr (fun i _ => by simp), (Below.refl _ _).alloc (Nat.le_refl _) _⟩
    case round =>
      obtain ⟨k, hk, rfl, hr, hb⟩ := hrel
      by_cases hkn : k < n
      · obtain ⟨b, o, e1, hbB, hc1⟩ := h.at hkn
        simp only [Option.some.injEq] at e1
        subst e1
        have hc2 : wr.cell? ⟨b, o + k, none⟩ = some (.int .i64 (l.getD k 0)) := (hb.out.cell (p := ⟨b, o + k, none⟩) (by show b < _; omega)).trans hc1
        have hd := hr.out.cell hkn
        have hf := hr.out.frozen k
        have hki : (k : Int) < (n : Int) := by omega
        rw [if_neg (by omega)] at hd
        have R2 : Hid ((wr.setCell ⟨w.heap.size, k, none⟩ (.int .i64 (l.getD k 0))).rowIs w.heap.size 3 n (fun j => if j < k + 1 then ci .i64 l j else .int .i64 0)) := by
          refine (hr.out.set k (.int .i64 (l.getD k 0))).congr fun i hi => ?_
          by_cases e : i = k
          · subst e; simp [ci]
          · by_cases e2 : i < k
            · simp [e, e2, show i < k + 1 by omega]
            · simp [e, e2, show ¬ i < k + 1 by omega]
        have B2 : Hid (Below w.heap.size w (wr.setCell ⟨w.heap.size, k, none⟩ (.int .i64 (l.getD k 0)))) := hb.out.setCell (Nat.le_refl _) _
        clear hc1 h
        generalize l.getD k 0 = x at *
        go_wp2
        go_roundw
        case rel => exact ⟨k + 1, by omega, by go_num, R2.out, B2.out⟩
        case measure => simp [intOf]; omega
      · obtain rfl : k = n := by omega
        go_wp2
        go_ret
        exact ⟨_, _, rfl, Rn_of_row (hr.out.congr fun i hi => by rw [if_pos hi]) (Nat.le_refl _), (fun h => by cases h), hb.out⟩
set_option maxHeartbeats 1000000 in
theorem cb26 (a : Option Addr) (n c : Nat) (l : List Int) (w : World) (B : Nat) (hB : B ≤ w.heap.size) (h : Rd w B a n (ci .u8 l)) (hl : n ≤ 1048576) (hn : a = none → n = 0) :
    Calls Try.prog 26 #[.slice a n c] w (Cloned w n (ci .u8 l)) := by
  have q38 : ∀ (w : World) (a : Option Addr) (n c n' c' : Nat), (binOp .eql 38 (.slice a n c) (.slice none n' c')).run Try.prog w = .ok (.bool a.isNone) w := fun w a n c n' c' => Lib.run_eql_slice_nil w _ _ a n c n' c' Try.underlying38
  cases a with
  | none =>
    have hn0 := hn rfl
    clear hn h
    go_enter Try.func26, Try.ntmps26
    go_wp2
    go_ret
    exact ⟨none, 0, by rw [hn0]; rfl, .inl hn0, fun _ => hn0, Below.refl _ _⟩
  | some x =>
    clear hn
    have hmk := run_make_row' (P := Try.prog) 38 5 (.int .u8 0) 1 Try.underlying38 Try.info5 rfl .i64 .i64 n (by omega) (by omega)
    go_enter Try.func26, Try.ntmps26
    go_wp2
    go_loopw [4] (fun i wr => ∃ k : Nat, k ≤ n ∧ i = .int .i64 k ∧ Hid (wr.rowIs w.heap.size 5 n (fun j => if j < k then ci .u8 l j else .int .u8 0)) ∧ Hid (Below w.heap.size w wr)) (fun i _ => n - (intOf i).toNat)
    case atStart => exact ⟨0, Nat.zero_le _, rfl, (World.rowIs_made w (.int .u8 0) n 5).congr (fun i _ => by simp), (Below.refl _ _).alloc (Nat.le_refl _) _⟩
    case round =>
      obtain ⟨k, hk, rfl, hr, hb⟩ := hrel
      by_cases hkn : k < n
      · obtain ⟨b, o, e1, hbB, hc1⟩ := h.at hkn
        simp only [Option.some.injEq] at e1
        subst e1
        have hc2 : wr.cell? ⟨b, o + k, none⟩ = some (.int .u8 (l.getD k 0)) := (hb.out.cell (p := ⟨b, o + k, none⟩) (by show b < _; omega)).trans hc1
        have hd := hr.out.cell hkn
        have hf := hr.out.frozen k
        have hki : (k : Int) < (n : Int) := by omega
        rw [if_neg (by omega)] at hd
        have R2 : Hid ((wr.setCell ⟨w.heap.size, k, none⟩ (.int .u8 (l.getD k 0))).rowIs w.heap.size 5 n (fun j => if j < k + 1 then ci .u8 l j else .int .u8 0)) := by
          refine (hr.out.set k (.int .u8 (l.getD k 0))).congr fun i hi => ?_
          by_cases e : i = k
          · subst e; simp [ci]
          · by_cases e2 : i < k
            · simp [e, e2, show i < k + 1 by omega]
            · simp [e, e2, show ¬ i < k + 1 by omega]
        have B2 : Hid (Below w.heap.size w (wr.setCell ⟨w.heap.size, k, none⟩ (.int .u8 (l.getD k 0)))) := hb.out.setCell (Nat.le_refl _) _
        clear hc1 h
        generalize l.getD k 0 = x at *
        go_wp2
        go_roundw
        case rel => exact ⟨k + 1, by omega, by go_num, R2.out, B2.out⟩
        case measure => simp [intOf]; omega
      · obtain rfl : k = n := by omega
        go_wp2
        go_ret
        exact ⟨_, _, rfl, Rn_of_row (hr.out.congr fun i hi => by rw [if_pos hi]) (Nat.le_refl _), (fun h => by cases h), hb.out⟩
end Go.Proofs.Qxb6000858a

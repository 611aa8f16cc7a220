import Derived.Test.Qxb6001032aOrder
namespace Go.Proofs.Qxb6001032a
open Go.RowKit
set_option linter.unusedVariables false

theorem Try.info34 : (Try.prog.info? 34).map (fun i => (i.zero, i.size, i.bytes)) = some (some (.int .u32 0), 1, 4) := by kernel_rfl

/-- what the byte bound answers. -/
def ZzPost (m k : Nat) (S : Nat → ByteArray) (e : Ending) : Prop := ∃ b, e = .returned (.bool b) ∧ (b = true → m ≤ 1048576 ∧ k ≤ 1048576 ∧ ∀ i, i < m → (S i).size ≤ 1048576)
theorem ZzPost.no (m k : Nat) (S : Nat → ByteArray) : ZzPost m k S (.returned (.bool false)) := ⟨false, rfl, fun h => by cases h⟩

set_option maxHeartbeats 1000000 in
theorem zz21 (a1 a2 : Option Addr) (m c1 k c2 : Nat) (pk : Int) (S : Nat → ByteArray) (w : World) (B : Nat) (h1 : Rd w B a1 m (fun i => .string (S i))) (b1 : m ≤ 9223372036854775807) (b2 : k ≤ 9223372036854775807) (bs : Hid (∀ i, i < m → (S i).size ≤ 9223372036854775807)) :
    Calls Try.prog 21 #[.slice a1 m c1, .slice a2 k c2, .int .u32 pk] w fun e w' => ZzPost m k S e ∧ w' = w := by
  go_enter Try.func21, Try.ntmps21
  go_wp2
  any_goals (go_ret; exact ⟨ZzPost.no _ _ _, rfl⟩)
  go_loop [7, 8] (fun z i => ∃ (j : Nat) (y : Int), j ≤ m ∧ i = .int .i64 j ∧ z = .int .i64 y ∧ 0 ≤ y ∧ y ≤ 1048576 ∧ Hid (∀ i, i < j → (S i).size ≤ 1048576)) (fun _ i => m - (intOf i).toNat)
  case atStart => exact ⟨0, _, Nat.zero_le _, rfl, rfl, by omega, by omega, fun i hi => by omega⟩
  case round =>
    obtain ⟨j, y, hj, rfl, rfl, hy0, hy1, hs⟩ := hrel
    by_cases hjm : j < m
    · obtain ⟨b, o, rfl, _, hc⟩ := h1.at hjm
      have hl := bs.out j hjm
      have hs2 : Hid ((S j).size ≤ 1048576 → ∀ i, i < j + 1 → (S i).size ≤ 1048576) := fun h i hi => by
        by_cases e : i = j
        · subst e; exact h
        · exact hs.out i (by omega)
      have hji : (j : Int) < (m : Int) := by omega
      generalize S j = t at *
      go_wp2
      any_goals (go_ret; exact ⟨ZzPost.no _ _ _, rfl⟩)
      go_round
      case rel => exact ⟨j + 1, _, by omega, by go_num, rfl, by omega, by omega, hs2.out (by omega)⟩
      case measure => simp [intOf]; omega
    · go_wp2
      any_goals (go_ret; exact ⟨ZzPost.no _ _ _, rfl⟩)
      go_ret
      exact ⟨⟨true, rfl, fun _ => ⟨by omega, by omega, fun i hi => hs.out i (by omega)⟩⟩, rfl⟩

/-- some bool. -/
def SomeBool (e : Ending) : Prop := ∃ b, e = .returned (.bool b)

set_option maxHeartbeats 1000000 in
theorem bo9 (a1 a2 : Option Addr) (m c1 k c2 : Nat) (S : Nat → ByteArray) (w : World) (B : Nat) (h1 : Rd w B a1 m (fun i => .string (S i))) (b1 : m ≤ 4096) (b2 : k ≤ 4096) (bs : Hid (∀ i, i < m → (S i).size ≤ 1048576)) :
    Calls Try.prog 9 #[.slice a1 m c1, .slice a2 k c2, .int .i64 0] w fun e w' => SomeBool e ∧ w' = w := by
  go_enter Try.func9, Try.ntmps9
  go_wp2
  go_loop [7, 8] (fun z i => ∃ (j : Nat) (y : Int), j ≤ m ∧ i = .int .i64 j ∧ z = .int .i64 y ∧ 0 ≤ y ∧ y ≤ 1048576) (fun _ i => m - (intOf i).toNat)
  case atStart => exact ⟨0, _, Nat.zero_le _, rfl, rfl, by omega, by omega⟩
  case round =>
    obtain ⟨j, y, hj, rfl, rfl, hy0, hy1⟩ := hrel
    by_cases hjm : j < m
    · obtain ⟨b, o, rfl, _, hc⟩ := h1.at hjm
      have hl := bs.out j hjm
      have hji : (j : Int) < (m : Int) := by omega
      generalize S j = t at *
      go_wp2
      any_goals (go_ret; exact ⟨⟨_, rfl⟩, rfl⟩)
      go_round
      case rel => exact ⟨j + 1, _, by omega, by go_num, rfl, by omega, by omega⟩
      case measure => simp [intOf]; omega
    · go_wp2
      go_ret
      exact ⟨⟨_, rfl⟩, rfl⟩

/-- WHAT A COPY HANDS BACK. -/
def Cloned (w : World) (n : Nat) (f : Nat → Value) (e : Ending) (w' : World) : Prop :=
  ∃ a c, e = .returned (.slice a n c) ∧ Rd w' w'.heap.size a n f ∧ Below w.heap.size w w'

theorem rd_of_row {w : World} {b : Nat} {t : TypeId} {n : Nat} {f : Nat → Value} (h : w.rowIs b t n f) : Rd w w.heap.size (some ⟨b, 0, none⟩) n f :=
  .inr ⟨b, 0, rfl, h.lt, fun i hi => by rw [Nat.zero_add]; exact h.cell hi⟩

set_option maxHeartbeats 1000000 in
theorem cs10 (a : Option Addr) (n c : Nat) (S : Nat → ByteArray) (w : World) (B : Nat) (hB : B ≤ w.heap.size) (h : Rd w B a n (fun i => .string (S i))) (hl : n ≤ 1048576) :
    Calls Try.prog 10 #[.slice a n c] w (Cloned w n (fun i => .string (S i))) := by
  have q22 : ∀ (w : World) (a : Option Addr) (n c n' c' : Nat), (binOp .eql 22 (.slice a n c) (.slice none n' c')).run Try.prog w = .ok (.bool a.isNone) w := fun w a n c n' c' => Lib.run_eql_slice_nil w _ _ a n c n' c' Try.underlying22
  cases a with
  | none =>
    have hn0 := h.nil rfl
    clear h
    go_enter Try.func10, Try.ntmps10
    go_wp2
    go_ret
    exact ⟨none, 0, by rw [hn0]; rfl, .inl hn0, Below.refl _ _⟩
  | some x =>
    have hmk := run_make_row' (P := Try.prog) 22 9 (.string ByteArray.empty) 16 Try.underlying22 Try.info9 rfl .i64 .i64 n (by omega) (by omega)
    go_enter Try.func10, Try.ntmps10
    go_wp2
    go_loopw [4] (fun i wr => ∃ k : Nat, k ≤ n ∧ i = .int .i64 k ∧ Hid (wr.rowIs w.heap.size 9 n (fun j => if j < k then .string (S j) else .string ByteArray.empty)) ∧ Hid (Below w.heap.size w wr)) (fun i _ => n - (intOf i).toNat)
    case atStart => exact ⟨0, Nat.zero_le _, rfl, (World.rowIs_made w (.string ByteArray.empty) n 9).congr (fun i _ => by simp), (Below.refl _ _).alloc (Nat.le_refl _) _⟩
    case round =>
      obtain ⟨k, hk, rfl, hr, hb⟩ := hrel
      by_cases hkn : k < n
      · obtain ⟨b, o, e1, hbB, hc1⟩ := h.at hkn
        simp only [Option.some.injEq] at e1
        subst e1
        have hc2 : wr.cell? ⟨b, o + k, none⟩ = some (.string (S k)) := (hb.out.cell (p := ⟨b, o + k, none⟩) (by show b < _; omega)).trans hc1
        have hd := hr.out.cell hkn
        have hf := hr.out.frozen k
        have hki : (k : Int) < (n : Int) := by omega
        rw [if_neg (by omega)] at hd
        have R2 : Hid ((wr.setCell ⟨w.heap.size, k, none⟩ (.string (S k))).rowIs w.heap.size 9 n (fun j => if j < k + 1 then .string (S j) else .string ByteArray.empty)) := by
          refine (hr.out.set k (.string (S k))).congr fun i hi => ?_
          by_cases e : i = k
          · subst e; simp
          · by_cases e2 : i < k
            · simp [e, e2, show i < k + 1 by omega]
            · simp [e, e2, show ¬ i < k + 1 by omega]
        have B2 : Hid (Below w.heap.size w (wr.setCell ⟨w.heap.size, k, none⟩ (.string (S k)))) := hb.out.setCell (Nat.le_refl _) _
        clear hc1 h
        go_wp2
        go_roundw
        case rel => exact ⟨k + 1, by omega, by go_num, R2.out, B2.out⟩
        case measure => simp [intOf]; omega
      · obtain rfl : k = n := by omega
        go_wp2
        go_ret
        exact ⟨_, _, rfl, rd_of_row (hr.out.congr fun i hi => by rw [if_pos hi]), hb.out⟩

set_option maxHeartbeats 1000000 in
theorem cw11 (a : Option Addr) (n c : Nat) (Z : Nat → Int) (w : World) (B : Nat) (hB : B ≤ w.heap.size) (h : Rd w B a n (fun i => .int .u32 (Z i))) (hl : n ≤ 1048576) :
    Calls Try.prog 11 #[.slice a n c] w (Cloned w n (fun i => .int .u32 (Z i))) := by
  have q23 : ∀ (w : World) (a : Option Addr) (n c n' c' : Nat), (binOp .eql 23 (.slice a n c) (.slice none n' c')).run Try.prog w = .ok (.bool a.isNone) w := fun w a n c n' c' => Lib.run_eql_slice_nil w _ _ a n c n' c' Try.underlying23
  cases a with
  | none =>
    have hn0 := h.nil rfl
    clear h
    go_enter Try.func11, Try.ntmps11
    go_wp2
    go_ret
    exact ⟨none, 0, by rw [hn0]; rfl, .inl hn0, Below.refl _ _⟩
  | some x =>
    have hmk := run_make_row' (P := Try.prog) 23 34 (.int .u32 0) 4 Try.underlying23 Try.info34 rfl .i64 .i64 n (by omega) (by omega)
    go_enter Try.func11, Try.ntmps11
    go_wp2
    go_loopw [4] (fun i wr => ∃ k : Nat, k ≤ n ∧ i = .int .i64 k ∧ Hid (wr.rowIs w.heap.size 34 n (fun j => if j < k then .int .u32 (Z j) else .int .u32 0)) ∧ Hid (Below w.heap.size w wr)) (fun i _ => n - (intOf i).toNat)
    case atStart => exact ⟨0, Nat.zero_le _, rfl, (World.rowIs_made w (.int .u32 0) n 34).congr (fun i _ => by simp), (Below.refl _ _).alloc (Nat.le_refl _) _⟩
    case round =>
      obtain ⟨k, hk, rfl, hr, hb⟩ := hrel
      by_cases hkn : k < n
      · obtain ⟨b, o, e1, hbB, hc1⟩ := h.at hkn
        simp only [Option.some.injEq] at e1
        subst e1
        have hc2 : wr.cell? ⟨b, o + k, none⟩ = some (.int .u32 (Z k)) := (hb.out.cell (p := ⟨b, o + k, none⟩) (by show b < _; omega)).trans hc1
        have hd := hr.out.cell hkn
        have hf := hr.out.frozen k
        have hki : (k : Int) < (n : Int) := by omega
        rw [if_neg (by omega)] at hd
        have R2 : Hid ((wr.setCell ⟨w.heap.size, k, none⟩ (.int .u32 (Z k))).rowIs w.heap.size 34 n (fun j => if j < k + 1 then .int .u32 (Z j) else .int .u32 0)) := by
          refine (hr.out.set k (.int .u32 (Z k))).congr fun i hi => ?_
          by_cases e : i = k
          · subst e; simp
          · by_cases e2 : i < k
            · simp [e, e2, show i < k + 1 by omega]
            · simp [e, e2, show ¬ i < k + 1 by omega]
        have B2 : Hid (Below w.heap.size w (wr.setCell ⟨w.heap.size, k, none⟩ (.int .u32 (Z k)))) := hb.out.setCell (Nat.le_refl _) _
        clear hc1 h
        go_wp2
        go_roundw
        case rel => exact ⟨k + 1, by omega, by go_num, R2.out, B2.out⟩
        case measure => simp [intOf]; omega
      · obtain rfl : k = n := by omega
        go_wp2
        go_ret
        exact ⟨_, _, rfl, rd_of_row (hr.out.congr fun i hi => by rw [if_pos hi]), hb.out⟩

set_option maxHeartbeats 1000000 in
theorem same17 (a1 a2 : Option Addr) (n c1 c2 : Nat) (S : Nat → ByteArray) (w : World) (B1 B2 : Nat) (h1 : Rd w B1 a1 n (fun i => .string (S i))) (h2 : Rd w B2 a2 n (fun i => .string (S i))) (hl : n ≤ 1048576) :
    Calls Try.prog 17 #[.slice a1 n c1, .slice a2 n c2] w fun e w' => e = .returned (.bool true) ∧ ∃ q, w' = w.drewN q := by
  have hnn : ((n : Int) != (n : Int)) = false := by simp
  go_enter Try.func17, Try.ntmps17
  go_wp2
  go_loopw [5] (fun i wr => ∃ j : Nat, j ≤ n ∧ i = .int .i64 j ∧ Hid (∃ q, wr = w.drewN q)) (fun i _ => n - (intOf i).toNat)
  case atStart => exact ⟨0, Nat.zero_le _, rfl, 0, rfl⟩
  case round =>
    obtain ⟨j, hj, rfl, q, rfl⟩ := hrel
    by_cases hjn : j < n
    · obtain ⟨b1, o1, rfl, _, hc1⟩ := h1.at hjn
      obtain ⟨b2, o2, rfl, _, hc2⟩ := h2.at hjn
      have hji : (j : Int) < (n : Int) := by omega
      generalize S j = t at *
      clear h1 h2
      go_wp2
      go_quiet (fail)
      go_wp2
      go_roundw
      case rel => exact ⟨j + 1, by omega, by go_num, _, rfl⟩
      case measure => simp [intOf]; omega
    · go_wp2
      go_ret
      exact ⟨rfl, q, rfl⟩

set_option maxHeartbeats 400000 in
theorem en18 {w : World} {lo bt n : Nat} {mp : Option Nat} {M : ByteArray → Option Nat} {L : List Nat} (h : Tk w lo bt mp n M L) (s : ByteArray) (hs : s.size ≤ maxLen) (u : Option Addr) (hu : ptr (M s) = .pointer u) :
    Calls Try.prog 18 #[.pointer (some ⟨bt, 0, none⟩), .string s] w fun x w' => x = .returned (.pointer u) ∧ w = w' := by
  have hl := h.look1 s hs
  have h0 : w.cell? ⟨bt, 0, none⟩ = some (.map mp) := cell_blk h.t rfl
  rw [hu] at hl
  clear h hu
  go_enter Try.func18, Try.ntmps18
  go_wp2
  go_ret
  exact ⟨rfl, rfl⟩
end Go.Proofs.Qxb6001032a

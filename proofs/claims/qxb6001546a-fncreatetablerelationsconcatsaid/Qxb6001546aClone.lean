import Derived.Test.Qxb6001546aBase
namespace Go.Proofs.Qxb6001546a
open Go.RowKit
set_option linter.unusedVariables false

theorem run_make_rowK {P : Program} (t e : TypeId) (z : Value) (size bytes : Nat) (ht : P.underlying t = some (.slice e)) (hinfo : (P.info? e).map (fun i => (i.zero, i.size, i.bytes)) = some (some z, size, bytes))
    (kl kc : IntKind) (n : Nat) (hbytes : bytes * n ≤ 281474976710656) (h63 : n ≤ 9223372036854775807) (w : World) :
    (Instr.makeSlice t (.int kl (n : Int)) (.int kc (n : Int))).run P w = .ok (.slice (some ⟨w.heap.size, 0, none⟩) n n) (w.alloc (.cells (madeCells z.cells (n * size)) e)) := by
  obtain ⟨i, hi, hzz⟩ := Option.map_eq_some_iff.1 hinfo
  simp only [Prod.mk.injEq] at hzz
  obtain ⟨hz, hs, hb⟩ := hzz
  have hb' : (i.bytes : Int) * (n : Int) ≤ 281474976710656 := by
    have h : ((i.bytes * n : Nat) : Int) ≤ 281474976710656 := by rw [hb]; omega
    rwa [Int.natCast_mul] at h
  have hr := run_make (P := P) w t e i z ht hi hz kl kc n n (by omega) (Int.le_refl _) hb' (by omega)
  simp only [Int.toNat_natCast, hs] at hr
  exact hr

/-- all 17 cells of an element set. -/
def set17 (w : World) (b o : Nat) (c : Spec) : World :=
  (((((((((((((((((w.setCell ⟨b, o, none⟩ (.string c.s0)).setCell ⟨b, o + 1, none⟩ (.string c.s1)).setCell ⟨b, o + 2, none⟩ (.bool c.b2)).setCell ⟨b, o + 3, none⟩ (.bool c.b3)).setCell ⟨b, o + 4, none⟩ (.bool c.b4)).setCell ⟨b, o + 5, none⟩ (.bool c.b5)).setCell
    ⟨b, o + 6, none⟩ (.string c.s6)).setCell ⟨b, o + 7, none⟩ (.bool c.b7)).setCell ⟨b, o + 8, none⟩ (.string c.s8)).setCell ⟨b, o + 9, none⟩ (.bool c.b9)).setCell ⟨b, o + 10, none⟩ (.string c.s10)).setCell ⟨b, o + 11, none⟩ (.string c.s11)).setCell
    ⟨b, o + 12, none⟩ (.bool c.b12)).setCell ⟨b, o + 13, none⟩ (.string c.s13)).setCell ⟨b, o + 14, none⟩ (.string c.s14)).setCell ⟨b, o + 15, none⟩ (.string c.s15)).setCell ⟨b, o + 16, none⟩ (.string c.s16))

/-- the row with the first k elements copied. -/
def cpf (S : Nat → Spec) (k : Nat) : Nat → Value := fun j => if j < k * 17 then spf S j else Spec.zero.cell (j % 17)

theorem set17_row {w : World} {b n k : Nat} {S : Nat → Spec} (h : w.rowIs b 61 (n * 17) (cpf S k)) : (set17 w b (k * 17) (S k)).rowIs b 61 (n * 17) (cpf S (k + 1)) := by
  refine (((((((((((((((((h.set (k * 17) _).set (k * 17 + 1) _).set (k * 17 + 2) _).set (k * 17 + 3) _).set (k * 17 + 4) _).set (k * 17 + 5) _).set (k * 17 + 6) _).set (k * 17 + 7) _).set (k * 17 + 8) _).set (k * 17 + 9) _).set (k * 17 + 10) _).set (k * 17 + 11) _).set (k * 17 + 12) _).set (k * 17 + 13) _).set (k * 17 + 14) _).set (k * 17 + 15) _).set (k * 17 + 16) _).congr fun i hi => ?_
  by_cases e : i < k * 17
  · have e2 : i < (k + 1) * 17 := by omega
    simp only [cpf, if_pos e, if_pos e2]
    repeat rw [if_neg (by omega)]
  · by_cases e2 : i < (k + 1) * 17
    · obtain ⟨j, hj, rfl⟩ : ∃ j, j < 17 ∧ i = k * 17 + j := ⟨i - k * 17, by omega, by omega⟩
      have hsp := spf_at S k j hj
      simp only [cpf, if_neg e, if_pos e2, hsp]
      have hcases : j = 0 ∨ j = 1 ∨ j = 2 ∨ j = 3 ∨ j = 4 ∨ j = 5 ∨ j = 6 ∨ j = 7 ∨ j = 8 ∨ j = 9 ∨ j = 10 ∨ j = 11 ∨ j = 12 ∨ j = 13 ∨ j = 14 ∨ j = 15 ∨ j = 16 := by omega
      rcases hcases with rfl | rfl | rfl | rfl | rfl | rfl | rfl | rfl | rfl | rfl | rfl | rfl | rfl | rfl | rfl | rfl | rfl <;> simp [Spec.cell]
    · simp only [cpf, if_neg e, if_neg e2]
      repeat rw [if_neg (by omega)]

theorem set17_below {w w' : World} {B b o : Nat} {c : Spec} (h : Below B w w') (hb : B ≤ b) : Below B w (set17 w' b o c) :=
  ((((((((((((((((h.setCell hb _).setCell hb _).setCell hb _).setCell hb _).setCell hb _).setCell hb _).setCell hb _).setCell hb _).setCell hb _).setCell hb _).setCell hb _).setCell hb _).setCell hb _).setCell hb _).setCell hb _).setCell hb _).setCell hb _

theorem made17 (w : World) (n : Nat) (S : Nat → Spec) : (w.alloc (.cells (madeCells Spec.zero.val.cells (n * 17)) 61)).rowIs w.heap.size 61 (n * 17) (cpf S 0) := by
  refine ⟨_, Go.Deep.blk_alloc_new _ _, size_madeCells _ _, fun i hi => ?_⟩
  have hj : i % 17 < 17 := Nat.mod_lt _ (by omega)
  have hval : Spec.zero.val.cells = #[.string ByteArray.empty, .string ByteArray.empty, .bool false, .bool false, .bool false, .bool false, .string ByteArray.empty, .bool false, .string ByteArray.empty, .bool false, .string ByteArray.empty, .string ByteArray.empty, .bool false, .string ByteArray.empty, .string ByteArray.empty, .string ByteArray.empty, .string ByteArray.empty] := rfl
  rw [hval]
  simp only [cpf, Nat.zero_mul, Nat.not_lt_zero, if_false]
  simp only [madeCells]
  rw [Array.getElem?_map, Array.getElem?_eq_getElem (by simpa using hi), Array.getElem_range]
  show some (_[i % 17]!) = _
  generalize i % 17 = j at *
  have hcases : j = 0 ∨ j = 1 ∨ j = 2 ∨ j = 3 ∨ j = 4 ∨ j = 5 ∨ j = 6 ∨ j = 7 ∨ j = 8 ∨ j = 9 ∨ j = 10 ∨ j = 11 ∨ j = 12 ∨ j = 13 ∨ j = 14 ∨ j = 15 ∨ j = 16 := by omega
  rcases hcases with rfl | rfl | rfl | rfl | rfl | rfl | rfl | rfl | rfl | rfl | rfl | rfl | rfl | rfl | rfl | rfl | rfl <;> rfl

/-- what a copy hands back. -/
def ClonedSp (w : World) (n : Nat) (S : Nat → Spec) (e : Ending) (w' : World) : Prop :=
  ∃ a c, e = .returned (.slice a n c) ∧ Sp w' w'.heap.size a n S ∧ Below w.heap.size w w'

set_option maxHeartbeats 2000000 in
set_option maxRecDepth 100000 in
theorem cl7 (a : Option Addr) (n c : Nat) (S : Nat → Spec) (w : World) (B : Nat) (hB : B ≤ w.heap.size) (h : Sp w B a n S) (hl : n ≤ 65536) :
    Calls Try.prog 7 #[.slice a n c] w (ClonedSp w n S) := by
  have q22 : ∀ (w : World) (a : Option Addr) (n c n' c' : Nat), (binOp .eql 22 (.slice a n c) (.slice none n' c')).run Try.prog w = .ok (.bool a.isNone) w := fun w a n c n' c' => Lib.run_eql_slice_nil w _ _ a n c n' c' Try.underlying22
  cases a with
  | none =>
    have hn0 := h.nil rfl
    clear h
    go_enter Try.func7, Try.ntmps7
    go_wp2
    go_ret
    exact ⟨none, 0, by rw [hn0]; rfl, .inl (by omega), Below.refl _ _⟩
  | some x =>
    have hmk := run_make_rowK (P := Try.prog) 22 61 Spec.zero.val 17 192 Try.underlying22 Try.info61 .i64 .i64 n (by omega) (by omega)
    have HM := made17 w n S
    have HB0 : Below w.heap.size w (w.alloc (.cells (madeCells Spec.zero.val.cells (n * 17)) 61)) := (Below.refl _ _).alloc (Nat.le_refl _) _
    generalize madeCells Spec.zero.val.cells (n * 17) = mc at *
    go_enter Try.func7, Try.ntmps7
    go_wp2
    go_loopw [4] (fun i wr => ∃ k : Nat, k ≤ n ∧ i = .int .i64 k ∧ Hid (wr.rowIs w.heap.size 61 (n * 17) (cpf S k)) ∧ Hid (Below w.heap.size w wr)) (fun i _ => n - (intOf i).toNat)
    case atStart => exact ⟨0, Nat.zero_le _, rfl, HM, HB0⟩
    case round =>
      obtain ⟨k, hk, rfl, hr, hb⟩ := hrel
      by_cases hkn : k < n
      · obtain ⟨b, o, e1, hbB, A0⟩ := h.at hkn
        simp only [Option.some.injEq] at e1
        subst e1
        have A := A0.keep hb.out (by omega)
        have old : ∀ j, j < 17 → wr.cell? ⟨w.heap.size, k * 17 + j, none⟩ = some (Spec.zero.cell j) := fun j hj => by
          rw [hr.out.cell (show k * 17 + j < n * 17 by omega), cpf, if_neg (by omega), show (k * 17 + j) % 17 = j by omega]
        have D := at17_of old
        have hf := fun j => hr.out.frozen j
        have hki : (k : Int) < (n : Int) := by omega
        have R2 : Hid ((set17 wr w.heap.size (k * 17) (S k)).rowIs w.heap.size 61 (n * 17) (cpf S (k + 1))) := set17_row hr.out
        have B2 : Hid (Below w.heap.size w (set17 wr w.heap.size (k * 17) (S k))) := set17_below hb.out (Nat.le_refl _)
        obtain ⟨h0, h1, h2, h3, h4, h5, h6, h7, h8, h9, h10, h11, h12, h13, h14, h15, h16⟩ := A
        obtain ⟨d0, d1, d2, d3, d4, d5, d6, d7, d8, d9, d10, d11, d12, d13, d14, d15, d16⟩ := D
        clear A0 h old hr hb
        go_wp2
        go_roundw
        case rel => exact ⟨k + 1, by omega, by go_num, R2.out, B2.out⟩
        case measure => simp [intOf]; omega
      · obtain rfl : k = n := by omega
        go_wp2
        go_ret
        refine ⟨_, _, rfl, rd_of_row (hr.out.congr fun i hi => ?_), hb.out⟩
        rw [cpf, if_pos hi]
end Go.Proofs.Qxb6001546a

import Derived.Test.Qxb6000858aCloneK
namespace Go.Proofs.Qxb6000858a
open Go.RowKit

theorem Try.info42 : (Try.prog.info? 42).map (fun i => (i.zero, i.size, i.bytes)) = some (some (.agg #[.int .i64 0, .int .i64 0]), 2, 16) := by kernel_rfl
theorem Try.info56 : (Try.prog.info? 56).map (fun i => (i.zero, i.size, i.bytes)) = some (some (.agg #[.slice none 0 0, .slice none 0 0]), 2, 48) := by kernel_rfl
theorem Try.info54 : (Try.prog.info? 54).map (fun i => (i.zero, i.size, i.bytes)) = some (some (.agg #[.int .i64 0, .slice none 0 0]), 2, 32) := by kernel_rfl

theorem run_make_rowK {P : Program} (t e : TypeId) (z : Value) (size bytes : Nat) (ht : P.underlying t = some (.slice e)) (hinfo : (P.info? e).map (fun i => (i.zero, i.size, i.bytes)) = some (some z, size, bytes))
    (kl kc : IntKind) (n : Nat) (hbytes : bytes * n ≤ 281474976710656) (h63 : n ≤ 9223372036854775807) (w : World) :
    (Instr.makeSlice t (.int kl (n : Int)) (.int kc (n : Int))).run P w = .ok (.slice (some ⟨w.heap.size, 0, none⟩) n n) (w.alloc (.cells (madeCells z.cells (n * size)) e)) := by
  obtain ⟨i, hi, hzz⟩ := Option.map_eq_some_iff.1 hinfo
  simp only [Prod.mk.injEq] at hzz
  obtain ⟨hz, hs, hb⟩ := hzz
  have hb' : (i.bytes : Int) * (n : Int) ≤ 281474976710656 := by
    have h : ((i.bytes * n : Nat) : Int) ≤ 281474976710656 := by rw [hb]; omega
    rwa [Int.natCast_mul] at h
  have hr := run_make (P := P) w t e i z ht hi hz kl kc n n (by omega) (Int.le_refl _) hb' (by omega)
  simp only [Int.toNat_natCast, hs] at hr
  exact hr

/-- pairs laid in a row. -/
def pr (X Y : Nat → Value) : Nat → Value := fun j => if j % 2 = 0 then X (j / 2) else Y (j / 2)
theorem pr_even (X Y : Nat → Value) (i : Nat) : pr X Y (i * 2) = X i := by simp [pr]
theorem pr_odd (X Y : Nat → Value) (i : Nat) : pr X Y (i * 2 + 1) = Y i := by
  have h1 : (i * 2 + 1) % 2 = 1 := by omega
  have h2 : (i * 2 + 1) / 2 = i := by omega
  simp [pr, h1, h2]

theorem made_pairs (w : World) (x y : Value) (n : Nat) (t : TypeId) : (w.alloc (.cells (madeCells #[x, y] (n * 2)) t)).rowIs w.heap.size t (n * 2) (pr (fun _ => x) (fun _ => y)) := by
  refine ⟨_, Go.Deep.blk_alloc_new _ _, size_madeCells _ _, fun i hi => ?_⟩
  rcases (show i % 2 = 0 ∨ i % 2 = 1 by omega) with h | h <;> simp [madeCells, hi, pr, h]

theorem set_pair {w : World} {b n : Nat} {t : TypeId} {X Y : Nat → Value} (h : w.rowIs b t (n * 2) (pr X Y)) (k : Nat) (x y : Value) :
    ((w.setCell ⟨b, k * 2, none⟩ x).setCell ⟨b, k * 2 + 1, none⟩ y).rowIs b t (n * 2) (pr (fun j => if j = k then x else X j) (fun j => if j = k then y else Y j)) := by
  refine ((h.set (k * 2) x).set (k * 2 + 1) y).congr fun i hi => ?_
  rcases (show i % 2 = 0 ∨ i % 2 = 1 by omega) with e | e
  · obtain ⟨q, rfl⟩ : ∃ q, i = q * 2 := ⟨i / 2, by omega⟩
    rw [pr_even, pr_even, if_neg (by omega)]
    by_cases eq : q = k
    · subst eq; simp
    · rw [if_neg (by omega), if_neg eq]
  · obtain ⟨q, rfl⟩ : ∃ q, i = q * 2 + 1 := ⟨i / 2, by omega⟩
    rw [pr_odd, pr_odd]
    by_cases eq : q = k
    · subst eq; simp
    · rw [if_neg (by omega), if_neg (by omega), if_neg eq]

end Go.Proofs.Qxb6000858a

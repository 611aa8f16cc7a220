/- The frame of both rows: how the arguments are read. -/
import Derived.Test.Qxb6000858aRows
import Derived.Test.Qxb6000858aLawA
import Derived.WalkKit
import Derived.ProofKit
import Derived.OpenShut
import Derived.ShutString
import Derived.ChangeOld
import Derived.Below
import Derived.Deep.Matrix
namespace Go.Proofs.Qxb6000858a
open Go.ChangeShapes Go.WideShapes Go.ChangeAt Go.RowKit Go.Deep
set_option linter.unusedVariables false

theorem own : ownKnob Try.prog.godebug = none := by kernel_rfl
theorem laidOut : laidOutB Try.prog = true := by kernel_rfl
theorem cells3 : Try.prog.cellsOf 3 = 1 := by kernel_rfl
theorem cells5 : Try.prog.cellsOf 5 = 1 := by kernel_rfl
theorem cells38 : Try.prog.cellsOf 38 = 1 := by kernel_rfl

theorem rd_of_cells {W : World} {x : Addr} {n : Nat} {f : Nat → Value} (h : ∀ i, i < n → W.cell? (x.add i) = some (f i)) : Rd W W.heap.size (some x) n f := by
  by_cases e : n = 0
  · exact .inl e
  · have h0 := h 0 (by omega)
    have hs : x.spot = none := by simpa [Addr.add] using World.cell?_spot h0
    obtain ⟨b, off, spot⟩ := x
    simp only at hs
    subst hs
    have hlt := World.block_lt_of_cell? W _ h0
    refine .inr ⟨b, off, rfl, ?_, fun i hi => ?_⟩
    · simpa [Addr.add] using hlt
    · rw [← h i hi]
      congr 1
      unfold Addr.add
      split <;> simp_all

section
variable {H : Type} {enc : TypeId × Value → H} {W : World}

theorem open_row {a : Option Addr} {len cap : Nat} {d : DataW H} {p : List MemPlace} (h : DataW.Trod enc Try.prog W 0 (fun _ => true) true 22 (.slice a len cap) d p) :
    ∃ l : List Int, Rd W W.heap.size a len (ci .i64 l) ∧ len ≤ 9223372036854775807 := by
  obtain ⟨fuel, hf⟩ := h
  rcases open_ints Try.underlying22 Try.underlying3 cells3 hf with ⟨hcs, _⟩ | ⟨x, l, c, zs, hcs, _, hl, hm, hz, _, hcell, hwz⟩
  · simp [Value.cells] at hcs
    obtain ⟨rfl, rfl, rfl⟩ := hcs
    exact ⟨[], .inl rfl, by omega⟩
  · simp [Value.cells] at hcs
    obtain ⟨rfl, rfl, rfl⟩ := hcs
    unfold maxLen at hm
    simp only [if_true] at hz
    exact ⟨zs, rd_of_cells fun i hi => hcell i (by omega), by omega⟩

theorem open_keys {a : Option Addr} {len cap : Nat} {d : DataW H} {p : List MemPlace} (h : DataW.Trod enc Try.prog W 0 (fun _ => true) true 30 (.slice a len cap) d p) :
    ∃ (key : Nat → List Int) (A : Nat → Option Addr) (C : Nat → Nat), Keys W W.heap.size a len key A C ∧ len ≤ 9223372036854775807 ∧ ∀ i, i < len → (key i).length ≤ 9223372036854775807 := by
  obtain ⟨fuel, hf⟩ := h
  rcases open_int_rows Try.underlying30 Try.underlying38 Try.underlying5 cells38 cells5 hf with ⟨hcs, _⟩ | ⟨x, l, c, A, L, C, Z, hcs, _, hl, hm, _, hx⟩
  · simp [Value.cells] at hcs
    obtain ⟨rfl, rfl, rfl⟩ := hcs
    exact ⟨fun _ => [], fun _ => none, fun _ => 0, ⟨.inl rfl, fun i hi => by omega⟩, by omega, fun i hi => by omega⟩
  · simp [Value.cells] at hcs
    obtain ⟨rfl, rfl, rfl⟩ := hcs
    unfold maxLen at hm
    have hlen : ∀ i, i < len → ((Z i).take (L i)).length = L i := fun i hi => by
      obtain ⟨_, h1, _, h2, _⟩ := hx i (by omega)
      simp; omega
    refine ⟨fun i => (Z i).take (L i), A, C, ⟨?_, fun i hi => ?_⟩, by omega, fun i hi => ?_⟩
    · refine rd_of_cells fun i hi => ?_
      rw [(hx i (by omega)).1, hlen i hi]
    · obtain ⟨_, h1, _, h2, _, h3, h4⟩ := hx i (by omega)
      rw [hlen i hi]
      cases hA : A i with
      | none => exact .inl (by have := h3 hA; omega)
      | some x' =>
        refine rd_of_cells fun j hj => ?_
        rw [(h4 x' hA).2 j (by omega)]
        unfold ci
        simp [List.getD, hj]
    · obtain ⟨_, h1, h5, h2, _⟩ := hx i (by omega)
      rw [hlen i hi]
      unfold maxLen at h5
      omega
end
end Go.Proofs.Qxb6000858a

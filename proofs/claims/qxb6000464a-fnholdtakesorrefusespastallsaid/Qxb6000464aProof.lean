import Derived.Test.Qxb6000464aRows
import Derived.Test.Qxb6000464aLaw
import Derived.WalkKit
import Derived.ProofKit
import Derived.OpenShut
import Derived.ShutString
import Derived.ChangeOld
import Derived.Below
import Derived.Deep.Matrix
namespace Go.Proofs.Qxb6000464a
open Go.ChangeShapes Go.WideShapes Go.ChangeAt Go.RowKit Go.Deep
set_option linter.unusedVariables false

theorem own : ownKnob Try.prog.godebug = none := by kernel_rfl
theorem laidOut : laidOutB Try.prog = true := by kernel_rfl
theorem cells3 : Try.prog.cellsOf 3 = 1 := by kernel_rfl
theorem cells5 : Try.prog.cellsOf 5 = 1 := by kernel_rfl
theorem cells22 : Try.prog.cellsOf 22 = 1 := by kernel_rfl

theorem rd_of_cells {W : World} {x : Addr} {n : Nat} {f : Nat → Value} (h : ∀ i, i < n → W.cell? (x.add i) = some (f i)) : Rd W W.heap.size (some x) n f := by
  by_cases e : n = 0
  · exact .inl e
  · have h0 := h 0 (by omega)
    have hs : x.spot = none := by simpa [Addr.add] using World.cell?_spot h0
    obtain ⟨b, off, spot⟩ := x
    simp only at hs
    subst hs
    have hlt := World.block_lt_of_cell? W _ h0
    refine .inr ⟨b, off, rfl, ?_, fun i hi => ?_⟩
    · simpa [Addr.add] using hlt
    · rw [← h i hi]
      congr 1
      unfold Addr.add
      split <;> simp_all

section
variable {H : Type} {enc : TypeId × Value → H} {W : World}

theorem open_row {a : Option Addr} {len cap : Nat} {d : DataW H} {p : List MemPlace} (h : DataW.Trod enc Try.prog W 0 (fun _ => true) true 29 (.slice a len cap) d p) :
    ∃ l : List Int, Rd W W.heap.size a len (ci .i64 l) ∧ len ≤ 9223372036854775807 := by
  obtain ⟨fuel, hf⟩ := h
  rcases open_ints Try.underlying29 Try.underlying3 cells3 hf with ⟨hcs, _⟩ | ⟨x, l, c, zs, hcs, _, hl, hm, hz, _, hcell, hwz⟩
  · simp [Value.cells] at hcs
    obtain ⟨rfl, rfl, rfl⟩ := hcs
    exact ⟨[], .inl rfl, by omega⟩
  · simp [Value.cells] at hcs
    obtain ⟨rfl, rfl, rfl⟩ := hcs
    unfold maxLen at hm
    simp only [if_true] at hz
    exact ⟨zs, rd_of_cells fun i hi => hcell i (by omega), by omega⟩

theorem open_keys {a : Option Addr} {len cap : Nat} {d : DataW H} {p : List MemPlace} (h : DataW.Trod enc Try.prog W 0 (fun _ => true) true 30 (.slice a len cap) d p) :
    ∃ (key : Nat → List Int) (A : Nat → Option Addr) (C : Nat → Nat), Keys W W.heap.size a len key A C ∧ len ≤ 9223372036854775807 ∧ ∀ i, i < len → (key i).length ≤ 9223372036854775807 := by
  obtain ⟨fuel, hf⟩ := h
  rcases open_int_rows Try.underlying30 Try.underlying22 Try.underlying5 cells22 cells5 hf with ⟨hcs, _⟩ | ⟨x, l, c, A, L, C, Z, hcs, _, hl, hm, _, hx⟩
  · simp [Value.cells] at hcs
    obtain ⟨rfl, rfl, rfl⟩ := hcs
    exact ⟨fun _ => [], fun _ => none, fun _ => 0, ⟨.inl rfl, fun i hi => by omega⟩, by omega, fun i hi => by omega⟩
  · simp [Value.cells] at hcs
    obtain ⟨rfl, rfl, rfl⟩ := hcs
    unfold maxLen at hm
    have hlen : ∀ i, i < len → ((Z i).take (L i)).length = L i := fun i hi => by
      obtain ⟨_, h1, _, h2, _⟩ := hx i (by omega)
      simp; omega
    refine ⟨fun i => (Z i).take (L i), A, C, ⟨?_, fun i hi => ?_⟩, by omega, fun i hi => ?_⟩
    · refine rd_of_cells fun i hi => ?_
      rw [(hx i (by omega)).1, hlen i hi]
    · obtain ⟨_, h1, _, h2, _, h3, h4⟩ := hx i (by omega)
      rw [hlen i hi]
      cases hA : A i with
      | none => exact .inl (by have := h3 hA; omega)
      | some x' =>
        refine rd_of_cells fun j hj => ?_
        rw [(h4 x' hA).2 j (by omega)]
        unfold ci
        simp [List.getD, hj]
    · obtain ⟨_, h1, h5, h2, _⟩ := hx i (by omega)
      rw [hlen i hi]
      unfold maxLen at h5
      omega
theorem open_bytes {a : Option Addr} {len cap : Nat} {d : DataW H} {p : List MemPlace} (h : DataW.Trod enc Try.prog W 0 (fun _ => true) true 22 (.slice a len cap) d p) :
    ∃ l : List Int, l.length = len ∧ Rd W W.heap.size a len (ci .u8 l) ∧ len ≤ 9223372036854775807 := by
  obtain ⟨fuel, hf⟩ := h
  rcases open_ints Try.underlying22 Try.underlying5 cells5 hf with ⟨hcs, _⟩ | ⟨x, l, c, zs, hcs, _, hl, hm, hz, _, hcell, hwz⟩
  · simp [Value.cells] at hcs
    obtain ⟨rfl, rfl, rfl⟩ := hcs
    exact ⟨[], rfl, .inl rfl, by omega⟩
  · simp [Value.cells] at hcs
    obtain ⟨rfl, rfl, rfl⟩ := hcs
    unfold maxLen at hm
    simp only [if_true] at hz
    refine ⟨zs.take len, by rw [List.length_take]; omega, rd_of_cells fun i hi => ?_, by omega⟩
    rw [hcell i (by omega)]
    unfold ci
    rw [List.getD_eq_getElem?_getD, List.getD_eq_getElem?_getD, List.getElem?_take, if_pos hi]
end

set_option maxRecDepth 100000 in
theorem lifted (os : Os) (started : os.Started) (H : Type) (enc : TypeId × Value → H) :
    ReturnsInHanded {} Try.checked os 7 .any (Rows.fnHoldTakesOrRefusesPastAllSpec.pre6 enc Try.prog Try.f7 Rows.fnHoldTakesOrRefusesPastAllRow.domain false) (Rows.fnHoldTakesOrRefusesPastAllSpec.post enc Try.prog Try.f7 false true false false) := by
  refine returnsInHanded_of_change (C := Try.checked) own started (by kernel_rfl) Try.func7
    (ChangeSpec.witness6 (enc := enc) (C := Try.checked) false ⟨#[], #[.slice none 0 0, .slice none 0 0, .int .i64 0, .slice none 0 0], []⟩ 8 (by kernel_rfl) (by kernel_rfl) (by kernel_rfl) (by kernel_rfl)) ?_
  intro W base args ds gs before hval0 hW hcnd _
  have hval : ∀ (j : Nat) t v, Try.f7.params[j]? = some t → args[j]? = some v → Value.okWide Try.prog W .any base t v := hval0
  have hW' := hW
  obtain ⟨p, q, hA0, hV, rfl, hfz, hnd⟩ := hW
  have hA : DataW.TrodAll enc Try.prog W 0 (fun _ => true) true Try.f7.params.toList args.toList ds p := hA0
  rw [Try.params7] at hA hval
  obtain ⟨v0, vs0, d0, ds0, p0, q0, hargs, rfl, rfl, h0, r0⟩ := trodAll_cons hA
  obtain ⟨v1, vs1, d1, ds1, p1, q1, rfl, rfl, rfl, h1, r1⟩ := trodAll_cons r0
  obtain ⟨v2, vs2, d2, ds2, p2, q2, rfl, rfl, rfl, h2, r2⟩ := trodAll_cons r1
  obtain ⟨v3, vs3, d3, ds3, p3, q3, rfl, rfl, rfl, h3, r3⟩ := trodAll_cons r2
  obtain ⟨rfl, rfl, rfl⟩ := trodAll_nil r3
  obtain rfl : args = #[v0, v1, v2, v3] := by cases args; simp_all
  obtain ⟨rfl, rfl⟩ := trodVars_none hV
  obtain ⟨a0, len0, cap0, rfl⟩ := okWide_slice Try.underlying29 (hval 0 29 v0 rfl rfl)
  obtain ⟨a1, len1, cap1, rfl⟩ := okWide_slice Try.underlying30 (hval 1 30 v1 rfl rfl)
  obtain ⟨a2, rfl, rfl, rfl, w2⟩ := open_int Try.underlying3 (hval 2 3 v2 rfl rfl) h2
  obtain ⟨a3, len3, cap3, rfl⟩ := okWide_slice Try.underlying22 (hval 3 22 v3 rfl rfl)
  have k0 := h0
  have lt0 : ∀ x ∈ p0, x.block < W.heap.size := by obtain ⟨m, hm⟩ := k0; exact DataW.trod_lt m _ _ _ hm
  have k1 := h1
  have lt1 : ∀ x ∈ p1, x.block < W.heap.size := by obtain ⟨m, hm⟩ := k1; exact DataW.trod_lt m _ _ _ hm
  have k3 := h3
  have lt3 : ∀ x ∈ p3, x.block < W.heap.size := by obtain ⟨m, hm⟩ := k3; exact DataW.trod_lt m _ _ _ hm
  obtain ⟨ol, R0, B0⟩ := open_row h0
  obtain ⟨key, A, C, R1, B1, BK⟩ := open_keys h1
  obtain ⟨tl, rfl, R3, B3⟩ := open_bytes h3
  have hb2 := bounds_i64 w2
  clear hA0 hval0
  refine (law7 a0 a1 a3 len0 cap0 len1 cap1 cap3 ol key A C a2 tl W R0 R1 R3 B0 B1 B3 BK hb2.1 hb2.2).mono fun e W' ⟨he, bel⟩ => ?_
  subst he
  exact ⟨_, rfl, _, _, _, [], _, [], hW', trodAll_mk1 (shut_bool Try.underlying4 _), (trodAll_cons_mk (Below.trod laidOut (by kernel_rfl) (of_decide_eq_true (by kernel_rfl)) k0 bel lt0) (trodAll_cons_mk (Below.trod laidOut (by kernel_rfl) (of_decide_eq_true (by kernel_rfl)) k1 bel lt1) (trodAll_cons_mk (shut_int Try.underlying3 w2) (trodAll_cons_mk (Below.trod laidOut (by kernel_rfl) (of_decide_eq_true (by kernel_rfl)) k3 bel lt3) trodAll_mk0)))), rfl, bel.frame _, fun h => by cases h⟩

theorem provedE : Rows.FnHoldTakesOrRefusesPastAllSaid :=
  OpenClaim.holds_of_wide 7 Try.f7 rfl rfl rfl rfl rfl rfl rfl ⟨rfl, rfl, rfl, rfl, rfl⟩ rfl rfl rfl rfl rfl (by kernel_rfl) Try.func7 (by kernel_rfl)
    (of_decide_eq_true (by kernel_rfl)) (by unfold Func.isWrapper; first | (rw [if_pos (by decide +kernel)]; kernel_rfl) | (rw [if_neg (by decide +kernel)]; exact ⟨rfl, rfl⟩))
    (fun os started H enc _ => lifted os started H enc)
end Go.Proofs.Qxb6000464a

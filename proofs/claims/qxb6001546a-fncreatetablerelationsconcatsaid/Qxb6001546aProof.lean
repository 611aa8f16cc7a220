import Derived.Test.Qxb6001546aRows
import Derived.Test.Qxb6001546aLaw
import Derived.Test.Qxb6001546aCol
import Derived.Test.Qxb6001546aColB
import Derived.WalkKit
import Derived.ProofKit
import Derived.OpenShut
import Derived.ShutString
import Derived.ChangeOld
import Derived.Below
import Derived.ChangeMaps5
import Derived.Deep.Slices
namespace Go.Proofs.Qxb6001546a
open Go.ChangeShapes Go.WideShapes Go.ChangeAt Go.RowKit Go.ChangeMaps
set_option linter.unusedVariables false

theorem bc17 (c : Spec) (w : World) : Calls Try.prog 17 #[c.val] w (BcPost w c.ref) := by
  obtain ⟨s0, s1, b2, b3, b4, b5, s6, b7, s8, b9, s10, s11, b12, s13, s14, s15, s16⟩ := c
  cases b12
  · exact bc17a s0 s1 s6 s8 s10 s11 s13 s14 s15 s16 b2 b3 b4 b5 b7 b9 w
  · exact bc17b s0 s1 s6 s8 s10 s11 s13 s14 s15 s16 b2 b3 b4 b5 b7 b9 w

theorem own : ownKnob Try.prog.godebug = none := by kernel_rfl
theorem laidOut : laidOutB Try.prog = true := by kernel_rfl
theorem cells9 : Try.prog.cellsOf 9 = 1 := by kernel_rfl
theorem cells4 : Try.prog.cellsOf 4 = 1 := by kernel_rfl

theorem rd_of_cells {W : World} {x : Addr} {n : Nat} {f : Nat → Value} (h : ∀ i, i < n → W.cell? (x.add i) = some (f i)) : Rd W W.heap.size (some x) n f := by
  by_cases e : n = 0
  · exact .inl e
  · have h0 := h 0 (by omega)
    have hs : x.spot = none := by simpa [Addr.add] using World.cell?_spot h0
    obtain ⟨b, off, spot⟩ := x
    simp only at hs
    subst hs
    have hlt := World.block_lt_of_cell? W _ h0
    refine .inr ⟨b, off, rfl, ?_, fun i hi => ?_⟩
    · simpa [Addr.add] using hlt
    · rw [← h i hi]
      congr 1
      unfold Addr.add
      split <;> simp_all

section
variable {H : Type} {enc : TypeId × Value → H} {W : World} {base : Nat} {spare : Nat → Bool} {held : Bool}

theorem str_cell {n : Nat} {v : Value} {o : Option (DataW H × List MemPlace)} (h : DataW.trod enc Try.prog W base spare held n 9 [v] = o) (ho : o.isSome) : ∃ s : ByteArray, v = .string s ∧ s.size ≤ 9223372036854775807 := by
  obtain ⟨y, rfl⟩ := Option.isSome_iff_exists.1 ho
  obtain ⟨s, e, _, hs⟩ := DataW.trod_string Try.underlying9 h
  simp at e
  unfold maxLen at hs
  exact ⟨s, e, by omega⟩

theorem bool_cell {n : Nat} {v : Value} {o : Option (DataW H × List MemPlace)} (h : DataW.trod enc Try.prog W base spare held n 4 [v] = o) (ho : o.isSome) : ∃ b : Bool, v = .bool b := by
  obtain ⟨y, rfl⟩ := Option.isSome_iff_exists.1 ho
  obtain ⟨b, e, _⟩ := DataW.trod_bool Try.underlying4 h
  simp at e
  exact ⟨b, e⟩

theorem field_str {fs : Array Field} {cs : List Value} {xs : List (DataW H × List MemPlace)} {n : Nat} (hf : ∀ (i : Nat) (f : Field), fs[i]? = some f → DataW.trod enc Try.prog W base spare held n f.type ((cs.drop f.offset).take (Try.prog.cellsOf f.type)) = xs[i]?)
    (j : Nat) (f : Field) (h : fs[j]? = some f) (ht : f.type = 9) (ho : f.offset = j) (hj : j < cs.length) (hx : j < xs.length) : ∃ s : ByteArray, cs[j]? = some (.string s) ∧ s.size ≤ 9223372036854775807 := by
  have g := hf j f h
  rw [ht, ho, cells9, List.drop_eq_getElem_cons hj, List.take_succ_cons, List.take_zero] at g
  obtain ⟨s, e, z⟩ := str_cell g (by simp; omega)
  exact ⟨s, by rw [List.getElem?_eq_getElem hj, e], z⟩

theorem field_bool {fs : Array Field} {cs : List Value} {xs : List (DataW H × List MemPlace)} {n : Nat} (hf : ∀ (i : Nat) (f : Field), fs[i]? = some f → DataW.trod enc Try.prog W base spare held n f.type ((cs.drop f.offset).take (Try.prog.cellsOf f.type)) = xs[i]?)
    (j : Nat) (f : Field) (h : fs[j]? = some f) (ht : f.type = 4) (ho : f.offset = j) (hj : j < cs.length) (hx : j < xs.length) : ∃ b : Bool, cs[j]? = some (.bool b) := by
  have g := hf j f h
  rw [ht, ho, cells4, List.drop_eq_getElem_cons hj, List.take_succ_cons, List.take_zero] at g
  obtain ⟨b, e⟩ := bool_cell g (by simp; omega)
  exact ⟨b, by rw [List.getElem?_eq_getElem hj, e]⟩

theorem open_spec {fuel : Nat} {cs : List Value} {x : DataW H × List MemPlace} (h : DataW.trod enc Try.prog W base spare held fuel 61 cs = some x) : ∃ c : Spec, c.ok ∧ ∀ j, j < 17 → cs[j]? = some (c.cell j) := by
  obtain ⟨xs, n, _, _, hl, hxl, hf⟩ := DataW.trod_struct Try.underlying61 h
  have hx17 : xs.length = 17 := hxl
  rw [Try.cells61] at hl
  obtain ⟨s0, e0, z0⟩ := field_str hf 0 _ rfl rfl rfl (by omega) (by omega)
  obtain ⟨s1, e1, z1⟩ := field_str hf 1 _ rfl rfl rfl (by omega) (by omega)
  obtain ⟨b2, e2⟩ := field_bool hf 2 _ rfl rfl rfl (by omega) (by omega)
  obtain ⟨b3, e3⟩ := field_bool hf 3 _ rfl rfl rfl (by omega) (by omega)
  obtain ⟨b4, e4⟩ := field_bool hf 4 _ rfl rfl rfl (by omega) (by omega)
  obtain ⟨b5, e5⟩ := field_bool hf 5 _ rfl rfl rfl (by omega) (by omega)
  obtain ⟨s6, e6, z6⟩ := field_str hf 6 _ rfl rfl rfl (by omega) (by omega)
  obtain ⟨b7, e7⟩ := field_bool hf 7 _ rfl rfl rfl (by omega) (by omega)
  obtain ⟨s8, e8, z8⟩ := field_str hf 8 _ rfl rfl rfl (by omega) (by omega)
  obtain ⟨b9, e9⟩ := field_bool hf 9 _ rfl rfl rfl (by omega) (by omega)
  obtain ⟨s10, e10, z10⟩ := field_str hf 10 _ rfl rfl rfl (by omega) (by omega)
  obtain ⟨s11, e11, z11⟩ := field_str hf 11 _ rfl rfl rfl (by omega) (by omega)
  obtain ⟨b12, e12⟩ := field_bool hf 12 _ rfl rfl rfl (by omega) (by omega)
  obtain ⟨s13, e13, z13⟩ := field_str hf 13 _ rfl rfl rfl (by omega) (by omega)
  obtain ⟨s14, e14, z14⟩ := field_str hf 14 _ rfl rfl rfl (by omega) (by omega)
  obtain ⟨s15, e15, z15⟩ := field_str hf 15 _ rfl rfl rfl (by omega) (by omega)
  obtain ⟨s16, e16, z16⟩ := field_str hf 16 _ rfl rfl rfl (by omega) (by omega)
  refine ⟨⟨s0, s1, b2, b3, b4, b5, s6, b7, s8, b9, s10, s11, b12, s13, s14, s15, s16⟩, ⟨z0, z1, z6, z8, z10, z11, z13, z14, z15, z16⟩, fun j hj => ?_⟩
  have hcases : j = 0 ∨ j = 1 ∨ j = 2 ∨ j = 3 ∨ j = 4 ∨ j = 5 ∨ j = 6 ∨ j = 7 ∨ j = 8 ∨ j = 9 ∨ j = 10 ∨ j = 11 ∨ j = 12 ∨ j = 13 ∨ j = 14 ∨ j = 15 ∨ j = 16 := by omega
  rcases hcases with rfl | rfl | rfl | rfl | rfl | rfl | rfl | rfl | rfl | rfl | rfl | rfl | rfl | rfl | rfl | rfl | rfl <;> assumption

theorem open_specs {a : Option Addr} {len cap : Nat} {d : DataW H} {p : List MemPlace} (h : DataW.Trod enc Try.prog W 0 (fun _ => true) true 22 (.slice a len cap) d p) :
    ∃ S : Nat → Spec, Sp W W.heap.size a len S ∧ len ≤ 9223372036854775807 ∧ ∀ i, i < len → (S i).ok := by
  haveI : Inhabited Spec := ⟨Spec.zero⟩
  obtain ⟨fuel, hf⟩ := h
  rcases Go.Deep.open_slice Try.underlying22 hf with ⟨hcs, _⟩ | ⟨x, l, c, m, n, D, Pl, hcs, _, hl, hm, hmm, _, hx⟩
  · simp [Value.cells] at hcs
    obtain ⟨rfl, rfl, rfl⟩ := hcs
    exact ⟨fun _ => Spec.zero, .inl rfl, by omega, fun i hi => by omega⟩
  · simp [Value.cells] at hcs
    obtain ⟨rfl, rfl, rfl⟩ := hcs
    unfold maxLen at hm
    simp only [if_true] at hmm
    subst hmm
    rw [Try.cells61] at hx
    obtain ⟨S, hS⟩ := Go.Deep.choose_lt (α := Spec) (n := len) (p := fun i c => c.ok ∧ ∀ j, j < 17 → W.cell? (x.add (i * 17 + j)) = some (c.cell j)) (fun i hi => by
      obtain ⟨cs', h1, h2⟩ := hx i (by omega)
      obtain ⟨_, hlen, hcell⟩ := World.cells?_some h1
      obtain ⟨c, hok, hc⟩ := open_spec h2
      refine ⟨c, hok, fun j hj => ?_⟩
      rw [← Go.Deep.add_add, hcell j hj, hc j hj])
    refine ⟨S, rd_of_cells fun i hi => ?_, by omega, fun i hi => (hS i hi).1⟩
    have h1 := (hS (i / 17) (by omega)).2 (i % 17) (Nat.mod_lt _ (by omega))
    rw [show i / 17 * 17 + i % 17 = i by omega] at h1
    exact h1
end

set_option maxRecDepth 100000 in
theorem lifted (os : Os) (started : os.Started) (H : Type) (enc : TypeId × Value → H) :
    ReturnsInHanded {} Try.checked os 3 .any (Rows.fnCreateTableRelationsConcatSpec.pre6 enc Try.prog Try.f3 Rows.fnCreateTableRelationsConcatRow.domain false) (Rows.fnCreateTableRelationsConcatSpec.post enc Try.prog Try.f3 false true false false) := by
  refine returnsInHanded_of_change (C := Try.checked) own started (by kernel_rfl) Try.func3
    (ChangeSpec.witness6 (enc := enc) (C := Try.checked) false ⟨#[], #[.string ByteArray.empty, .slice none 0 0, .slice none 0 0], []⟩ 8 (by kernel_rfl) (by kernel_rfl) (by kernel_rfl) (by kernel_rfl)) ?_
  intro W base args ds gs before hval0 hW hcnd _
  have hval : ∀ (j : Nat) t v, Try.f3.params[j]? = some t → args[j]? = some v → Value.okWide Try.prog W .any base t v := hval0
  have hW' := hW
  obtain ⟨p, q, hA0, hV, rfl, hfz, hnd⟩ := hW
  have hA : DataW.TrodAll enc Try.prog W 0 (fun _ => true) true Try.f3.params.toList args.toList ds p := hA0
  rw [Try.params3] at hA hval
  obtain ⟨v0, vs0, d0, ds0, p0, q0, hargs, rfl, rfl, h0, r0⟩ := trodAll_cons hA
  obtain ⟨v1, vs1, d1, ds1, p1, q1, rfl, rfl, rfl, h1, r1⟩ := trodAll_cons r0
  obtain ⟨v2, vs2, d2, ds2, p2, q2, rfl, rfl, rfl, h2, r2⟩ := trodAll_cons r1
  obtain ⟨rfl, rfl, rfl⟩ := trodAll_nil r2
  obtain rfl : args = #[v0, v1, v2] := by cases args; simp_all
  obtain ⟨rfl, rfl⟩ := trodVars_none hV
  obtain ⟨a1, len1, cap1, rfl⟩ := okWide_slice Try.underlying22 (hval 1 22 v1 rfl rfl)
  obtain ⟨a2, len2, cap2, rfl⟩ := okWide_slice Try.underlying22 (hval 2 22 v2 rfl rfl)
  obtain ⟨s, rfl, rfl, rfl, w0⟩ := open_string Try.underlying9 (hval 0 9 v0 rfl rfl) h0
  have k1 := h1
  have lt1 : ∀ x ∈ p1, x.block < W.heap.size := by obtain ⟨m, hm⟩ := k1; exact DataW.trod_lt m _ _ _ hm
  have k2 := h2
  have lt2 : ∀ x ∈ p2, x.block < W.heap.size := by obtain ⟨m, hm⟩ := k2; exact DataW.trod_lt m _ _ _ hm
  obtain ⟨S, R1, B1, BS⟩ := open_specs h1
  obtain ⟨T, R2, B2, BT⟩ := open_specs h2
  have w0' : s.size ≤ 9223372036854775807 := by unfold maxLen at w0; omega
  clear hA0 hval0
  refine (law3 bc17 s a1 a2 len1 cap1 len2 cap2 S T W R1 R2 w0' B1 B2 BS BT).mono fun e W' ⟨he, bel⟩ => ?_
  subst he
  exact ⟨_, rfl, _, _, _, [], _, [], hW', trodAll_mk1 (shut_bool Try.underlying4 _), (trodAll_cons_mk (shut_string Try.underlying9 w0) (trodAll_cons_mk (Below.trod laidOut (by kernel_rfl) (of_decide_eq_true (by kernel_rfl)) k1 bel lt1) (trodAll_cons_mk (Below.trod laidOut (by kernel_rfl) (of_decide_eq_true (by kernel_rfl)) k2 bel lt2) trodAll_mk0))), rfl, bel.frame _, fun h => by cases h⟩

theorem provedD : Rows.FnCreateTableRelationsConcatSaid :=
  OpenClaim.holds_of_wide 3 Try.f3 rfl rfl rfl rfl rfl rfl rfl ⟨rfl, rfl, rfl, rfl, rfl⟩ rfl rfl rfl rfl rfl (by kernel_rfl) Try.func3 (by kernel_rfl)
    (of_decide_eq_true (by kernel_rfl)) (by unfold Func.isWrapper; first | (rw [if_pos (by decide +kernel)]; kernel_rfl) | (rw [if_neg (by decide +kernel)]; exact ⟨rfl, rfl⟩))
    (fun os started H enc _ => lifted os started H enc)
end Go.Proofs.Qxb6001546a

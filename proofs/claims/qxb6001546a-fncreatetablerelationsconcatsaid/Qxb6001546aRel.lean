import Derived.Test.Qxb6001546aColDef
import Derived.Laws.AppendOwnNone
namespace Go.Proofs.Qxb6001546a
open Go.RowKit
set_option linter.unusedVariables false

theorem new_cells' (W : World) (cs : List Value) (t : TypeId) (N : Nat) (hN : W.heap.size = N) : ∀ j u, cs[j]? = some u → (W.alloc (.cells cs.toArray t)).cell? ((⟨N, 0, none⟩ : Addr).add j) = some u := by
  intro j u hj
  subst hN
  rw [Addr.add_lit, Nat.zero_add]
  simp only [World.cell?, heap_alloc_new]
  simpa using hj

/-- the relations of a table. -/
def relL (name : ByteArray) (T : List (Option ByteArray)) : List ByteArray := name :: T.filterMap id
/-- a list of strings as cells. -/
def strs (N : List ByteArray) : Nat → Value := fun i => .string (N.getD i ByteArray.empty)

/-- what relations hands back. -/
def RelPost (w : World) (name : ByteArray) (T : List (Option ByteArray)) (e : Ending) (w' : World) : Prop :=
  ∃ g c, e = .returned (.slice (some ⟨g, 0, none⟩) (relL name T).length c) ∧ w'.ownsRow w.heap.size 9 1 (.slice (some ⟨g, 0, none⟩) (relL name T).length c) (relL name T).length ((relL name T).map .string) ∧ Below w.heap.size w w'

set_option maxHeartbeats 400000 in
theorem tb21n (w : World) : Calls Try.prog 21 #[.pointer none] w fun e w' => e = .returned (.slice none 0 0) ∧ w = w' := by
  go_enter Try.func21, Try.ntmps21
  go_wp2
  go_ret
  exact ⟨rfl, rfl⟩

set_option maxHeartbeats 400000 in
theorem tb21s (b : Nat) (s : ByteArray) (w : World) (h : w.cell? ⟨b, 1, none⟩ = some (.string s)) : Calls Try.prog 21 #[.pointer (some ⟨b, 0, none⟩)] w fun e w' => e = .returned (.slice (some ⟨w.heap.size, 0, none⟩) 1 1) ∧ w' = w.alloc (.cells #[.string s] 9) := by
  go_enter Try.func21, Try.ntmps21
  go_wp2
  go_ret
  exact ⟨rfl, rfl⟩

/-- the loop of relations: the names so far. -/
structure RlRel (w wr : World) (g c : Nat) (N : List ByteArray) : Prop where
  own : wr.ownsRow w.heap.size 9 1 (.slice (some ⟨g, 0, none⟩) N.length c) N.length (N.map .string)
  below : Below w.heap.size w wr

theorem RlRel.alloc {w wr : World} {g c : Nat} {N : List ByteArray} (h : RlRel w wr g c N) (o : Obj) : RlRel w (wr.alloc o) g c N := ⟨h.own.alloc o, h.below.alloc h.below.size o⟩

theorem RlRel.push {w W w3 : World} {g c : Nat} {N : List ByteArray} (h : RlRel w W g c N) {s : ByteArray} {v' : Value} (ho : w3.ownsRow w.heap.size 9 1 v' (N.length + 1) (N.map .string ++ [.string s])) (hg : W.grownBy w3 (Value.slice (some ⟨g, 0, none⟩) N.length c).ownBlock) :
    ∃ g' c', v' = .slice (some ⟨g', 0, none⟩) (N ++ [s]).length c' ∧ RlRel w w3 g' c' (N ++ [s]) := by
  rcases ho.2 with ⟨h0, h1⟩ | ⟨g', c', cur, h0, r⟩
  · omega
  · refine ⟨g', c', by rw [h0, List.length_append, List.length_singleton], ⟨?_, h.below.grown hg h.below.size fun j hj => (h.own.lt j hj).1⟩⟩
    rw [List.length_append, List.length_singleton, List.map_append, ← h0]
    exact ho

theorem relL_none {name : ByteArray} {T : List (Option ByteArray)} {k : Nat} (h : T[k]? = some none) : relL name (T.take (k + 1)) = relL name (T.take k) := by
  have e : T.take (k + 1) = T.take k ++ [none] := by rw [List.take_add_one, h]; rfl
  rw [e]; simp [relL]
theorem relL_some {name : ByteArray} {T : List (Option ByteArray)} {k : Nat} {s : ByteArray} (h : T[k]? = some (some s)) : relL name (T.take (k + 1)) = relL name (T.take k) ++ [s] := by
  have e : T.take (k + 1) = T.take k ++ [some s] := by rw [List.take_add_one, h]; rfl
  rw [e]; simp [relL]
theorem relL_le (name : ByteArray) (T : List (Option ByteArray)) (k : Nat) : (relL name (T.take k)).length ≤ k + 1 := by
  have h1 := List.length_filterMap_le id (T.take k)
  have h2 : (T.take k).length ≤ k := by rw [List.length_take]; omega
  simp only [relL, List.length_cons]
  omega

set_option maxHeartbeats 2000000 in
set_option maxRecDepth 100000 in
theorem rl18 (name : ByteArray) (t g cap base : Nat) (L : List Col) (T : List (Option ByteArray)) (w : World) (ht0 : w.cell? ⟨t, 0, none⟩ = some (.string name)) (ht1 : w.cell? ⟨t, 1, none⟩ = some (.slice (some ⟨g, 0, none⟩) L.length cap))
    (hC : Cols w base g cap L T) (hl : L.length ≤ 200000) : Calls Try.prog 18 #[.pointer (some ⟨t, 0, none⟩)] w (RelPost w name T) := by
  have HS : Hid (RlRel w (w.alloc (.cells #[.string name] 9)) w.heap.size 1 (relL name (T.take 0))) := ⟨World.ownsRow_lit w #[.string name] 1 (Nat.le_refl _) (by unfold maxLen; omega) rfl, (Below.refl _ _).alloc (Nat.le_refl _) _⟩
  obtain ⟨i0, hi0, hz0, hz1, hz2⟩ := info_parts Try.info9
  have hTL := hC.len
  have htl : t < w.heap.size := World.block_lt_of_cell? w _ ht0
  have ht2 : ∀ o, (w.alloc o).cell? ⟨t, 1, none⟩ = some (.slice (some ⟨g, 0, none⟩) L.length cap) := fun o => (((Below.refl _ w).alloc (Nat.le_refl _) o).cell (p := ⟨t, 1, none⟩) htl).trans ht1
  have hne1 : t ≠ w.heap.size := by omega
  have hne2 : w.heap.size ≠ t := by omega
  go_enter Try.func18, Try.ntmps18
  go_wp2
  go_loopw [3, 16] (fun v i wr => ∃ (k gn cn : Nat), i = .int .i64 k ∧ k ≤ L.length ∧ v = .slice (some ⟨gn, 0, none⟩) (relL name (T.take k)).length cn ∧ RlRel w wr gn cn (relL name (T.take k))) (fun _ i _ => L.length - (intOf i).toNat)
  case atStart => exact ⟨0, _, _, rfl, Nat.zero_le _, rfl, HS.out⟩
  case round =>
    obtain ⟨k, gn, cn, rfl, hk, rfl, hr⟩ := hrel
    by_cases hkn : k < L.length
    · obtain ⟨cc, hcc⟩ : ∃ cc, L[k]? = some cc := ⟨L[k], List.getElem?_eq_getElem hkn⟩
      obtain ⟨tt, htt⟩ : ∃ tt, T[k]? = some tt := ⟨T[k], List.getElem?_eq_getElem (by omega)⟩
      have A0 := hC.at hcc
      have href := hC.ref k cc tt hcc htt
      obtain ⟨hg1, hg2, _⟩ := hC.blk
      have kp : ∀ p, wr.cell? ⟨g, p, none⟩ = w.cell? ⟨g, p, none⟩ := fun p => hr.below.cell (p := ⟨g, p, none⟩) hg2
      obtain ⟨h0, h1, h2, h3, h4, h5, h6, h7, h8⟩ := A0
      rw [← kp] at h0 h1 h2 h3 h4 h5 h6 h7 h8
      clear kp hC HS hcc
      have hki : (k : Int) < (L.length : Int) := by omega
      have hle := relL_le name T k
      have hsz := hr.below.size
      obtain ⟨x0, x1, y2, y3, y4, p5, p6, p7, p8⟩ := cc
      simp only at h0 h1 h2 h3 h4 h5 h6 h7 h8 href
      cases tt with
      | none =>
        have HE : Hid (relL name (T.take (k + 1)) = relL name (T.take k)) := relL_none htt
        obtain rfl : p8 = none := href
        generalize hN : relL name (T.take k) = N at *
        go_wp2_with fail
        refine (tb21n _).mono ?_
        rintro e w' ⟨rfl, rfl⟩
        have R := hr.alloc (.cells #[.string x0, .string x1, .bool y2, .bool y3, .bool y4, .pointer p5, .pointer p6, .pointer p7, .pointer none] 50)
        clear hr h0 h1 h2 h3 h4 h5 h6 h7 h8
        go_wp2_with (at_builtin; refine wpList_append_own_none rfl _ _ 28 rfl w.heap.size 9 i0 1 Try.underlying28 hi0 _ N.length _ rfl R.own rfl ?_)
        go_wp2
        go_roundw
        case rel => exact ⟨k + 1, gn, cn, by go_num, hkn, by rw [HE.out], by rw [HE.out]; exact R⟩
        case measure => simp [intOf]; omega
      | some s =>
        have HE : Hid (relL name (T.take (k + 1)) = relL name (T.take k) ++ [s]) := relL_some htt
        obtain ⟨br, xx, yy, zz, rfl, hbr⟩ := href
        have hbr' : wr.heap[br]? = some (.cells #[.string xx, .string s, .string yy, .string zz] 54 (0, 0)) := (hr.below.block br (Array.getElem?_eq_some_iff.1 hbr).1).trans hbr
        generalize hN : relL name (T.take k) = N at *
        have R := hr.alloc (.cells #[.string x0, .string x1, .bool y2, .bool y3, .bool y4, .pointer p5, .pointer p6, .pointer p7, .pointer (some ⟨br, 0, none⟩)] 50)
        have hcell : (wr.alloc (.cells #[.string x0, .string x1, .bool y2, .bool y3, .bool y4, .pointer p5, .pointer p6, .pointer p7, .pointer (some ⟨br, 0, none⟩)] 50)).cell? ⟨br, 1, none⟩ = some (.string s) := by
          have hlt : br < wr.heap.size := (Array.getElem?_eq_some_iff.1 hbr').1
          have := ((Below.refl wr.heap.size wr).alloc (Nat.le_refl _) (.cells #[.string x0, .string x1, .bool y2, .bool y3, .bool y4, .pointer p5, .pointer p6, .pointer p7, .pointer (some ⟨br, 0, none⟩)] 50)).cell (p := ⟨br, 1, none⟩) hlt
          rw [this]
          simp [World.cell?, hbr']
        clear hbr hbr'
        go_wp2_with fail
        refine (tb21s br s _ hcell).mono ?_
        rintro e w' ⟨rfl, rfl⟩
        have R2 := R.alloc (.cells #[.string s] 9)
        clear hr h0 h1 h2 h3 h4 h5 h6 h7 h8 hcell
        go_wp2_with (at_builtin; refine wpList_append_own _ rfl _ _ 28 rfl w.heap.size 9 i0 (.string ByteArray.empty) 1 16 Try.underlying28 hi0 hz0 hz1 hz2 rfl (by decide) _ N.length (N.map .string) rfl ?ho _ 1 1 [.string s] rfl rfl ?c1 ?c2 ?c3 ?c4 ?c5 ?_)
        case ho => exact R2.own
        case c1 => first | exact fun j u h => h | exact new_cells' _ [.string s] 9 _ (by simp)
        case c2 => intro u hu; simp at hu; subst hu; rfl
        case c3 => unfold maxLen; omega
        case c4 => omega
        case c5 => have := R2.below.size; first | exact this | (simp; omega) | omega
        intro v' w3 hown' hgrow hnn
        obtain ⟨g', c', hv, R3⟩ := R2.push hown' hgrow
        clear hown' hgrow hnn R R2
        rw [hv]
        go_wp2
        go_roundw
        case rel => exact ⟨k + 1, g', c', by go_num, hkn, by rw [HE.out], by rw [HE.out]; exact R3⟩
        case measure => simp [intOf]; omega
    · have e : k = L.length := by omega
      have HE : Hid (T.take k = T) := by show T.take k = T; rw [e, ← hTL]; exact List.take_length
      rw [HE.out] at hr
      rw [HE.out]
      have HO := hr.own
      have HBl := hr.below
      clear hr HS hC
      go_wp2
      go_ret
      exact ⟨gn, cn, rfl, HO, HBl⟩

set_option maxHeartbeats 400000 in
theorem zr9 (name : ByteArray) (t g cap base : Nat) (L : List Col) (T : List (Option ByteArray)) (w : World) (ht0 : w.cell? ⟨t, 0, none⟩ = some (.string name)) (ht1 : w.cell? ⟨t, 1, none⟩ = some (.slice (some ⟨g, 0, none⟩) L.length cap))
    (hC : Cols w base g cap L T) (hl : L.length ≤ 200000) : Calls Try.prog 9 #[.pointer (some ⟨t, 0, none⟩)] w (RelPost w name T) := by
  go_enter Try.func9, Try.ntmps9
  go_wp2_with fail
  refine (rl18 name t g cap base L T w ht0 ht1 hC hl).mono ?_
  rintro e w' ⟨g', c', rfl, ho, hb⟩
  go_wp2
  go_ret
  exact ⟨g', c', rfl, ho, hb⟩
end Go.Proofs.Qxb6001546a

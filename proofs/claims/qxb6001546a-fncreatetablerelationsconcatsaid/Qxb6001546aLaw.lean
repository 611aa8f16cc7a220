import Derived.Test.Qxb6001546aGuards
import Derived.Test.Qxb6001546aZz
import Derived.Test.Qxb6001546aClone
import Derived.Test.Qxb6001546aBuild
import Derived.Test.Qxb6001546aRel
namespace Go.Proofs.Qxb6001546a
open Go.RowKit
set_option linter.unusedVariables false

theorem new2 (W : World) (x y : Value) (t : TypeId) : (W.alloc (.cells #[x, y] t)).cell? ⟨W.heap.size, 0, none⟩ = some x ∧ (W.alloc (.cells #[x, y] t)).cell? ⟨W.heap.size, 1, none⟩ = some y := by
  simp only [World.cell?, heap_alloc_new]
  exact ⟨rfl, rfl⟩

theorem own_rd {w : World} {base g c : Nat} {N : List ByteArray} (h : w.ownsRow base 9 1 (.slice (some ⟨g, 0, none⟩) N.length c) N.length (N.map .string)) : Rd w w.heap.size (some ⟨g, 0, none⟩) N.length (strs N) := by
  refine .inr ⟨g, 0, rfl, (h.lt g rfl).2, fun i hi => ?_⟩
  rw [Nat.zero_add, h.cellAt i (by omega), List.getElem?_map, strs, List.getElem?_eq_getElem hi]
  simp [List.getD, List.getElem?_eq_getElem hi]

theorem rowL_one (L : List Col) : ∀ u ∈ rowL L, u.oneCell' = true := by
  intro u hu
  simp only [rowL, List.mem_flatMap] at hu
  obtain ⟨c, _, hc⟩ := hu
  simp [Col.list] at hc
  rcases hc with rfl | rfl | rfl | rfl | rfl | rfl | rfl | rfl | rfl <;> rfl

theorem cab_grow {w8 w9 : World} {base base4 g3 cap3 g4 cap4 n m : Nat} {L3 L4 : List Col} {T3 T4 : List (Option ByteArray)} {v' : Value} (C3 : Cols w8 base g3 cap3 L3 T3) (C4 : Cols w8 base4 g4 cap4 L4 T4) (e3 : L3.length = n) (e4 : L4.length = m)
    (ho : w9.ownsRow base 50 9 v' (n + m) (rowL L3 ++ rowL L4)) (hg : w8.grownBy w9 (Value.slice (some ⟨g3, 0, none⟩) n cap3).ownBlock) (hv : ¬ v' = .slice none 0 0) :
    ∃ g' cap', v' = .slice (some ⟨g', 0, none⟩) (n + m) cap' ∧ Cols w9 base g' cap' (L3 ++ L4) (T3 ++ T4) := by
  subst e3
  subst e4
  exact C3.grow C4.len C4.ref rfl ho hg ⟨fun h => absurd h hv, fun h => by simp at h⟩

theorem rel_cat (nm : ByteArray) (T U : List (Option ByteArray)) : relL nm (T ++ U) = relL nm T ++ (relL nm U).tail := by simp [relL]

theorem rel_len (nm : ByteArray) (T U : List (Option ByteArray)) : (relL nm (T ++ U)).length + 1 = (relL nm T).length + (relL nm U).length := by
  simp [relL]; omega

/-- a string of a list. -/
def gs (N : List ByteArray) (i : Nat) : ByteArray := N.getD i ByteArray.empty

theorem gs_left (nm : ByteArray) (T U : List (Option ByteArray)) (i : Nat) (hi : i < (relL nm T).length) : gs (relL nm (T ++ U)) i = gs (relL nm T) i := by
  unfold gs
  rw [rel_cat, List.getD_eq_getElem?_getD, List.getElem?_append_left hi, ← List.getD_eq_getElem?_getD]

theorem gs_right (nm : ByteArray) (T U : List (Option ByteArray)) (j p : Nat) (hj : 1 ≤ j) (hp : p + 1 = (relL nm T).length + j) : gs (relL nm (T ++ U)) p = gs (relL nm U) j := by
  unfold gs
  rw [rel_cat, List.getD_eq_getElem?_getD, List.getElem?_append_right (by omega), List.getElem?_tail, show p - (relL nm T).length + 1 = j by omega, ← List.getD_eq_getElem?_getD]

theorem rel_head (nm : ByteArray) (T : List (Option ByteArray)) : gs (relL nm T) 0 = nm ∧ 1 ≤ (relL nm T).length := by
  constructor
  · rfl
  · simp [relL]

theorem sz_al (W : World) (o : Obj) : (W.alloc o).heap.size = W.heap.size + 1 := by simp

theorem rd_cells {w : World} {B g n : Nat} {N : List ByteArray} (h : Rd w B (some ⟨g, 0, none⟩) n (strs N)) : ∀ i, i < n → w.cell? ⟨g, i, none⟩ = some (.string (gs N i)) := by
  intro i hi
  obtain ⟨b, o, e, _, hc⟩ := h.at hi
  simp only [Option.some.injEq, Addr.mk.injEq, and_true] at e
  obtain ⟨rfl, rfl⟩ := e
  rw [Nat.zero_add] at hc
  exact hc

theorem rel_small (nm : ByteArray) (T : List (Option ByteArray)) : (relL nm T).length ≤ T.length + 1 := by
  have h1 := List.length_filterMap_le id T
  simp only [relL, List.length_cons]
  omega

theorem refs_len (S : Nat → Spec) (n : Nat) : (refs S n).length = n := by simp [refs]

/-- what the law says. -/
def LawPost (w : World) (e : Ending) (w' : World) : Prop := e = .returned (.bool true) ∧ Below w.heap.size w w'

set_option maxHeartbeats 4000000 in
set_option maxRecDepth 100000 in
theorem law3 (H17 : Hid (∀ (c : Spec) (w : World), Calls Try.prog 17 #[c.val] w (BcPost w c.ref))) (nm : ByteArray) (a1 a2 : Option Addr) (n c1 m c2 : Nat) (S T : Nat → Spec) (w : World) (h1 : Sp w w.heap.size a1 n S) (h2 : Sp w w.heap.size a2 m T)
    (b0 : nm.size ≤ 9223372036854775807) (b1 : n ≤ 9223372036854775807) (b2 : m ≤ 9223372036854775807) (hs : Hid (∀ i, i < n → (S i).ok)) (ht : Hid (∀ i, i < m → (T i).ok)) :
    Calls Try.prog 3 #[.string nm, .slice a1 n c1, .slice a2 m c2] w (LawPost w) := by
  by_cases g0 : nm.size ≤ 1048576
  case neg =>
    go_enter Try.func3, Try.ntmps3
    go_wp2_with fail
    refine (zz5 nm a1 a2 n c1 m c2 S T w _ h1 h2 b0 b1 b2 hs ht).mono ?_
    rintro e w' ⟨⟨b, rfl⟩, rfl⟩
    cases b
    all_goals (go_wp2; go_ret; exact ⟨rfl, Below.refl _ _⟩)
  by_cases g1 : n ≤ 65536
  case neg =>
    go_enter Try.func3, Try.ntmps3
    go_wp2_with fail
    refine (zz5 nm a1 a2 n c1 m c2 S T w _ h1 h2 b0 b1 b2 hs ht).mono ?_
    rintro e w' ⟨⟨b, rfl⟩, rfl⟩
    cases b
    all_goals (go_wp2; go_ret; exact ⟨rfl, Below.refl _ _⟩)
  by_cases g2 : m ≤ 65536
  case neg =>
    go_enter Try.func3, Try.ntmps3
    go_wp2_with fail
    refine (zz5 nm a1 a2 n c1 m c2 S T w _ h1 h2 b0 b1 b2 hs ht).mono ?_
    rintro e w' ⟨⟨b, rfl⟩, rfl⟩
    cases b
    all_goals (go_wp2; go_ret; exact ⟨rfl, Below.refl _ _⟩)
  go_enter Try.func3, Try.ntmps3
  go_wp2_with fail
  refine (zz5 nm a1 a2 n c1 m c2 S T w _ h1 h2 b0 b1 b2 hs ht).mono ?_
  rintro e w' ⟨⟨b, rfl⟩, rfl⟩
  cases b with
  | false =>
    go_wp2
    go_ret
    exact ⟨rfl, Below.refl _ _⟩
  | true =>
    go_wp2_with fail
    refine (sb6 a1 n c1 S w _ (Nat.le_refl _) h1 g1 hs).mono ?_
    rintro e w1 ⟨⟨y1, rfl, p1, q1⟩, d1⟩
    have s1 := d1.size
    have h2' := Rd.keep h2 d1
    have h1' := Rd.keep h1 d1
    clear h1 h2
    go_wp2_with fail
    refine (sb6 a2 m c2 T w1 _ s1 h2' g2 ht).mono ?_
    rintro e w2 ⟨⟨y2, rfl, p2, q2⟩, d2⟩
    have s2 := d2.size
    have d02 : Below w.heap.size w w2 := d1.trans (d2.mono s1)
    have h1 := Rd.keep h1' (d2.mono s1)
    have h2 := Rd.keep h2' (d2.mono s1)
    clear h1' h2' d1 d2 hs ht
    by_cases gg : (nm.size : Int) + y1 + y2 ≤ 1048576
    case neg =>
      go_wp2
      go_ret
      exact ⟨rfl, d02⟩
    go_wp2_with fail
    refine (cl7 a1 n c1 S w2 _ (by omega) h1 g1).mono ?_
    rintro e w3 ⟨x1, z1, rfl, k1, d3⟩
    have s3 := d3.size
    have h2' := Rd.keep h2 (d3.mono (by omega))
    clear h1 h2
    go_wp2_with fail
    refine (cl7 a2 m c2 T w3 _ (by omega) h2' g2).mono ?_
    rintro e w4 ⟨x2, z2, rfl, k2, d4⟩
    have s4 := d4.size
    have k1' := (Rd.keep k1 d4).mono s4
    have d04 : Below w.heap.size w w4 := (d02.trans (d3.mono (by omega))).trans (d4.mono (by omega))
    clear h2' d02 d3 d4 k1
    go_wp2_with fail
    refine (bs8 H17.out x1 n z1 S w4 _ (Nat.le_refl _) k1' g1).mono ?_
    rintro e w5 ⟨ga, pa, La, rfl, la, Ca, d5⟩
    have s5 := d5.size
    have k1 := (Rd.keep k1' d5)
    have k2' := (Rd.keep k2 d5)
    clear k1' k2
    go_wp2_with fail
    refine (bs8 H17.out x2 m z2 T w5 _ s5 k2' g2).mono ?_
    rintro e w6 ⟨gb, pb, Lb, rfl, lb, Cb, d6⟩
    have s6 := d6.size
    have k1' := (Rd.keep k1 (d6.mono s5))
    have k2 := (Rd.keep k2' (d6.mono s5))
    have Ca6 := Ca.keep d6
    have d06 : Below w.heap.size w w6 := (d04.trans (d5.mono (by omega))).trans (d6.mono (by omega))
    clear k1 k2' Ca d04 d5 d6
    go_wp2_with fail
    refine (bs8 H17.out x1 n z1 S w6 _ (by omega) k1' g1).mono ?_
    rintro e w7 ⟨gc, pc, Lc, rfl, lc, Cc, d7⟩
    have s7 := d7.size
    have k2' := (Rd.keep k2 (d7.mono (by omega)))
    clear k1' k2
    go_wp2_with fail
    refine (bs8 H17.out x2 m z2 T w7 _ (by omega) k2' g2).mono ?_
    rintro e w8 ⟨gd, pd, Ld, rfl, ld, Cd, d8⟩
    have s8 := d8.size
    have Cc8 := Cc.keep d8
    have d68 : Below w6.heap.size w6 w8 := d7.trans (d8.mono s7)
    have O3 : w8.ownsRow w6.heap.size 50 9 (.slice (some ⟨gc, 0, none⟩) n pc) n (rowL Lc) := by have := Cc8.own; rw [lc] at this; exact this
    have O4 := Cd.own.cells (g := gd) rfl
    have hln : (rowL Ld).length = m * 9 := by rw [rowL_len, ld]
    have hO4 : Hid _ := O4
    have hlc : Hid (Lc.length = n) := lc
    have hld : Hid (Ld.length = m) := ld
    have hla : Hid (La.length = n) := la
    have hlb : Hid (Lb.length = m) := lb
    clear k2' Cc d7 d8 O4 lc ld la lb
    obtain ⟨i0, hi0, hz0, hz1, hz2⟩ := info_parts Try.info50
    go_wp2_with (at_builtin; refine wpList_append_own _ rfl _ _ 26 rfl w6.heap.size 50 i0 _ 9 72 Try.underlying26 hi0 hz0 hz1 hz2 rfl (by decide) _ n (rowL Lc) rfl ?ho ⟨gd, 0, none⟩ m pd (rowL Ld) rfl ?c0 ?c1 ?c2 ?c3 ?c4 ?c5 ?_)
    case ho => exact O3
    case c0 => exact hln
    case c1 => exact hO4.out
    case c2 => exact rowL_one Ld
    case c3 => unfold maxLen; omega
    case c4 => omega
    case c5 => omega
    intro v' w9 hown' hgrow hnn
    have d69 : Below w6.heap.size w6 w9 := d68.grown hgrow d68.size fun j hj => (O3.lt j hj).1
    obtain ⟨ge, pe, rfl, Ce⟩ := cab_grow Cc8 Cd hlc.out hld.out hown' hgrow (by first | exact hnn | (intro hh; have := hnn.1 hh; simp at this))
    have Ca9 := Ca6.keep d69
    have Cb9 := Cb.keep d69
    have d09 : Below w.heap.size w w9 := d06.trans (d69.mono (by omega))
    have s9 := d69.size
    clear hown' hgrow hnn O3 hO4 Cc8 Cd d68 d69 Ca6 Cb d06 hln
    have hle : (Lc ++ Ld).length = n + m := by rw [List.length_append, hlc.out, hld.out]
    have Hle : Hid _ := hle
    clear hle
    have e1 := new2 w9 (.string nm) (.slice (some ⟨ga, 0, none⟩) n pa) 32
    rw [← hla.out] at e1
    have f9 : Below w9.heap.size w9 (w9.alloc (Obj.cells #[.string nm, .slice (some ⟨ga, 0, none⟩) n pa] 32)) := (Below.refl _ w9).alloc (Nat.le_refl _) _
    have R1 := zr9 nm w9.heap.size ga pa _ La (refs S n) _ e1.1 e1.2 (Ca9.keep (by rw [hla.out]; exact f9)) (by rw [hla.out]; omega)
    rw [hla.out] at R1
    clear e1
    go_wp2_with fail
    refine R1.mono ?_
    rintro e w10 ⟨g1', p1', rfl, r1, d10⟩
    have s10 := d10.size
    rw [sz_al] at s10
    have t9 : Below w9.heap.size w9 w10 := f9.trans (d10.mono f9.size)
    have Cb10 := Cb9.keep t9
    have Ce10 := Ce.keep t9
    have d010 : Below w.heap.size w w10 := d09.trans (t9.mono (by omega))
    have r1' := own_rd r1
    clear R1 f9 t9 Ca9 Cb9 Ce d09 d10 r1
    have e1 := new2 w10 (.string nm) (.slice (some ⟨gb, 0, none⟩) m pb) 32
    rw [← hlb.out] at e1
    have f10 : Below w10.heap.size w10 (w10.alloc (Obj.cells #[.string nm, .slice (some ⟨gb, 0, none⟩) m pb] 32)) := (Below.refl _ w10).alloc (Nat.le_refl _) _
    have R2 := zr9 nm w10.heap.size gb pb _ Lb (refs T m) _ e1.1 e1.2 (Cb10.keep (by rw [hlb.out]; exact f10)) (by rw [hlb.out]; omega)
    rw [hlb.out] at R2
    clear e1
    go_wp2_with fail
    refine R2.mono ?_
    rintro e w11 ⟨g2', p2', rfl, r2, d11⟩
    have s11 := d11.size
    rw [sz_al] at s11
    have t10 : Below w10.heap.size w10 w11 := f10.trans (d11.mono f10.size)
    have Ce11 := Ce10.keep t10
    have d011 : Below w.heap.size w w11 := d010.trans (t10.mono (by omega))
    have r1 := r1'.keep t10
    have r2' := own_rd r2
    clear R2 f10 t10 Cb10 Ce10 d010 d11 r2 r1'
    have e1 := new2 w11 (.string nm) (.slice (some ⟨ge, 0, none⟩) (n + m) pe) 32
    rw [← Hle.out] at e1
    have f11 : Below w11.heap.size w11 (w11.alloc (Obj.cells #[.string nm, .slice (some ⟨ge, 0, none⟩) (n + m) pe] 32)) := (Below.refl _ w11).alloc (Nat.le_refl _) _
    have R3 := zr9 nm w11.heap.size ge pe _ (Lc ++ Ld) (refs S n ++ refs T m) _ e1.1 e1.2 (Ce11.keep (by rw [Hle.out]; exact f11)) (by rw [Hle.out]; omega)
    rw [Hle.out] at R3
    clear e1
    go_wp2_with fail
    refine R3.mono ?_
    rintro e w12 ⟨g3', p3', rfl, r3, d12⟩
    have s12 := d12.size
    rw [sz_al] at s12
    have t11 : Below w11.heap.size w11 w12 := f11.trans (d12.mono f11.size)
    have d012 : Below w.heap.size w w12 := d011.trans (t11.mono (by omega))
    have u1 : Hid _ := rd_cells ((r1.mono (show w10.heap.size ≤ w11.heap.size by omega)).keep t11)
    have u2 : Hid _ := rd_cells (r2'.keep t11)
    have u3 : Hid _ := rd_cells (own_rd r3)
    have hL := rel_len nm (refs S n) (refs T m)
    obtain ⟨e10, e11⟩ := rel_head nm (refs S n)
    obtain ⟨e20, e21⟩ := rel_head nm (refs T m)
    have e3 := rel_small nm (refs S n)
    have e4 := rel_small nm (refs T m)
    rw [refs_len] at e3 e4
    have hleft : Hid _ := gs_left nm (refs S n) (refs T m)
    have hright : Hid _ := gs_right nm (refs S n) (refs T m)
    have Dn : Hid _ := d012
    have c10 := u1.out 0 (by omega)
    have c20 := u2.out 0 (by omega)
    rw [e10] at c10
    rw [e20] at c20
    clear R3 f11 t11 Ce11 d011 d12 r3 r1 r2' d012 hla hlb hlc hld Hle s1 s2 s3 s4 s5 s6 s7 s8 s9 s10 s11 s12 p1 p2 q1 q2 gg e10 e20
    generalize gs (relL nm (refs S n)) = F1 at *
    generalize gs (relL nm (refs T m)) = F2 at *
    generalize gs (relL nm (refs S n ++ refs T m)) = F3 at *
    generalize (relL nm (refs S n)).length = la at *
    generalize (relL nm (refs T m)).length = lb at *
    generalize (relL nm (refs S n ++ refs T m)).length = lab at *
    have i1 : (0 : Int) < (la : Int) := by omega
    have i2 : (0 : Int) < (lb : Int) := by omega
    have i1' : 0 < la := by omega
    have i2' : 0 < lb := by omega
    have i3 : (lab : Int) = (la : Int) + (lb : Int) - 1 := by omega
    have i4 : ((lab : Int) != (la : Int) + (lb : Int) - 1) = false := by simp [i3]
    have f1 : decide ((la : Int) < 1) = false := decide_eq_false (by omega)
    have f2 : decide ((lb : Int) < 1) = false := decide_eq_false (by omega)
    go_wp2
    go_loopw [13] (fun i wr => ∃ j : Nat, j ≤ la ∧ i = .int .i64 j ∧ Hid (∃ q, wr = w12.drewN q)) (fun i _ => la - (intOf i).toNat)
    case atStart => exact ⟨0, Nat.zero_le _, rfl, 0, rfl⟩
    case round =>
      obtain ⟨j, hj, rfl, q, rfl⟩ := hrel
      by_cases hjn : j < la
      · have v1 := u1.out j hjn
        have v3 := u3.out j (by omega)
        rw [hleft.out j hjn] at v3
        have hji : (j : Int) < (la : Int) := by omega
        have hji3 : (j : Int) < (lab : Int) := by omega
        generalize F1 j = tt at *
        go_wp2
        go_quiet (fail)
        go_wp2
        go_roundw
        case rel => exact ⟨j + 1, by omega, by go_num, _, rfl⟩
        case measure => simp [intOf]; omega
      · go_wp2
        go_loopw [14] (fun i wr => ∃ j : Nat, 1 ≤ j ∧ j ≤ lb ∧ i = .int .i64 j ∧ Hid (∃ q, wr = w12.drewN q)) (fun i _ => lb - (intOf i).toNat)
        case atStart => exact ⟨1, Nat.le_refl _, by omega, rfl, q, rfl⟩
        case round =>
          clear hj hjn
          obtain ⟨k, hk1, hk, rfl, q', rfl⟩ := hrel
          by_cases hkn : k < lb
          · obtain ⟨p, hp⟩ : ∃ p, p + 1 = la + k := ⟨la + k - 1, by omega⟩
            have v2 := u2.out k hkn
            have v3 := u3.out p (by omega)
            rw [hright.out k p hk1 hp] at v3
            have hki : (k : Int) < (lb : Int) := by omega
            have hpi : (p : Int) < (lab : Int) := by omega
            have w1' : IntKind.i64.wrap ((la : Int) + (k : Int)) = (la : Int) + (k : Int) := IntWalk.i64_in _ (by omega)
            have w2' : IntKind.i64.wrap ((la : Int) + (k : Int) - 1) = (p : Int) := by rw [IntWalk.i64_in _ (by omega)]; omega
            generalize F2 k = tt at *
            clear hp
            go_wp2
            go_quiet (fail)
            go_wp2
            go_roundw
            case rel => exact ⟨k + 1, by omega, by omega, by go_num, _, rfl⟩
            case measure => simp [intOf]; omega
          · go_wp2
            go_ret
            exact ⟨rfl, below_drewN Dn.out q'⟩
end Go.Proofs.Qxb6001546a

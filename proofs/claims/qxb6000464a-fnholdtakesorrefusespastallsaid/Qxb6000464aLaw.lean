import Derived.Test.Qxb6000464aSnapB
import Derived.Deep.RegionWith
namespace Go.Proofs.Qxb6000464a
open Go.RowKit
set_option linter.unusedVariables false

/-- what the law says. -/
def LawPost (w : World) (e : Ending) (w' : World) : Prop := e = .returned (.bool true) ∧ Below w.heap.size w w'

theorem Rn.frame {w w' : World} {lo bt : Nat} {a : Option Addr} {n : Nat} {f : Nat → Value} (h : Rn w lo a n f) (hb : bt < lo) (hf : Fr bt w w') : Rn w' lo a n f := by
  rcases h with h | ⟨b, off, e, h1, hB, hc⟩
  · exact .inl h
  · refine .inr ⟨b, off, e, h1, Nat.lt_of_lt_of_le hB hf.1.size, fun i hi => ?_⟩
    rw [← hc i hi]
    exact World.cell?_of_block (w := w) (hf.2 b hB (by omega))

/-- the first loop: what is held so far. -/
structure LpRel (w wr : World) (bt M : Nat) (a : Option Addr) (c : Nat) (L : List Piece) : Prop where
  asm : Asm wr bt (.slice a L.length c)
  hd : Hd wr 0 a c L
  len : L.length ≤ 256
  bd : ∀ p ∈ L, p.off + p.oct.length ≤ M
  below : Below bt w wr

/-- what is read in the first loop. -/
structure Ins (w : World) (B : Nat) (a1 a2 : Option Addr) (n m : Nat) (ol : List Int) (key : Nat → List Int) (A : Nat → Option Addr) (C : Nat → Nat) : Prop where
  off : Rd w B a1 n (ci .i64 ol)
  keys : Keys w B a2 m key A C
  caps : ∀ i, i < m → (key i).length ≤ C i
  small : ∀ i, i < n → i < m → 0 ≤ ol.getD i 0 ∧ ol.getD i 0 ≤ 65536
  lens : ∀ i, i < m → (key i).length ≤ 1048576

theorem LpRel.after {w wr w' : World} {bt M off : Nat} {a : Option Addr} {c : Nat} {l : List Int} {L : List Piece} {e : Ending} (h : LpRel w wr bt M a c L) (hp : HoPost wr bt off l L M e w') : ∃ ok a' c' L', e = .returned (.bool ok) ∧ LpRel w w' bt M a' c' L' := by
  obtain ⟨ok, a', c', L', he, h1, h2, h3, h4, h5, _⟩ := hp
  exact ⟨ok, a', c', L', he, h1, h2, h3, h4, h.below.trans h5.1⟩

theorem LpRel.drewN {w wr : World} {bt M : Nat} {a : Option Addr} {c : Nat} {L : List Piece} (h : LpRel w wr bt M a c L) (q : Nat) : LpRel w (wr.drewN q) bt M a c L := ⟨h.asm, h.hd.drewN q, h.len, h.bd, below_drewN h.below q⟩

set_option maxHeartbeats 4000000 in
set_option maxRecDepth 100000 in
theorem law7 (a1 a2 a4 : Option Addr) (n c1 m c2 c4 : Nat) (ol : List Int) (key : Nat → List Int) (A : Nat → Option Addr) (C : Nat → Nat) (gap : Int) (tl : List Int) (w : World) (h1 : Rd w w.heap.size a1 n (ci .i64 ol)) (h2 : Keys w w.heap.size a2 m key A C) (h4 : Rd w w.heap.size a4 tl.length (ci .u8 tl))
    (b1 : n ≤ 9223372036854775807) (b2 : m ≤ 9223372036854775807) (b4 : tl.length ≤ 9223372036854775807) (bk : Hid (∀ i, i < m → (key i).length ≤ 9223372036854775807)) (g0 : -9223372036854775808 ≤ gap) (g1 : gap ≤ 9223372036854775807) :
    Calls Try.prog 7 #[.slice a1 n c1, .slice a2 m c2, .int .i64 gap, .slice a4 tl.length c4] w (LawPost w) := by
  go_enter Try.func7, Try.ntmps7
  go_wp2_with fail
  refine (zz26 a1 a2 a4 n c1 m c2 tl.length c4 gap key A C w _ h2 b1 b2 b4 bk).mono ?_
  rintro e w' ⟨⟨b, rfl, hz⟩, rfl⟩
  cases b with
  | false =>
    clear hz h1 h2 h4 bk
    go_wp2
    go_ret
    exact ⟨rfl, Below.refl _ _⟩
  | true =>
    obtain ⟨z1, z2, z4, zk⟩ := hz rfl
    have ZK : Hid _ := zk
    clear hz zk bk
    go_wp2_with fail
    refine (hf15 a1 a2 n c1 m c2 tl.length ol key A C w _ h1 h2 z1 z2 z4 ZK).mono ?_
    rintro e w' ⟨⟨b, rfl, hz⟩, rfl⟩
    cases b with
    | false =>
      clear hz h1 h2 h4 ZK
      go_wp2
      go_ret
      exact ⟨rfl, Below.refl _ _⟩
    | true =>
      obtain ⟨y1, y2, yo⟩ := hz rfl
      have YO : Hid _ := yo
      clear hz yo
      by_cases p1 : gap < 0
      case pos =>
        go_wp2
        go_ret
        exact ⟨rfl, Below.refl _ _⟩
      by_cases p2 : 65536 < gap
      case pos =>
        go_wp2
        go_ret
        exact ⟨rfl, Below.refl _ _⟩
      by_cases p3 : tl.length = 0
      case pos =>
        have p3' : ((tl.length : Int) == 0) = true := by simp [p3]
        go_wp2
        go_ret
        exact ⟨rfl, Below.refl _ _⟩
      have p3' : ((tl.length : Int) == 0) = false := beq_eq_false_iff_ne.2 (by omega)
      obtain ⟨gp, rfl⟩ : ∃ gp : Nat, gap = (gp : Int) := ⟨gap.toNat, by omega⟩
      go_wp2_with fail
      refine (ci16 a1 n c1 ol w _ (Nat.le_refl _) h1 (by omega) h1.nil).mono ?_
      rintro e w1 ⟨x1, k1, rfl, r1, _, d1⟩
      have s1 := d1.size
      have h2' := h2.keep d1
      have h4' := h4.keep d1
      clear h1 h2 h4
      go_wp2_with fail
      refine (ck17 a2 m c2 key A C w1 _ s1 h2' (by omega) ZK).mono ?_
      rintro e w2 ⟨x2, k2, A2, C2, rfl, r2, caps, d2⟩
      have s2 := d2.size
      have r1' := r1.rd.keep d2
      have h4 := h4'.keep (d2.mono s1)
      clear r1 h2' h4'
      go_wp2_with fail
      refine (cb11 a4 tl.length c4 tl w2 _ (by omega) h4 (by omega) h4.nil).mono ?_
      rintro e w3 ⟨x4, k4, rfl, r4, cap4, d3⟩
      have s3 := d3.size
      have I3 : Ins w3 w3.heap.size x1 x2 n m ol key A2 C2 := ⟨(r1'.mono s2).keep d3 |>.mono s3, (r2.keep d3).mono s3, caps, YO.out, ZK.out⟩
      have t3 : Rd w3 w3.heap.size x4 tl.length (ci .u8 tl) := r4.rd
      have d03 : Below w.heap.size w w3 := (d1.trans (d2.mono s1)).trans (d3.mono (by omega))
      clear r1' r2 caps h4 r4 d1 d2 d3 YO ZK
      rcases Nat.lt_or_ge m n with hmn | hmn
      all_goals
        go_wp2_with fail
        refine (nw18 w3).mono ?_
        rintro e w4 ⟨rfl, hA, d4, s4⟩
        obtain ⟨bt, hbt⟩ : ∃ bt, bt = w3.heap.size := ⟨_, rfl⟩
        rw [← hbt] at I3 t3 hA d4 s4 ⊢
        have I4 : Hid (Ins w4 bt x1 x2 n m ol key A2 C2) := ⟨I3.off.keep d4, I3.keys.keep d4, I3.caps, I3.small, I3.lens⟩
        have t4 : Hid (Rd w4 bt x4 tl.length (ci .u8 tl)) := t3.keep d4
        have d04 : Hid (Below w.heap.size w w4) := d03.trans (d4.mono (by omega))
        have hws : w.heap.size ≤ bt := by omega
        have R0 : Hid (LpRel w4 w4 bt 1114112 none 0 []) := ⟨hA, Hd.nil _ _, by simp, fun p hp => by simp at hp, Below.refl _ _⟩
        clear I3 t3 d4 d03 hA hbt
        go_wp2
        go_loopw [11] (fun i wr => ∃ (k : Nat) (a : Option Addr) (c : Nat) (L : List Piece), k ≤ n ∧ k ≤ m ∧ i = .int .i64 k ∧ Hid (LpRel w4 wr bt 1114112 a c L)) (fun i _ => n + m - (intOf i).toNat)
        case atStart => exact ⟨0, none, 0, [], Nat.zero_le _, Nat.zero_le _, rfl, R0.out⟩
        case round =>
          obtain ⟨k, a, c, L, hk1, hk2, rfl, hr⟩ := hrel
          by_cases hkn : k < n ∧ k < m
          · obtain ⟨hk3, hk4⟩ := hkn
            have hki : (k : Int) < (n : Int) := by omega
            have hki2 : (k : Int) < (m : Int) := by omega
            obtain ⟨b1', o1, e1, hb1, hc1⟩ := (I4.out.off.keep hr.out.below).at hk3
            obtain ⟨b2', o2, e2, hb2, hc2⟩ := (I4.out.keys.rd.keep hr.out.below).at hk4
            have hrow := (I4.out.keys.row k hk4).keep hr.out.below
            obtain ⟨sm1, sm2⟩ := I4.out.small k hk3 hk4
            have hln := I4.out.lens k hk4
            have hcp := I4.out.caps k hk4
            simp only [ci] at hc1
            obtain ⟨ov, hov⟩ : ∃ ov : Nat, ol.getD k 0 = (ov : Int) := ⟨(ol.getD k 0).toNat, by omega⟩
            rw [hov] at hc1 sm2
            have hr1 : Hid (LpRel w4 wr.drew bt 1114112 a c L) := ⟨hr.out.asm, ⟨hr.out.hd.own, hr.out.hd.oct⟩, hr.out.len, hr.out.bd, hr.out.below.drew⟩
            have hBs : bt ≤ wr.heap.size := by have := hr.out.asm.cell.2.2; omega
            have HZ : Hid (Calls Try.prog 21 #[.pointer (some ⟨bt, 0, none⟩), .int .i64 (ov : Int), .slice (A2 k) (key k).length (C2 k)] wr.drew (HoPost wr.drew bt ov (key k) L 1114112)) := zh21 bt ov (A2 k) (C2 k) (key k) a c L 1114112 wr.drew bt hr1.out.asm hr1.out.hd hrow hBs hcp (by omega) (by omega) hr1.out.bd hr1.out.len
            subst e1
            subst e2
            clear sm1 sm2 hov hr hrow hln hcp hb1 hb2
            go_wp2
            go_region_with (go_at_call 21; refine HZ.out.mono ?_; rintro e w5 hpost; obtain ⟨ok, a', c', L', rfl, R⟩ := hr1.out.after hpost; clear hpost)
            all_goals
              have R' : Hid _ := R
              clear R HZ hr1
              go_wp2
              go_roundw
              case rel => exact ⟨k + 1, a', c', L', by omega, by omega, by go_num, R'.out⟩
              case measure => simp [intOf]; omega
          · first
              | have hkn' : ¬ k < n := by omega
              | have hkn' : ¬ k < m := by omega
            have hAr := hr.out.asm
            have hHr := hr.out.hd
            have hlr := hr.out.len
            have HBd : Hid (∀ p ∈ L, p.off + p.oct.length ≤ 1114112) := hr.out.bd
            have hBs : bt < wr.heap.size := hAr.cell.2.2
            have tr : Hid (Rd wr bt x4 tl.length (ci .u8 tl)) := Rd.keep t4.out hr.out.below
            have d0r : Hid (Below w.heap.size w wr) := d04.out.trans (hr.out.below.mono hws)
            obtain ⟨W, hW⟩ : ∃ W, W = wr := ⟨_, rfl⟩
            subst hW
            clear I4 t4 d04 R0 hr hkn hk1 hk2 hmn
            go_wp2_with fail
            refine (so19 bt a c L W hAr hHr hlr).mono ?_
            rintro e w5 ⟨ao, co, rfl, ro, d5⟩
            have s5 := d5.size
            have hA5 := hAr.keep (d5.block bt hBs)
            have hH5 := hHr.keep d5
            clear hAr hHr
            go_wp2_with fail
            refine (so20 bt a c L 1114112 w5 hA5 hH5 hlr (by omega) HBd).mono ?_
            rintro e w6 ⟨ac, cc, Ac, Cc, rfl, rc, ric, d6⟩
            have s6 := d6.size
            have hA6 := hA5.keep (d6.block bt (by omega))
            have hH6 := hH5.keep d6
            have ro6 := ro.keep d6
            have t6 : Hid (Rd w6 bt x4 tl.length (ci .u8 tl)) := Rd.keep tr.out ((d5.mono (by omega)).trans (d6.mono (by omega)))
            have d06 : Hid (Below w.heap.size w w6) := d0r.out.trans ((d5.mono (by omega)).trans (d6.mono (by omega)))
            clear hA5 hH5 ro tr d0r d5 d6
            go_wp2
            go_loopw [15, 16] (fun z i wr => ∃ (j E : Nat), j ≤ L.length ∧ z = .int .i64 (E : Int) ∧ i = .int .i64 (j : Int) ∧ E ≤ 1114112 ∧ Hid (∀ (i : Nat) (p : Piece), i < j → L[i]? = some p → p.off + p.oct.length ≤ E) ∧ Hid (∃ q, wr = w6.drewN q)) (fun _ i _ => L.length - (intOf i).toNat)
            case atStart => exact ⟨0, 0, Nat.zero_le _, rfl, rfl, by omega, fun i p hi => by omega, 0, rfl⟩
            case round =>
              obtain ⟨j, E, hj, rfl, rfl, hE, hmx, q, rfl⟩ := hrel
              by_cases hjn : j < L.length
              · obtain ⟨p, hp⟩ : ∃ p, L[j]? = some p := ⟨L[j], List.getElem?_eq_getElem hjn⟩
                have hpb := HBd.out p (List.mem_of_getElem? hp)
                obtain ⟨bo, oo, rfl, _, hc1⟩ := ro6.rd.at hjn
                obtain ⟨bc, oc, rfl, _, hc2⟩ := rc.rd.at hjn
                rw [keyL_at L j p hp] at hc2
                simp only [ci] at hc1
                rw [offL_at L j p hp] at hc1
                have hji : (j : Int) < (L.length : Int) := by omega
                have hwr : IntKind.i64.wrap ((p.off : Int) + (p.oct.length : Int)) = (p.off : Int) + (p.oct.length : Int) := IntWalk.i64_in _ (by omega)
                have hstep : Hid (∀ E', E ≤ E' → p.off + p.oct.length ≤ E' → ∀ (i : Nat) (p : Piece), i < j + 1 → L[i]? = some p → p.off + p.oct.length ≤ E') := by
                  intro E' h1 h2 i p' hi hp'
                  by_cases e : i = j
                  · subst e
                    rw [hp] at hp'
                    simp only [Option.some.injEq] at hp'
                    subst hp'
                    exact h2
                  · have := hmx.out i p' (by omega) hp'
                    omega
                clear ro6 rc ric hA6 hH6 hmx
                generalize p.oct.length = nl at *
                by_cases cE : E < p.off + nl
                · have cE' : (E : Int) < (p.off : Int) + (nl : Int) := by omega
                  go_wp2
                  go_quiet (fail)
                  go_wp2
                  go_quiet (fail)
                  go_wp2
                  go_roundw
                  case rel => exact ⟨j + 1, p.off + nl, by omega, int_eq (by omega), by go_num, by omega, hstep.out _ (by omega) (by omega), _, rfl⟩
                  case measure => simp [intOf]; omega
                · have cE' : ¬ (E : Int) < (p.off : Int) + (nl : Int) := by omega
                  go_wp2
                  go_quiet (fail)
                  go_wp2
                  go_roundw
                  case rel => exact ⟨j + 1, E, by omega, rfl, by go_num, by omega, hstep.out _ (by omega) (by omega), _, rfl⟩
                  case measure => simp [intOf]; omega
              · have hprem : Hid (∀ p ∈ L, p.off + p.oct.length ≤ E + gp) := by
                  intro p hp
                  obtain ⟨i, hi⟩ := List.getElem?_of_mem hp
                  have := hmx.out i p (by have := (List.getElem?_eq_some_iff.1 hi).1; omega) hi
                  omega
                have HBd2 : Hid (∀ p ∈ L, p.off + p.oct.length ≤ 2228224) := fun p hp => by
                  have := HBd.out p hp
                  omega
                have t7 : Rd (w6.drewN q) bt x4 tl.length (ci .u8 tl) := t6.out
                obtain ⟨N9, hN9⟩ : ∃ N9 : Nat, N9 = E + gp := ⟨_, rfl⟩
                have HZ : Hid (Calls Try.prog 21 #[.pointer (some ⟨bt, 0, none⟩), .int .i64 ((E : Int) + (gp : Int)), .slice x4 tl.length k4] (w6.drewN q) (HoPost (w6.drewN q) bt N9 tl L 2228224)) := by
                  show Calls _ _ _ _ _
                  rw [show (E : Int) + (gp : Int) = (N9 : Int) by omega]
                  exact zh21 bt N9 x4 k4 tl a c L 2228224 (w6.drewN q) bt hA6 (hH6.drewN q) t7 (show bt ≤ w6.heap.size by omega) cap4 (by omega) (by omega) HBd2 hlr
                have hprem9 : Hid (∀ p ∈ L, p.off + p.oct.length ≤ N9) := by
                  rw [hN9]
                  exact hprem.out
                have HN9 : Hid (N9 = E + gp) := hN9
                clear hmx hprem hN9
                go_wp2_with fail
                refine Calls.mono HZ.out ?_
                rintro e w9 ⟨ok, a', c', L', rfl, hA9, hH9, hl9, hb9, hfr, hex⟩
                obtain ⟨e1, e2, e3⟩ := hex hprem9.out (by omega)
                have d09 : Hid (Below w.heap.size w w9) := (below_drewN d06.out q).trans (hfr.1.mono hws)
                have t9 := t7.keep hfr.1
                have ro9 := Rn.frame (w := w6.drewN q) ro6 hBs hfr
                have rc9 := Rn.frame (w := w6.drewN q) rc (by omega) hfr
                have ric9 : ∀ i, i < L.length → Rn w9 w5.heap.size (Ac i) (keyL L i).length (ci .u8 (keyL L i)) := fun i hi => Rn.frame (w := w6.drewN q) (ric i hi) (by omega) hfr
                have K9 : Keys w9 w9.heap.size ac L.length (keyL L) Ac Cc := ⟨rc9.rd, fun i hi => (ric9 i hi).rd⟩
                have HB9 : Hid _ := hb9
                have ro9' := ro9.rd
                clear hex HZ hfr ro6 rc ric rc9 ric9 hA6 hH6 t7 t6 d06 HBd2 hprem9 hb9 ro9
                by_cases cnt : L.length < 256
                · rw [decide_eq_true cnt] at e1
                  subst e1
                  obtain ⟨x', c'', hL'⟩ := e3 rfl
                  have hlen9 : L'.length = L.length + 1 := by rw [hL']; simp
                  have hpq : L'[L.length]? = some ⟨N9, x', c'', tl⟩ := by rw [hL']; simp
                  have hpre : Hid (∀ (i : Nat) (p : Piece), i < L.length → L[i]? = some p → L'[i]? = some p) := fun i p hi hp => by rw [hL', List.getElem?_append_left hi]; exact hp
                  have hrdq : Rd w9 w9.heap.size x' tl.length (ci .u8 tl) := (hH9.oct ⟨N9, x', c'', tl⟩ (by rw [hL']; simp)).rd
                  have hA9' : Asm w9 bt (.slice a' (L.length + 1) c') := by rw [← hlen9]; exact hA9
                  have hcI : (L.length : Int) < 256 := by omega
                  have hneq : ((L.length : Int) + 1 != (L.length : Int) + 1) = false := by simp
                  have hNe : (E : Int) + (gp : Int) = (N9 : Int) := by have := HN9.out; omega
                  clear hL' e2 e3 hlen9
                  go_wp2_with fail
                  refine (ll22 bt a' (L.length + 1) c' w9 hA9').mono ?_
                  rintro e w' ⟨rfl, rfl⟩
                  go_wp2
                  go_loopw [18] (fun i wr => ∃ j : Nat, j ≤ L.length ∧ i = .int .i64 j ∧ Hid (∃ q, wr = w9.drewN q)) (fun i _ => L.length - (intOf i).toNat)
                  case atStart => exact ⟨0, Nat.zero_le _, rfl, 0, rfl⟩
                  case round =>
                    clear hj hjn
                    obtain ⟨k9, hk9, rfl, q9, rfl⟩ := hrel
                    by_cases hkk : k9 < L.length
                    · obtain ⟨p, hp⟩ : ∃ p, L[k9]? = some p := ⟨L[k9], List.getElem?_eq_getElem hkk⟩
                      have hki : (k9 : Int) < (L.length : Int) := by omega
                      have hpm' : p ∈ L := List.mem_of_getElem? hp
                      have hpb := HBd.out p hpm'
                      have hp9 := hpre.out k9 p hkk hp
                      obtain ⟨bo, oo, rfl, _, hc1⟩ := ro9'.at hkk
                      obtain ⟨bc, oc, rfl, _, hc2⟩ := K9.rd.at hkk
                      have hin := K9.row k9 hkk
                      rw [keyL_at L k9 p hp] at hc2 hin
                      simp only [ci] at hc1
                      rw [offL_at L k9 p hp] at hc1
                      have hrd := (hH9.oct p (List.mem_of_getElem? hp9)).rd
                      have hpp : ((p.off : Int) != (p.off : Int)) = false := by simp
                      clear ro9' K9 hrdq t9 hpq
                      go_wp2_with fail
                      refine (la24 bt a' c' L' k9 p (w9.drewN q9) (hA9.drewN q9) (hH9.drewN q9) hp9 hl9).mono ?_
                      rintro e w' ⟨rfl, q2, rfl⟩
                      go_wp2_with fail
                      refine (same27 p.a (Ac k9) p.oct.length p.c (Cc k9) (fun i => p.oct.getD i 0) (w9.drewN (q9 + q2)) _ _ hrd hin (by omega)).mono ?_
                      rintro e w' ⟨rfl, q3, rfl⟩
                      go_wp2
                      go_roundw
                      case rel => exact ⟨k9 + 1, by omega, by go_num, _, rfl⟩
                      case measure => simp [intOf]; omega
                    · clear ro9' K9
                      go_wp2_with fail
                      refine (la24 bt a' c' L' L.length ⟨N9, x', c'', tl⟩ (w9.drewN q9) (hA9.drewN q9) (hH9.drewN q9) hpq hl9).mono ?_
                      rintro e w' ⟨rfl, q2, rfl⟩
                      go_wp2_with fail
                      refine (same27 x' x4 tl.length c'' k4 (fun i => tl.getD i 0) (w9.drewN (q9 + q2)) _ _ hrdq t9 (by omega)).mono ?_
                      rintro e w' ⟨rfl, q3, rfl⟩
                      go_wp2
                      go_ret
                      exact ⟨rfl, below_drewN d09.out _⟩
                · rw [decide_eq_false cnt] at e1
                  subst e1
                  have hLL := e2 rfl
                  rw [hLL] at hA9 hH9 hl9 HB9
                  have hcI : ¬ (L.length : Int) < 256 := by omega
                  clear e2 e3 hLL
                  go_wp2_with fail
                  refine (li23 bt a' c' L 2228224 ao ac co cc Ac Cc w9 _ _ hA9 hH9 hl9 (by omega) HB9.out ro9' K9).mono ?_
                  rintro e w' ⟨rfl, q2, rfl⟩
                  go_wp2
                  go_ret
                  exact ⟨rfl, below_drewN d09.out q2⟩
end Go.Proofs.Qxb6000464a

import Derived.Test.Qxb6000858aZZU
namespace Go.Proofs.Qxb6000858a
open Go.RowKit
set_option linter.unusedVariables false

set_option maxHeartbeats 1000000 in
theorem zz23 (t : Int) (a1 a2 a3 : Option Addr) (n1 c1 n2 c2 n3 c3 : Nat) (key : Nat → List Int) (A : Nat → Option Addr) (C : Nat → Nat) (w : World) (B : Nat) (hK : Keys w B a3 n3 key A C)
    (b1 : n1 ≤ 9223372036854775807) (b2 : n2 ≤ 9223372036854775807) (b3 : n3 ≤ 9223372036854775807) (bk : Hid (∀ i, i < n3 → (key i).length ≤ 9223372036854775807)) :
    Calls Try.prog 23 #[.int .i64 t, .slice a1 n1 c1, .slice a2 n2 c2, .slice a3 n3 c3] w fun e w' => ZzPost n1 n2 n3 key e ∧ w' = w := by
  go_enter Try.func23, Try.ntmps23
  go_wp2
  any_goals (go_ret; exact ⟨ZzPost.no _ _ _ _, rfl⟩)
  go_loop [9, 10] (fun z i => ∃ (k : Nat) (y : Int), k ≤ n3 ∧ i = .int .i64 k ∧ z = .int .i64 y ∧ 0 ≤ y ∧ y ≤ 1048576 ∧ Hid (∀ i, i < k → (key i).length ≤ 1048576)) (fun _ i => n3 - (intOf i).toNat)
  case atStart => exact ⟨0, _, Nat.zero_le _, rfl, rfl, by omega, by omega, fun i hi => by omega⟩
  case round =>
    obtain ⟨k, y, hk, rfl, rfl, hy0, hy1, hs⟩ := hrel
    by_cases hkn : k < n3
    · obtain ⟨b, o, rfl, _, hc⟩ := hK.rd.at hkn
      have hl := bk.out k hkn
      have hs2 : Hid ((key k).length ≤ 1048576 → ∀ i, i < k + 1 → (key i).length ≤ 1048576) := fun h i hi => by
        by_cases e : i = k
        · subst e; exact h
        · exact hs.out i (by omega)
      generalize (key k).length = L at *
      go_wp2
      any_goals (go_ret; exact ⟨ZzPost.no _ _ _ _, rfl⟩)
      go_round
      case rel => exact ⟨k + 1, _, by omega, by go_num, rfl, by omega, by omega, hs2.out (by omega)⟩
      case measure => simp [intOf]; omega
    · go_wp2
      go_ret
      exact ⟨⟨true, rfl, fun _ => ⟨by omega, by omega, by omega, fun i hi => hs.out i (by omega)⟩⟩, rfl⟩

/-- the spans' ends lie within the keys. -/
def BdOk (l1 l2 : List Int) (n k : Nat) : Prop := ∀ i, i < k → 0 ≤ l1.getD i 0 ∧ l1.getD i 0 ≤ n ∧ 0 ≤ l2.getD i 0 ∧ l2.getD i 0 ≤ n

theorem BdOk.step {l1 l2 : List Int} {n k : Nat} (h : BdOk l1 l2 n k) (h1 : 0 ≤ l1.getD k 0) (h2 : l1.getD k 0 ≤ n) (h3 : 0 ≤ l2.getD k 0) (h4 : l2.getD k 0 ≤ n) : BdOk l1 l2 n (k + 1) := fun i hi => by
  by_cases e : i = k
  · subst e; exact ⟨h1, h2, h3, h4⟩
  · exact h i (by omega)

theorem toNats2 (l1 l2 : List Int) (n m : Nat) (h : BdOk l1 l2 n m) : ∃ lo hi : Nat → Nat, (∀ i, i < m → ci .i64 l1 i = .int .i64 (lo i)) ∧ (∀ i, i < m → ci .i64 l2 i = .int .i64 (hi i)) ∧ ∀ i, i < m → lo i ≤ n ∧ hi i ≤ n := by
  refine ⟨fun i => (l1.getD i 0).toNat, fun i => (l2.getD i 0).toNat, fun i hi => ?_, fun i hi => ?_, fun i hi => ?_⟩
  all_goals have := h i hi
  · unfold ci; congr 1; dsimp only; omega
  · unfold ci; congr 1; dsimp only; omega
  · dsimp only; omega

set_option maxRecDepth 100000 in
set_option maxHeartbeats 4000000 in
theorem law7 (hS : SortSaid) (t : Int) (a1 a2 a3 : Option Addr) (m1 m2 c1 c2 n c3 : Nat) (l1 l2 : List Int) (key : Nat → List Int) (A : Nat → Option Addr) (C : Nat → Nat) (w : World) (hK : Keys w w.heap.size a3 n key A C)
    (h1 : Rd w w.heap.size a1 m1 (ci .i64 l1)) (h2 : Rd w w.heap.size a2 m2 (ci .i64 l2))
    (b1 : m1 ≤ 9223372036854775807) (b2 : m2 ≤ 9223372036854775807) (b3 : n ≤ 9223372036854775807) (bk : Hid (∀ i, i < n → (key i).length ≤ 9223372036854775807)) :
    Calls Try.prog 7 #[.int .i64 t, .slice a1 m1 c1, .slice a2 m2 c2, .slice a3 n c3] w fun e w' => e = .returned (.bool true) ∧ Below w.heap.size w w' := by
  go_enter Try.func7, Try.ntmps7
  go_wp2_with fail
  refine (zz23 t a1 a2 a3 m1 c1 m2 c2 n c3 key A C w _ hK b1 b2 b3 bk).mono ?_
  rintro e w' ⟨⟨b, rfl, hb⟩, hw⟩
  have hw := hw.symm
  subst hw
  cases b with
  | false =>
    go_wp2
    go_ret
    exact ⟨rfl, Below.refl _ _⟩
  | true =>
    obtain ⟨d1, d2, d3, dk0⟩ := hb rfl
    have dk : Hid (∀ i, i < n → (key i).length ≤ 1048576) := dk0
    clear dk0 hb bk
    by_cases e1 : 4096 < m1
    · have e1' : (4096 : Int) < (m1 : Int) := by omega
      go_wp2
      go_ret
      exact ⟨rfl, Below.refl _ _⟩
    by_cases e2 : 4096 < m2
    · have e1' : ¬ (4096 : Int) < (m1 : Int) := by omega
      have e2' : (4096 : Int) < (m2 : Int) := by omega
      go_wp2
      go_ret
      exact ⟨rfl, Below.refl _ _⟩
    by_cases e3 : 4096 < n
    · have e1' : ¬ (4096 : Int) < (m1 : Int) := by omega
      have e2' : ¬ (4096 : Int) < (m2 : Int) := by omega
      have e3' : (4096 : Int) < (n : Int) := by omega
      go_wp2
      go_ret
      exact ⟨rfl, Below.refl _ _⟩
    have e1' : ¬ (4096 : Int) < (m1 : Int) := by omega
    have e2' : ¬ (4096 : Int) < (m2 : Int) := by omega
    have e3' : ¬ (4096 : Int) < (n : Int) := by omega
    go_wp2_with fail
    refine (kb18 a3 n c3 key A C w _ hK d3 dk).mono ?_
    rintro e w2 ⟨⟨T, rfl, hT0, hT1⟩, hw⟩
    have hw := hw.symm
    subst hw
    by_cases e4 : (1048576 : Int) < 8 * (m1 : Int) + 8 * (m2 : Int) + T
    · go_wp2
      go_ret
      exact ⟨rfl, Below.refl _ _⟩
    by_cases e5 : m1 = m2
    case neg =>
      have e5' : ((m1 : Int) != (m2 : Int)) = true := by rw [bne_iff_ne]; omega
      go_wp2
      go_ret
      exact ⟨rfl, Below.refl _ _⟩
    subst e5
    have e5' : ((m1 : Int) != (m1 : Int)) = false := by simp
    go_wp2
    go_loopw [9] (fun i wr => ∃ k : Nat, k ≤ m1 ∧ i = .int .i64 k ∧ Hid (BdOk l1 l2 n k) ∧ Hid (∃ q, wr = w.drewN q)) (fun i _ => m1 - (intOf i).toNat)
    case atStart => exact ⟨0, Nat.zero_le _, rfl, fun i hi => by omega, 0, rfl⟩
    case round =>
      obtain ⟨k, hk, rfl, hs, q, rfl⟩ := hrel
      by_cases hkm : k < m1
      · obtain ⟨x1, o1, rfl, _, hc1⟩ := h1.at hkm
        obtain ⟨x2, o2, rfl, _, hc2⟩ := h2.at hkm
        simp only [ci] at hc1 hc2
        have hki : (k : Int) < (m1 : Int) := by omega
        have hst : Hid (0 ≤ l1.getD k 0 → l1.getD k 0 ≤ n → 0 ≤ l2.getD k 0 → l2.getD k 0 ≤ n → BdOk l1 l2 n (k + 1)) := hs.out.step
        clear hs e1' e2' e3' e4 e5' e1 e2 e3 h1 h2 hK dk
        generalize l1.getD k 0 = x at *
        generalize l2.getD k 0 = y at *
        by_cases f1 : x < 0
        · go_wp2
          go_ret
          exact ⟨rfl, below_drewN (Below.refl _ _) _⟩
        by_cases f2 : (n : Int) < x
        · go_wp2
          go_ret
          exact ⟨rfl, below_drewN (Below.refl _ _) _⟩
        by_cases f3 : y < 0
        · go_wp2
          go_ret
          exact ⟨rfl, below_drewN (Below.refl _ _) _⟩
        by_cases f4 : (n : Int) < y
        · go_wp2
          go_ret
          exact ⟨rfl, below_drewN (Below.refl _ _) _⟩
        go_wp2
        go_roundw
        case rel => exact ⟨k + 1, by omega, by go_num, hst.out (by omega) (by omega) (by omega) (by omega), _, rfl⟩
        case measure => simp [intOf]; omega
      · obtain rfl : k = m1 := by omega
        have hk4 : k ≤ 4096 := by omega
        have hn4 : n ≤ 4096 := by omega
        clear e1' e2' e3' e4 e5' e1 e2 e3 hT0 hT1
        go_wp2_with fail
        refine (inc19 a3 n c3 key A C _ _ (hK.drewN q) d3 dk).mono ?_
        rintro e w2 ⟨⟨b, rfl, hb⟩, q2, rfl⟩
        have hbl : Below w.heap.size w ((w.drewN q).drewN q2) := below_drewN (below_drewN (Below.refl _ _) _) _
        generalize (w.drewN q).drewN q2 = W0 at *
        cases b with
        | false =>
          go_wp2
          go_ret
          exact ⟨rfl, hbl⟩
        | true =>
          have hInc : Pl.Inc n key := hb rfl
          clear hb
          go_wp2_with fail
          refine (ci10 a1 k c1 l1 _ _ hbl.size (h1.keep hbl) d1 (h1.keep hbl).nil).mono ?_
          rintro e W1 ⟨a1', c1', rfl, r1, _, bl1⟩
          have hb1 : Below w.heap.size w W1 := hbl.trans (bl1.mono hbl.size)
          go_wp2_with fail
          refine (ci10 a2 k c2 l2 _ _ hb1.size (h2.keep hb1) d1 (h2.keep hb1).nil).mono ?_
          rintro e W2 ⟨a2', c2', rfl, r2, _, bl2⟩
          have hb2 : Below w.heap.size w W2 := hb1.trans (bl2.mono hb1.size)
          have r1b := r1.keep bl2
          go_wp2_with fail
          refine (ck20 a3 n c3 key A C _ _ hb2.size (hK.keep hb2) d3 dk).mono ?_
          rintro e W3 ⟨a3', c3', A3, C3, rfl, hK3, bl3⟩
          have hb3 : Below w.heap.size w W3 := hb2.trans (bl3.mono hb2.size)
          obtain ⟨lo, hi, hlo, hhi, hsp⟩ := toNats2 l1 l2 n k hs.out
          have p1 : Rd W3 W3.heap.size a1' k (fun i => .int .i64 (lo i)) := (r1b.keep bl3).rd.congr hlo
          have p2 : Rd W3 W3.heap.size a2' k (fun i => .int .i64 (hi i)) := (r2.keep bl3).rd.congr hhi
          have hsp2 : Hid (∀ i, i < k → lo i ≤ n ∧ hi i ≤ n) := hsp
          clear hs hlo hhi r1 r2 r1b bl1 bl2 bl3 hb1 hb2 hbl h1 h2 hK hsp
          go_wp2_with fail
          refine (zu11 hS a1' a2' c1' c2' k n lo hi W3 _ (Nat.le_refl _) p1 p2 hsp2 hk4 hn4).mono ?_
          rintro e W4 ⟨u1, v1, u2, v2, m, ulo, uhi, rfl, hok, hm4, P1, P2, bl4⟩
          have hb4 : Below w.heap.size w W4 := hb3.trans (bl4.mono hb3.size)
          have K4 := (hK3.keep bl4).mono bl4.size
          have hlo2 : Hid (∀ i, i < m → ulo i < n) := fun i hi => by have := hok.el i hi; omega
          have hmm : ((m : Int) != (m : Int)) = false := by simp
          clear hK3 p1 p2 bl4 hb3 hsp2
          go_wp2_with fail
          refine (jo21 t u1 u2 a3' v1 v2 m n c3' ulo uhi key A3 C3 W4 _ (Nat.le_refl _) K4 P1 P2 hlo2 (by omega) d3).mono ?_
          rintro e W5 hpost
          rcases hpost with ⟨hm0, rfl, bl5⟩ | ⟨hm0, y1, z1, y2, z2, A1, C1, A2, C2, rfl, K1, K2, bl5⟩
          · subst hm0
            go_wp2
            go_ret
            exact ⟨rfl, hb4.trans (bl5.mono hb4.size)⟩
          · have hb5 : Below w.heap.size w W5 := hb4.trans (bl5.mono hb4.size)
            have Q2 := P2.keep bl5
            have hk0 : ((m : Int) == 0) = false := beq_eq_false_iff_ne.2 (by omega)
            clear K4 P1 P2 bl5 hb4 hlo2
            go_wp2
            go_loopw [17] (fun i wr => ∃ j : Nat, j ≤ m ∧ i = .int .i64 j ∧ Hid (∃ q, wr = W5.drewN q)) (fun i _ => m - (intOf i).toNat)
            case atStart => exact ⟨0, Nat.zero_le _, rfl, 0, rfl⟩
            case round =>
              obtain ⟨j, hj, rfl, q, rfl⟩ := hrel
              by_cases hjm : j < m
              · obtain ⟨x1, o1, e1, _, hc1o⟩ := K1.rd.at hjm
                obtain ⟨x2, o2, rfl, _, hc2o⟩ := K2.rd.at hjm
                obtain ⟨x3, o3, rfl, _, hc3⟩ := Q2.at hjm
                subst e1
                have w1 : Rd W5 W5.heap.size (A1 j) (key (ulo j)).length (ci .u8 (key (ulo j))) := K1.row j hjm
                have w2 : Rd W5 W5.heap.size (A2 j) (Pl.hiOf n key (uhi j)).length (ci .u8 (Pl.hiOf n key (uhi j))) := K2.row j hjm
                have hc1 : W5.cell? ⟨x1, o1 + j, none⟩ = some (.slice (A1 j) (key (ulo j)).length (C1 j)) := hc1o
                have hc2 : W5.cell? ⟨x2, o2 + j, none⟩ = some (.slice (A2 j) (Pl.hiOf n key (uhi j)).length (C2 j)) := hc2o
                clear hc1o hc2o
                have hji : (j : Int) < (m : Int) := by omega
                obtain ⟨s1, s2⟩ := hok.el j hjm
                have q1 := dk.out (ulo j) (by omega)
                obtain ⟨j1, hj1⟩ : ∃ j1, j1 = j + 1 := ⟨_, rfl⟩
                have hwr : IntKind.i64.wrap ((j : Int) + 1) = (j1 : Int) := by rw [IntWalk.i64_in _ (by omega)]; omega
                by_cases fA : uhi j < n
                · have hh : Pl.hiOf n key (uhi j) = key (uhi j) := if_pos fA
                  rw [hh] at w2 hc2
                  have hpos := hInc.pos (show 0 < uhi j by omega) fA
                  have hL : (((key (uhi j)).length : Int) == 0) = false := beq_eq_false_iff_ne.2 (by cases hq : key (uhi j) <;> simp_all; omega)
                  have hL2 : (((key (uhi j)).length : Int) != 0) = true := by rw [bne, hL]; rfl
                  have hU : ((uhi j : Int) == (n : Int)) = false := beq_eq_false_iff_ne.2 (by omega)
                  have hcmp1 : Pl.cmpL (key (ulo j)) (key (uhi j)) < 0 := (hInc.iff (by omega) fA).2 s1
                  have q2 := dk.out (uhi j) fA
                  by_cases fB : j1 < m
                  · have hg := hok.gap j (by omega)
                    rw [← hj1] at hg
                    obtain ⟨x1', o1', e1', _, hc4o⟩ := K1.rd.at fB
                    simp only [Option.some.injEq, Addr.mk.injEq, and_true] at e1'
                    obtain ⟨rfl, rfl⟩ := e1'
                    have hc4 : W5.cell? ⟨x1, o1 + j1, none⟩ = some (.slice (A1 j1) (key (ulo j1)).length (C1 j1)) := hc4o
                    clear hc4o
                    have w4 : Rd W5 W5.heap.size (A1 j1) (key (ulo j1)).length (ci .u8 (key (ulo j1))) := K1.row j1 fB
                    obtain ⟨s3, s4⟩ := hok.el j1 fB
                    have hcmp2 : Pl.cmpL (key (uhi j)) (key (ulo j1)) < 0 := (hInc.iff fA (by omega)).2 hg
                    have q4 := dk.out (ulo j1) (by omega)
                    have hj1i : (j1 : Int) < (m : Int) := by omega
                    have HJ : Hid (j1 = j + 1) := hj1
                    clear hInc hok dk K1 K2 Q2 hh hpos hj1
                    generalize key (ulo j) = kl at *
                    generalize key (uhi j) = kh at *
                    generalize key (ulo j1) = kn at *
                    go_wp2
                    go_quiet (fail)
                    go_wp2
                    go_quiet ((go_at_call 24; exact quiet_q (cmp_any _ _ _ _ kl kh _ W5.heap.size W5.heap.size (by exact w1) (by exact w2) (by omega) (by omega))))
                    go_wp2
                    go_quiet ((go_at_call 24; exact quiet_q (cmp_any _ _ _ _ kh kn _ W5.heap.size W5.heap.size (by exact w2) (by exact w4) (by omega) (by omega))))
                    go_wp2
                    go_roundw
                    case rel => exact ⟨j1, by have := HJ.out; omega, by first | rfl | (have := HJ.out; go_num), _, rfl⟩
                    case measure => (have := HJ.out; simp [intOf]; omega)
                  · have fBd : decide ((j1 : Int) < (m : Int)) = false := decide_eq_false (by omega)
                    have fBd2 : decide (j1 < m) = false := decide_eq_false (by omega)
                    have HJ : Hid (j1 = j + 1) := hj1
                    clear hInc hok dk K1 K2 Q2 hh hpos hj1
                    generalize key (ulo j) = kl at *
                    generalize key (uhi j) = kh at *
                    go_wp2
                    go_quiet (fail)
                    go_wp2
                    go_quiet ((go_at_call 24; exact quiet_q (cmp_any _ _ _ _ kl kh _ W5.heap.size W5.heap.size (by exact w1) (by exact w2) (by omega) (by omega))))
                    go_wp2
                    go_quiet (fail)
                    go_wp2
                    go_roundw
                    case rel => exact ⟨j1, by have := HJ.out; omega, by first | rfl | (have := HJ.out; go_num), _, rfl⟩
                    case measure => (have := HJ.out; simp [intOf]; omega)
                · have hh : Pl.hiOf n key (uhi j) = [] := if_neg fA
                  rw [hh] at w2 hc2
                  have hun : uhi j = n := by omega
                  have hU : ((uhi j : Int) == (n : Int)) = true := beq_iff_eq.2 (by omega)
                  have fB : ¬ j1 < m := by
                    intro fB
                    have hg := hok.gap j (by omega)
                    have := hok.el j1 fB
                    rw [← hj1] at hg
                    omega
                  have fBd : decide ((j1 : Int) < (m : Int)) = false := decide_eq_false (by omega)
                  have fBd2 : decide (j1 < m) = false := decide_eq_false (by omega)
                  have HJ : Hid (j1 = j + 1) := hj1
                  clear hInc hok dk K1 K2 Q2 hh hj1 hun
                  simp only [List.length_nil] at hc2
                  have hz1 : (((0 : Nat) : Int) == 0) = true := by simp
                  have hz2 : ((0 : Int) != 0) = false := by simp
                  go_wp2
                  go_quiet (fail)
                  go_wp2
                  go_quiet (fail)
                  go_wp2
                  go_quiet (fail)
                  go_wp2
                  go_roundw
                  case rel => exact ⟨j1, by have := HJ.out; omega, by first | rfl | (have := HJ.out; go_num), _, rfl⟩
                  case measure => (have := HJ.out; simp [intOf]; omega)
              · go_wp2
                go_ret
                exact ⟨rfl, below_drewN hb5 _⟩
end Go.Proofs.Qxb6000858a

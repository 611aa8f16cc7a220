import Derived.Test.Qxb6000858aJOne
namespace Go.Proofs.Qxb6000858a
open Go.RowKit
set_option linter.unusedVariables false

theorem Rd.congr {w : World} {B : Nat} {a : Option Addr} {n : Nat} {f g : Nat → Value} (h : Rd w B a n f) (e : ∀ i, i < n → f i = g i) : Rd w B a n g := by
  rcases h with h | ⟨b, off, e2, h1, hc⟩
  · exact .inl h
  · exact .inr ⟨b, off, e2, h1, fun i hi => by rw [hc i hi, e i hi]⟩

/-- does a span before the p-th hold j? -/
def wantB (lo hi : Nat → Nat) (j : Nat) : Nat → Bool
  | 0 => false
  | p + 1 => wantB lo hi j p || (decide (lo p ≤ j) && decide (j < hi p))

/-- the spans are well formed. -/
def SpOk (l1 l2 : List Int) (n k : Nat) : Prop := ∀ i, i < k → 0 ≤ l1.getD i 0 ∧ l1.getD i 0 < l2.getD i 0 ∧ l2.getD i 0 ≤ n

theorem SpOk.step {l1 l2 : List Int} {n k : Nat} (h : SpOk l1 l2 n k) (h1 : 0 ≤ l1.getD k 0) (h2 : l1.getD k 0 < l2.getD k 0) (h3 : l2.getD k 0 ≤ n) : SpOk l1 l2 n (k + 1) := fun i hi => by
  by_cases e : i = k
  · subst e; exact ⟨h1, h2, h3⟩
  · exact h i (by omega)

theorem toNats (l1 l2 : List Int) (n m : Nat) (h : SpOk l1 l2 n m) : ∃ lo hi : Nat → Nat, (∀ i, i < m → ci .i64 l1 i = .int .i64 (lo i)) ∧ (∀ i, i < m → ci .i64 l2 i = .int .i64 (hi i)) ∧ ∀ i, i < m → lo i < hi i ∧ hi i ≤ n := by
  refine ⟨fun i => (l1.getD i 0).toNat, fun i => (l2.getD i 0).toNat, fun i hi => ?_, fun i hi => ?_, fun i hi => ?_⟩
  all_goals have := h i hi
  · unfold ci; congr 1; dsimp only; omega
  · unfold ci; congr 1; dsimp only; omega
  · dsimp only; omega

/-- 'inRangeB1' with its answer named. -/
theorem in22' (a0 a1 a2 : Option Addr) (c0 c1 c2 : Nat) (l0 l1 l2 : List Int) (w : World) (B : Nat) (h0 : Rd w B a0 l0.length (ci .u8 l0)) (h1 : Rd w B a1 l1.length (ci .u8 l1)) (h2 : Rd w B a2 l2.length (ci .u8 l2))
    (b0 : l0.length ≤ 1048576) (b1 : l1.length ≤ 1048576) (b2 : l2.length ≤ 1048576) (R : Bool) (hR : Pl.inR l0 l1 l2 = R) :
    Calls Try.prog 22 #[.slice a0 l0.length c0, .slice a1 l1.length c1, .slice a2 l2.length c2] w fun e w' => e = .returned (.bool R) ∧ ∃ q, w' = w.drewN q := by
  subst hR
  exact in22 a0 a1 a2 c0 c1 c2 l0 l1 l2 w B h0 h1 h2 b0 b1 b2

theorem Keys.drewN {w : World} {B : Nat} {a : Option Addr} {n : Nat} {key : Nat → List Int} {A : Nat → Option Addr} {C : Nat → Nat} (h : Keys w B a n key A C) (q : Nat) : Keys (w.drewN q) B a n key A C := ⟨h.rd.drewN q, fun i hi => (h.row i hi).drewN q⟩

set_option maxRecDepth 100000 in
set_option maxHeartbeats 4000000 in
theorem law6 (t : Int) (a1 a2 a3 : Option Addr) (m1 m2 c1 c2 n c3 : Nat) (l1 l2 : List Int) (key : Nat → List Int) (A : Nat → Option Addr) (C : Nat → Nat) (w : World) (hK : Keys w w.heap.size a3 n key A C)
    (h1 : Rd w w.heap.size a1 m1 (ci .i64 l1)) (h2 : Rd w w.heap.size a2 m2 (ci .i64 l2))
    (b1 : m1 ≤ 9223372036854775807) (b2 : m2 ≤ 9223372036854775807) (b3 : n ≤ 9223372036854775807) (bk : Hid (∀ i, i < n → (key i).length ≤ 9223372036854775807)) :
    Calls Try.prog 6 #[.int .i64 t, .slice a1 m1 c1, .slice a2 m2 c2, .slice a3 n c3] w fun e w' => e = .returned (.bool true) ∧ Below w.heap.size w w' := by
  go_enter Try.func6, Try.ntmps6
  go_wp2_with fail
  refine (zz17 t a1 a2 a3 m1 c1 m2 c2 n c3 key A C w _ hK b1 b2 b3 bk).mono ?_
  rintro e w' ⟨⟨b, rfl, hb⟩, hw⟩
  have hw := hw.symm
  subst hw
  cases b with
  | false =>
    go_wp2
    go_ret
    exact ⟨rfl, Below.refl _ _⟩
  | true =>
    obtain ⟨d1, d2, d3, dk0⟩ := hb rfl
    have dk : Hid (∀ i, i < n → (key i).length ≤ 1048576) := dk0
    clear dk0 hb bk
    by_cases e1 : 256 < m1
    · have e1' : (256 : Int) < (m1 : Int) := by omega
      go_wp2
      go_ret
      exact ⟨rfl, Below.refl _ _⟩
    by_cases e2 : 256 < m2
    · have e1' : ¬ (256 : Int) < (m1 : Int) := by omega
      have e2' : (256 : Int) < (m2 : Int) := by omega
      go_wp2
      go_ret
      exact ⟨rfl, Below.refl _ _⟩
    by_cases e3 : 4096 < n
    · have e1' : ¬ (256 : Int) < (m1 : Int) := by omega
      have e2' : ¬ (256 : Int) < (m2 : Int) := by omega
      have e3' : (4096 : Int) < (n : Int) := by omega
      go_wp2
      go_ret
      exact ⟨rfl, Below.refl _ _⟩
    have e1' : ¬ (256 : Int) < (m1 : Int) := by omega
    have e2' : ¬ (256 : Int) < (m2 : Int) := by omega
    have e3' : ¬ (4096 : Int) < (n : Int) := by omega
    go_wp2_with fail
    refine (kb18 a3 n c3 key A C w _ hK d3 dk).mono ?_
    rintro e w2 ⟨⟨T, rfl, hT0, hT1⟩, hw⟩
    have hw := hw.symm
    subst hw
    by_cases e4 : (1048576 : Int) < 8 * (m1 : Int) + 8 * (m2 : Int) + T
    · go_wp2
      go_ret
      exact ⟨rfl, Below.refl _ _⟩
    by_cases e5 : m1 = m2
    case neg =>
      have e5' : ((m1 : Int) != (m2 : Int)) = true := by rw [bne_iff_ne]; omega
      go_wp2
      go_ret
      exact ⟨rfl, Below.refl _ _⟩
    subst e5
    have e5' : ((m1 : Int) != (m1 : Int)) = false := by simp
    go_wp2
    go_loopw [9] (fun i wr => ∃ k : Nat, k ≤ m1 ∧ i = .int .i64 k ∧ Hid (SpOk l1 l2 n k) ∧ Hid (∃ q, wr = w.drewN q)) (fun i _ => m1 - (intOf i).toNat)
    case atStart => exact ⟨0, Nat.zero_le _, rfl, fun i hi => by omega, 0, rfl⟩
    case round =>
      obtain ⟨k, hk, rfl, hs, q, rfl⟩ := hrel
      by_cases hkm : k < m1
      · obtain ⟨x1, o1, rfl, _, hc1⟩ := h1.at hkm
        obtain ⟨x2, o2, rfl, _, hc2⟩ := h2.at hkm
        simp only [ci] at hc1 hc2
        have hki : (k : Int) < (m1 : Int) := by omega
        have hst : Hid (0 ≤ l1.getD k 0 → l1.getD k 0 < l2.getD k 0 → l2.getD k 0 ≤ n → SpOk l1 l2 n (k + 1)) := hs.out.step
        clear hs e1' e2' e3' e4 e5' e1 e2 e3 h1 h2 hK dk
        generalize l1.getD k 0 = x at *
        generalize l2.getD k 0 = y at *
        by_cases f1 : x < 0
        · go_wp2
          go_quiet (fail)
          go_wp2
          go_ret
          exact ⟨rfl, below_drewN (below_drewN (Below.refl _ _) _) _⟩
        by_cases f2 : y ≤ x
        · have f1' : decide (x < 0) = false := decide_eq_false f1
          go_wp2
          go_quiet (fail)
          go_wp2
          go_ret
          exact ⟨rfl, below_drewN (below_drewN (Below.refl _ _) _) _⟩
        by_cases f3 : (n : Int) < y
        · have f1' : decide (x < 0) = false := decide_eq_false f1
          have f2' : decide (y ≤ x) = false := decide_eq_false f2
          go_wp2
          go_quiet (fail)
          go_wp2
          go_ret
          exact ⟨rfl, below_drewN (below_drewN (Below.refl _ _) _) _⟩
        have f1' : decide (x < 0) = false := decide_eq_false f1
        have f2' : decide (y ≤ x) = false := decide_eq_false f2
        go_wp2
        go_quiet (fail)
        go_wp2
        go_roundw
        case rel => exact ⟨k + 1, by omega, by go_num, hst.out (by omega) (by omega) (by omega), _, rfl⟩
        case measure => simp [intOf]; omega
      · obtain rfl : k = m1 := by omega
        clear e1' e2' e3' e4 e5' e1 e2 e3 hT0 hT1
        go_wp2_with fail
        refine (inc19 a3 n c3 key A C _ _ (hK.drewN q) d3 dk).mono ?_
        rintro e w2 ⟨⟨b, rfl, hb⟩, q2, rfl⟩
        have hbl : Below w.heap.size w ((w.drewN q).drewN q2) := below_drewN (below_drewN (Below.refl _ _) _) _
        generalize (w.drewN q).drewN q2 = W0 at *
        cases b with
        | false =>
          go_wp2
          go_ret
          exact ⟨rfl, hbl⟩
        | true =>
          have hInc : Pl.Inc n key := hb rfl
          clear hb
          go_wp2_with fail
          refine (ci10 a1 k c1 l1 _ _ hbl.size (h1.keep hbl) d1 (h1.keep hbl).nil).mono ?_
          rintro e W1 ⟨a1', c1', rfl, r1, _, bl1⟩
          have hb1 : Below w.heap.size w W1 := hbl.trans (bl1.mono hbl.size)
          go_wp2_with fail
          refine (ci10 a2 k c2 l2 _ _ hb1.size (h2.keep hb1) d1 (h2.keep hb1).nil).mono ?_
          rintro e W2 ⟨a2', c2', rfl, r2, _, bl2⟩
          have hb2 : Below w.heap.size w W2 := hb1.trans (bl2.mono hb1.size)
          have r1b := r1.keep bl2
          go_wp2_with fail
          refine (ck20 a3 n c3 key A C _ _ hb2.size (hK.keep hb2) d3 dk).mono ?_
          rintro e W3 ⟨a3', c3', A3, C3, rfl, hK3, bl3⟩
          have hb3 : Below w.heap.size w W3 := hb2.trans (bl3.mono hb2.size)
          obtain ⟨lo, hi, hlo, hhi, hsp⟩ := toNats l1 l2 n k hs.out
          have p1 : Rd W3 W3.heap.size a1' k (fun i => .int .i64 (lo i)) := (r1b.keep bl3).rd.congr hlo
          have p2 : Rd W3 W3.heap.size a2' k (fun i => .int .i64 (hi i)) := (r2.keep bl3).rd.congr hhi
          have hsp2 : Hid (∀ i, i < k → lo i < hi i ∧ hi i ≤ n) := hsp
          have hlo2 : Hid (∀ i, i < k → lo i < n) := fun i hi => by have := hsp i hi; omega
          clear hs hlo hhi r1 r2 r1b bl1 bl2 bl3 hb1 hb2 hbl h1 h2 hK hsp
          go_wp2_with fail
          refine (jo21 t a1' a2' a3' c1' c2' k n c3' lo hi key A3 C3 W3 _ (Nat.le_refl _) hK3 p1 p2 hlo2 d1 d3).mono ?_
          rintro e W4 hpost
          rcases hpost with ⟨hm0, rfl, bl4⟩ | ⟨hm0, y1, z1, y2, z2, A1, C1, A2, C2, rfl, K1, K2, bl4⟩
          · subst hm0
            go_wp2
            go_ret
            exact ⟨rfl, hb3.trans (bl4.mono hb3.size)⟩
          · have hb4 : Below w.heap.size w W4 := hb3.trans (bl4.mono hb3.size)
            have K3 := (hK3.keep bl4).mono bl4.size
            have P1 := p1.keep bl4
            have P2 := p2.keep bl4
            have hk0 : ((k : Int) == 0) = false := beq_eq_false_iff_ne.2 (by omega)
            clear hK3 p1 p2 bl4 hb3 hlo2
            go_wp2
            go_loopw [14] (fun i wr => ∃ j : Nat, j ≤ n ∧ i = .int .i64 j ∧ Hid (∃ q, wr = W4.drewN q)) (fun i _ => n - (intOf i).toNat)
            case atStart => exact ⟨0, Nat.zero_le _, rfl, 0, rfl⟩
            case round =>
              obtain ⟨j, hj, rfl, q, rfl⟩ := hrel
              by_cases hjn : j < n
              · go_wp2
                go_loop [15, 16] (fun v i => ∃ p : Nat, p ≤ k ∧ i = .int .i64 p ∧ v = .bool (wantB lo hi j p)) (fun _ i => k - (intOf i).toNat)
                case atStart => exact ⟨0, Nat.zero_le _, rfl, rfl⟩
                case round =>
                  obtain ⟨p, hp, rfl, rfl⟩ := hrel
                  by_cases hpk : p < k
                  · obtain ⟨x1, o1, rfl, _, hc1⟩ := P1.at hpk
                    obtain ⟨x2, o2, rfl, _, hc2⟩ := P2.at hpk
                    have hpi : (p : Int) < (k : Int) := by omega
                    have hws : Hid (wantB lo hi j (p + 1) = (wantB lo hi j p || (decide (lo p ≤ j) && decide (j < hi p)))) := rfl
                    generalize wantB lo hi j p = X0 at *
                    clear P1 P2 K1 K2 K3 hInc hsp2 dk
                    by_cases f1 : lo p ≤ j
                    · by_cases f2 : j < hi p
                      · have HX : Hid (wantB lo hi j (p + 1) = true) := by show wantB lo hi j (p + 1) = true; rw [hws.out]; simp [f1, f2]
                        clear hws
                        have f1' : (lo p : Int) ≤ (j : Int) := by omega
                        have f2' : (j : Int) < (hi p : Int) := by omega
                        go_wp2
                        go_round
                        case rel => exact ⟨p + 1, by omega, by go_num, by rw [HX.out]⟩
                        case measure => simp [intOf]; omega
                      · have HX : Hid (wantB lo hi j (p + 1) = X0) := by show wantB lo hi j (p + 1) = X0; rw [hws.out]; simp [f1, f2]
                        clear hws
                        have f1' : (lo p : Int) ≤ (j : Int) := by omega
                        have f2' : ¬ (j : Int) < (hi p : Int) := by omega
                        go_wp2
                        go_round
                        case rel => exact ⟨p + 1, by omega, by go_num, by rw [HX.out]⟩
                        case measure => simp [intOf]; omega
                    · have HX : Hid (wantB lo hi j (p + 1) = X0) := by show wantB lo hi j (p + 1) = X0; rw [hws.out]; simp [f1]
                      clear hws
                      have f1' : ¬ (lo p : Int) ≤ (j : Int) := by omega
                      go_wp2
                      go_round
                      case rel => exact ⟨p + 1, by omega, by go_num, by rw [HX.out]⟩
                      case measure => simp [intOf]; omega
                  · obtain rfl : p = k := by omega
                    go_wp2
                    go_loopw [17, 18] (fun v i wr => ∃ r : Nat, r ≤ p ∧ i = .int .i64 r ∧ v = .bool (wantB lo hi j r) ∧ Hid (∃ q, wr = W4.drewN q)) (fun _ i _ => p - (intOf i).toNat)
                    case atStart => exact ⟨0, Nat.zero_le _, rfl, rfl, q, rfl⟩
                    case round =>
                      obtain ⟨r, hr, rfl, rfl, q2, rfl⟩ := hrel
                      by_cases hrp : r < p
                      · obtain ⟨x0, o0, rfl, _, hc0⟩ := K3.rd.at hjn
                        obtain ⟨x1, o1, rfl, _, hc1⟩ := K1.rd.at hrp
                        obtain ⟨x2, o2, rfl, _, hc2⟩ := K2.rd.at hrp
                        have w0 := K3.row j hjn
                        have w1 : Rd W4 W4.heap.size (A1 r) (key (lo r)).length (ci .u8 (key (lo r))) := K1.row r hrp
                        have w2 : Rd W4 W4.heap.size (A2 r) (Pl.hiOf n key (hi r)).length (ci .u8 (Pl.hiOf n key (hi r))) := K2.row r hrp
                        have hc1 : W4.cell? ⟨x1, o1 + r, none⟩ = some (.slice (A1 r) (key (lo r)).length (C1 r)) := hc1
                        have hc2 : W4.cell? ⟨x2, o2 + r, none⟩ = some (.slice (A2 r) (Pl.hiOf n key (hi r)).length (C2 r)) := hc2
                        have hsr := hsp2.out r hrp
                        have q0 := dk.out j hjn
                        have q1 := dk.out (lo r) (by omega)
                        have q2' : (Pl.hiOf n key (hi r)).length ≤ 1048576 := by
                          unfold Pl.hiOf
                          by_cases e : hi r < n
                          · rw [if_pos e]; exact dk.out _ e
                          · rw [if_neg e]; simp
                        have hR := Pl.inR_iff hInc hsr.1 hsr.2 hjn
                        have hws : Hid (wantB lo hi j (r + 1) = (wantB lo hi j r || (decide (lo r ≤ j) && decide (j < hi r)))) := rfl
                        generalize hRR : (decide (lo r ≤ j) && decide (j < hi r)) = R at *
                        clear hRR
                        have HR : Hid (Pl.inR (key j) (key (lo r)) (Pl.hiOf n key (hi r)) = R) := hR
                        clear hR
                        have hri : (r : Int) < (p : Int) := by omega
                        have hji : (j : Int) < (n : Int) := by omega
                        generalize wantB lo hi j r = X0 at *
                        clear P1 P2 K1 K2 K3 hInc hsp2 dk
                        generalize key (lo r) = kl at *
                        generalize Pl.hiOf n key (hi r) = kh at *
                        generalize key j = kj at *
                        cases R with
                        | true =>
                          go_wp2
                          go_quiet ((go_at_call 22; exact quiet_q (in22' _ _ _ _ _ _ kj kl kh _ W4.heap.size (by exact w0) (by exact w1) (by exact w2) (by omega) (by omega) (by omega) true HR.out)))
                          go_wp2
                          go_roundw
                          case rel => exact ⟨r + 1, by omega, by go_num, by rw [hws.out]; simp, _, rfl⟩
                          case measure => simp [intOf]; omega
                        | false =>
                          go_wp2
                          go_quiet ((go_at_call 22; exact quiet_q (in22' _ _ _ _ _ _ kj kl kh _ W4.heap.size (by exact w0) (by exact w1) (by exact w2) (by omega) (by omega) (by omega) false HR.out)))
                          go_wp2
                          go_roundw
                          case rel => exact ⟨r + 1, by omega, by go_num, by rw [hws.out]; simp, _, rfl⟩
                          case measure => simp [intOf]; omega
                      · obtain rfl : r = p := by omega
                        have hne : (wantB lo hi j r != wantB lo hi j r) = false := by simp
                        go_wp2
                        go_roundw
                        case rel => exact ⟨j + 1, by omega, by go_num, _, rfl⟩
                        case measure => simp [intOf]; omega
              · go_wp2
                go_ret
                exact ⟨rfl, below_drewN hb4 _⟩
end Go.Proofs.Qxb6000858a

import Derived.Test.Qxb6000858aBase
namespace Go.Proofs.Qxb6000858a
open Go.RowKit

theorem drewN_add (w : World) (p q : Nat) : (w.drewN p).drewN q = w.drewN (p + q) := by simp [World.drewN, Nat.add_assoc]

theorem cell_drewN (w : World) (q : Nat) (a : Addr) : (w.drewN q).cell? a = w.cell? a := rfl

set_option maxHeartbeats 1000000 in
theorem cmp_any (a1 a2 : Option Addr) (c1 c2 : Nat) (l m : List Int) (w : World) (B1 B2 : Nat) (h1 : Rd w B1 a1 l.length (ci .u8 l)) (h2 : Rd w B2 a2 m.length (ci .u8 m))
    (hl : l.length ≤ 9223372036854775807) (hm : m.length ≤ 9223372036854775807) :
    Calls Try.prog 24 #[.slice a1 l.length c1, .slice a2 m.length c2] w fun e w' => e = .returned (.int .i64 (Pl.cmpL l m)) ∧ ∃ q, w' = w.drewN q := by
  obtain ⟨n, hn⟩ : ∃ n, n = min l.length m.length := ⟨_, rfl⟩
  have hnl : n ≤ l.length := by omega
  have hnm : n ≤ m.length := by omega
  have hend := Pl.cmpL_end l m n hn
  have hlt0 := Pl.cmpL_lt l m
  have hgt0 := Pl.cmpL_gt l m
  have hst0 := Pl.take_step l m
  have HE : Hid (∀ (ht : l.take n = m.take n), Pl.cmpL l m = if l.length < m.length then -1 else if m.length < l.length then 1 else 0) := hend
  clear hend
  have hlt2 : Hid _ := hlt0
  have hgt2 : Hid _ := hgt0
  have hst2 : Hid _ := hst0
  clear hlt0 hgt0 hst0
  generalize hC : Pl.cmpL l m = C at *
  clear hC
  by_cases hlt : m.length < l.length
  · obtain rfl : n = m.length := by omega
    clear hn
    go_enter Try.func24, Try.ntmps24
    go_wp2
    go_loopw [6] (fun i wr => ∃ k : Nat, k ≤ m.length ∧ i = .int .i64 k ∧ Hid (l.take k = m.take k) ∧ Hid (∃ q, wr = w.drewN q)) (fun i _ => m.length - (intOf i).toNat)
    case atStart => exact ⟨0, Nat.zero_le _, rfl, rfl, 0, rfl⟩
    case round =>
      obtain ⟨k, hk, rfl, ht, q, rfl⟩ := hrel
      by_cases hkm : k < m.length
      · obtain ⟨b1, o1, rfl, _, hc1⟩ := h1.at (show k < l.length by omega)
        obtain ⟨b2, o2, rfl, _, hc2⟩ := h2.at hkm
        simp only [ci] at hc1 hc2
        have hkl : (k : Int) < (l.length : Int) := by omega
        have hkm' : (k : Int) < (m.length : Int) := by omega
        have hlt1 : Hid _ := hlt2.out k (by omega) hkm ht
        have hgt1 : Hid _ := hgt2.out k (by omega) hkm ht
        have hst1 : Hid _ := hst2.out k (by omega) hkm ht
        clear hlt2 hgt2 hst2
        generalize l.getD k 0 = x at *
        generalize m.getD k 0 = y at *
        by_cases c1 : x < y
        · go_wp2
          go_quiet (fail)
          go_wp2
          go_ret
          exact ⟨ret_int (hlt1 c1).symm, _, drewN_add _ _ _⟩
        · by_cases c2 : y < x
          · go_wp2
            go_quiet (fail)
            go_wp2
            go_quiet (fail)
            go_wp2
            go_ret
            exact ⟨ret_int (hgt1 c2).symm, _, by rw [drewN_add, drewN_add]⟩
          · go_wp2
            go_quiet (fail)
            go_wp2
            go_quiet (fail)
            go_wp2
            go_roundw
            case rel => exact ⟨k + 1, by omega, by go_num, hst1 (by omega), _, rfl⟩
            case measure => simp [intOf]; omega
      · obtain rfl : k = m.length := by omega
        have hh := HE.out ht
        rw [if_neg (by omega), if_pos hlt] at hh
        clear HE hlt2 hgt2 hst2 ht
        have HH : Hid _ := hh
        clear hh
        go_wp2
        go_ret
        exact ⟨ret_int HH.symm, _, rfl⟩
  · obtain rfl : n = l.length := by omega
    clear hn
    go_enter Try.func24, Try.ntmps24
    go_wp2
    go_loopw [6] (fun i wr => ∃ k : Nat, k ≤ l.length ∧ i = .int .i64 k ∧ Hid (l.take k = m.take k) ∧ Hid (∃ q, wr = w.drewN q)) (fun i _ => l.length - (intOf i).toNat)
    case atStart => exact ⟨0, Nat.zero_le _, rfl, rfl, 0, rfl⟩
    case round =>
      obtain ⟨k, hk, rfl, ht, q, rfl⟩ := hrel
      by_cases hkm : k < l.length
      · obtain ⟨b1, o1, rfl, _, hc1⟩ := h1.at hkm
        obtain ⟨b2, o2, rfl, _, hc2⟩ := h2.at (show k < m.length by omega)
        simp only [ci] at hc1 hc2
        have hkl : (k : Int) < (l.length : Int) := by omega
        have hkm' : (k : Int) < (m.length : Int) := by omega
        have hlt1 : Hid _ := hlt2.out k hkm (by omega) ht
        have hgt1 : Hid _ := hgt2.out k hkm (by omega) ht
        have hst1 : Hid _ := hst2.out k hkm (by omega) ht
        clear hlt2 hgt2 hst2
        generalize l.getD k 0 = x at *
        generalize m.getD k 0 = y at *
        by_cases c1 : x < y
        · go_wp2
          go_quiet (fail)
          go_wp2
          go_ret
          exact ⟨ret_int (hlt1 c1).symm, _, drewN_add _ _ _⟩
        · by_cases c2 : y < x
          · go_wp2
            go_quiet (fail)
            go_wp2
            go_quiet (fail)
            go_wp2
            go_ret
            exact ⟨ret_int (hgt1 c2).symm, _, by rw [drewN_add, drewN_add]⟩
          · go_wp2
            go_quiet (fail)
            go_wp2
            go_quiet (fail)
            go_wp2
            go_roundw
            case rel => exact ⟨k + 1, by omega, by go_num, hst1 (by omega), _, rfl⟩
            case measure => simp [intOf]; omega
      · obtain rfl : k = l.length := by omega
        have hh := HE.out ht
        clear HE hlt2 hgt2 hst2 ht
        have HH : Hid _ := hh
        clear hh
        by_cases hx : l.length < m.length
        · have HH2 : Hid (C = -1) := by rw [HH.out, if_pos hx]; rfl
          clear HH
          go_wp2
          go_ret
          exact ⟨ret_int HH2.symm, _, rfl⟩
        · have HH2 : Hid (C = 0) := by rw [HH.out, if_neg hx, if_neg hlt]; rfl
          clear HH
          go_wp2
          go_ret
          exact ⟨ret_int HH2.symm, _, rfl⟩
end Go.Proofs.Qxb6000858a

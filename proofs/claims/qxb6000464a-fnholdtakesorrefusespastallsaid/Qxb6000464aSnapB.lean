import Derived.Test.Qxb6000464aSnap
namespace Go.Proofs.Qxb6000464a
open Go.RowKit
set_option linter.unusedVariables false

theorem CkRel.drewN {w wr : World} {n k : Nat} {key : Nat → List Int} {A : Nat → Option Addr} {C : Nat → Nat} (h : CkRel w wr n k key A C) (q : Nat) : CkRel w (wr.drewN q) n k key A C :=
  ⟨h.row.of_block rfl, h.inner, h.caps, below_drewN h.below q⟩

/-- what zzSnapOcts hands back. -/
def KN (w : World) (n : Nat) (key : Nat → List Int) (e : Ending) (w' : World) : Prop :=
  ∃ (a : Option Addr) (c : Nat) (A : Nat → Option Addr) (C : Nat → Nat), e = .returned (.slice a n c) ∧ Rn w' w.heap.size a n (fun i => .slice (A i) (key i).length (C i)) ∧ (∀ i, i < n → Rn w' w.heap.size (A i) (key i).length (ci .u8 (key i))) ∧ Below w.heap.size w w'

set_option maxHeartbeats 1000000 in
theorem so20 (bt : Nat) (a : Option Addr) (c : Nat) (L : List Piece) (M : Nat) (w : World) (hA : Asm w bt (.slice a L.length c)) (hL : Hd w 0 a c L) (hl : L.length ≤ 256) (hM : M ≤ 8000000) (hbd : Hid (∀ p ∈ L, p.off + p.oct.length ≤ M)) :
    Calls Try.prog 20 #[.pointer (some ⟨bt, 0, none⟩)] w (KN w L.length (keyL L)) := by
  have hmk := run_make_row' (P := Try.prog) 30 22 (.slice none 0 0) 24 Try.underlying30 Try.info22 rfl .i64 .i64 L.length (by omega) (by omega)
  go_enter Try.func20, Try.ntmps20
  go_wp2_with fail
  refine (ll22 bt a L.length c w hA).mono ?_
  rintro e w' ⟨rfl, rfl⟩
  go_wp2
  go_loopw [5] (fun i wr => ∃ (k : Nat) (A' : Nat → Option Addr) (C' : Nat → Nat), k ≤ L.length ∧ i = .int .i64 k ∧ CkRel w wr L.length k (keyL L) A' C') (fun i _ => L.length - (intOf i).toNat)
  case atStart => exact ⟨0, _, _, Nat.zero_le _, rfl, CkRel.start w L.length (keyL L)⟩
  case round =>
    obtain ⟨k, A', C', hk, rfl, hr⟩ := hrel
    by_cases hkn : k < L.length
    · obtain ⟨p, hp⟩ : ∃ p, L[k]? = some p := ⟨L[k], List.getElem?_eq_getElem hkn⟩
      have hki : (k : Int) < (L.length : Int) := by omega
      have hAr := hA.keep (hr.below.block bt hA.cell.2.2)
      have hLr := hL.keep hr.below
      have hpm : p ∈ L := List.mem_of_getElem? hp
      have hpb := hbd.out p hpm
      go_wp2_with fail
      refine (la24 bt a c L k p wr hAr hLr hp hl).mono ?_
      rintro e w' ⟨rfl, q, rfl⟩
      have hrd : Rd (wr.drewN q) wr.heap.size p.a p.oct.length (ci .u8 p.oct) := (hLr.oct p hpm).rd
      have hr1 := hr.drewN q
      clear hr hAr hLr
      go_wp2_with fail
      refine (cb11 p.a p.oct.length p.c p.oct (wr.drewN q) wr.heap.size (Nat.le_refl _) hrd (by omega) hrd.nil).mono ?_
      rintro e w1 ⟨a', c', rfl, hn1, hcp, hb1⟩
      have hd : w1.cell? ⟨w.heap.size, k, none⟩ = some (.slice none 0 0) := by
        rw [hb1.cell (p := ⟨w.heap.size, k, none⟩) hr1.row.lt, hr1.row.cell hkn, if_neg (by omega)]
      have hf : w1.frozen? ⟨w.heap.size, k, none⟩ = false := by
        rw [hb1.frozen (p := ⟨w.heap.size, k, none⟩) hr1.row.lt, hr1.row.frozen]
      have ek := keyL_at L k p hp
      rw [← ek] at hn1 hcp
      obtain ⟨A2, C2, R2⟩ := hr1.step hn1 hcp hb1
      rw [ek] at R2
      clear hn1 hb1 hr1 hcp ek hrd
      go_wp2
      go_roundw
      case rel => exact ⟨k + 1, A2, C2, by omega, by go_num, R2⟩
      case measure => simp [intOf]; omega
    · obtain rfl : k = L.length := by omega
      go_wp2
      go_ret
      exact ⟨_, _, _, _, rfl, Rn_of_row (hr.row.congr fun i hi => by rw [if_pos hi]) (Nat.le_refl _), fun i hi => (hr.inner i hi).mono (by omega), hr.below⟩

set_option maxHeartbeats 1000000 in
theorem li23 (bt : Nat) (a : Option Addr) (c : Nat) (L : List Piece) (M : Nat) (a1 a2 : Option Addr) (c1 c2 : Nat) (A : Nat → Option Addr) (C : Nat → Nat) (w : World) (B1 B2 : Nat) (hA : Asm w bt (.slice a L.length c)) (hL : Hd w 0 a c L) (hl : L.length ≤ 256) (hM : M ≤ 8000000) (hbd : Hid (∀ p ∈ L, p.off + p.oct.length ≤ M))
    (h1 : Rd w B1 a1 L.length (ci .i64 (offL L))) (h2 : Keys w B2 a2 L.length (keyL L) A C) :
    Calls Try.prog 23 #[.pointer (some ⟨bt, 0, none⟩), .slice a1 L.length c1, .slice a2 L.length c2] w fun e w' => e = .returned (.bool true) ∧ ∃ q, w' = w.drewN q := by
  have hnn : ((L.length : Int) != (L.length : Int)) = false := by simp
  go_enter Try.func23, Try.ntmps23
  go_wp2_with fail
  refine (ll22 bt a L.length c w hA).mono ?_
  rintro e w' ⟨rfl, rfl⟩
  go_wp2
  go_loopw [7] (fun i wr => ∃ j : Nat, j ≤ L.length ∧ i = .int .i64 j ∧ Hid (∃ q, wr = w.drewN q)) (fun i _ => L.length - (intOf i).toNat)
  case atStart => exact ⟨0, Nat.zero_le _, rfl, 0, rfl⟩
  case round =>
    obtain ⟨k, hk, rfl, q, rfl⟩ := hrel
    by_cases hkn : k < L.length
    · obtain ⟨p, hp⟩ : ∃ p, L[k]? = some p := ⟨L[k], List.getElem?_eq_getElem hkn⟩
      have hki : (k : Int) < (L.length : Int) := by omega
      have hpm : p ∈ L := List.mem_of_getElem? hp
      have hpb := hbd.out p hpm
      obtain ⟨b1, o1, rfl, _, hc1⟩ := h1.at hkn
      obtain ⟨b2, o2, rfl, _, hc2⟩ := h2.rd.at hkn
      have hin := h2.row k hkn
      rw [keyL_at L k p hp] at hc2 hin
      simp only [ci] at hc1
      rw [offL_at L k p hp] at hc1
      have hrd := (hL.oct p hpm).rd
      have hpp : ((p.off : Int) != (p.off : Int)) = false := by simp
      go_wp2_with fail
      refine (la24 bt a c L k p (w.drewN q) (hA.drewN q) (hL.drewN q) hp hl).mono ?_
      rintro e w' ⟨rfl, q2, rfl⟩
      clear h1 h2
      go_wp2_with fail
      refine (same27 p.a (A k) p.oct.length p.c (C k) (fun i => p.oct.getD i 0) (w.drewN (q + q2)) _ _ hrd hin (by omega)).mono ?_
      rintro e w' ⟨rfl, q3, rfl⟩
      go_wp2
      go_roundw
      case rel => exact ⟨k + 1, by omega, by go_num, _, rfl⟩
      case measure => simp [intOf]; omega
    · go_wp2
      go_ret
      exact ⟨rfl, q, rfl⟩
end Go.Proofs.Qxb6000464a

import Derived.Test.Qxb6001032aGuards
import Derived.LaidEqlPtr
namespace Go.Proofs.Qxb6001032a
open Go.RowKit
set_option linter.unusedVariables false

/-- a new Tokens. -/
theorem tk_start (w : World) : Tk (w.alloc (.cells #[.map none, .pointer none, .pointer none, .int .i64 0, .int .u64 0] 32)) w.heap.size w.heap.size none 0 (fun _ => none) [] := {
  t := by rw [heap_alloc_new]; rfl
  tlo := Nat.le_refl _
  map0 := fun _ _ => rfl
  map1 := fun b hb => by cases hb
  en := fun s e he => by cases he
  inj := fun s s' e he _ => by cases he
  nodup := List.nodup_nil
  sub := fun e he => by cases he }

theorem Tk.keep {w w' : World} {lo bt n : Nat} {mp : Option Nat} {M : ByteArray → Option Nat} {L : List Nat} (h : Tk w lo bt mp n M L) (hb : Below w.heap.size w w') : Tk w' lo bt mp n M L := {
  t := by rw [hb.block bt (Array.getElem?_eq_some_iff.1 h.t).1]; exact h.t
  tlo := h.tlo
  map0 := h.map0
  map1 := fun b hm => ⟨(h.map1 b hm).1.of_block (hb.block b (h.map1 b hm).1.lt), (h.map1 b hm).2⟩
  en := fun s e he => ⟨by rw [hb.block e (Array.getElem?_eq_some_iff.1 (h.en s e he).1).1]; exact (h.en s e he).1, (h.en s e he).2⟩
  inj := h.inj
  nodup := h.nodup
  sub := h.sub }

theorem Tk.blocks {w : World} {lo bt n : Nat} {mp : Option Nat} {M : ByteArray → Option Nat} {L : List Nat} (h : Tk w lo bt mp n M L) :
    bt < w.heap.size ∧ (∀ b, mp = some b → b < w.heap.size) ∧ ∀ s e, M s = some e → e < w.heap.size :=
  ⟨(Array.getElem?_eq_some_iff.1 h.t).1, fun b hb => (h.map1 b hb).1.lt, fun s e he => (Array.getElem?_eq_some_iff.1 (h.en s e he).1).1⟩

/-- names chosen for all entries at once. -/
theorem Tk.names {w : World} {lo bt n : Nat} {mp : Option Nat} {M : ByteArray → Option Nat} {L : List Nat} (h : Tk w lo bt mp n M L) : ∃ N : Nat → ByteArray, ∀ s e, M s = some e → N e = s := by
  have hc : ∀ e, ∃ t : ByteArray, ∀ s, M s = some e → t = s := fun e => by
    by_cases he : ∃ s, M s = some e
    · obtain ⟨s, hs⟩ := he
      exact ⟨s, fun s' hs' => h.inj s s' e hs hs'⟩
    · exact ⟨ByteArray.empty, fun s hs => absurd ⟨s, hs⟩ he⟩
  obtain ⟨N, hN⟩ := Classical.axiomOfChoice hc
  exact ⟨N, fun s e hs => hN e s hs⟩

theorem Try.info56 : ∃ j, Try.prog.info? 56 = some j := Option.isSome_iff_exists.1 (by kernel_rfl)

theorem eql_same (w : World) (e : Nat) : (binOp .eql 29 (.pointer (some ⟨e, 0, none⟩)) (.pointer (some ⟨e, 0, none⟩))).run Try.prog w = .ok (.bool true) w := by
  obtain ⟨j, hj⟩ := Try.info56
  exact run_eql_ptr_same w _ Try.underlying29 hj

set_option maxRecDepth 100000 in
set_option maxHeartbeats 2000000 in
theorem law4 (a1 a2 : Option Addr) (m c1 k c2 : Nat) (pk : Int) (S : Nat → ByteArray) (Z : Nat → Int) (w : World) (h1 : Rd w w.heap.size a1 m (fun i => .string (S i))) (h2 : Rd w w.heap.size a2 k (fun i => .int .u32 (Z i)))
    (b1 : m ≤ 9223372036854775807) (b2 : k ≤ 9223372036854775807) (bs : Hid (∀ i, i < m → (S i).size ≤ 9223372036854775807)) (bz : Hid (∀ i, i < k → 0 ≤ Z i ∧ Z i ≤ 4294967295)) (p0 : 0 ≤ pk) (p1 : pk ≤ 4294967295) :
    Calls Try.prog 4 #[.slice a1 m c1, .slice a2 k c2, .int .u32 pk] w fun e w' => e = .returned (.bool true) ∧ Below w.heap.size w w' := by
  go_enter Try.func4, Try.ntmps4
  go_wp2_with fail
  refine (zz21 a1 a2 m c1 k c2 pk S w _ h1 b1 b2 bs).mono ?_
  rintro e w' ⟨⟨b, rfl, hb⟩, hw⟩
  have hw := hw.symm
  subst hw
  cases b with
  | false =>
    go_wp2
    go_ret
    exact ⟨rfl, Below.refl _ _⟩
  | true =>
    obtain ⟨d1, d2, ds0⟩ := hb rfl
    have ds : Hid (∀ i, i < m → (S i).size ≤ 1048576) := ds0
    clear ds0 hb bs
    by_cases e1 : 4096 < m
    · have e1' : (4096 : Int) < (m : Int) := by omega
      go_wp2
      go_ret
      exact ⟨rfl, Below.refl _ _⟩
    by_cases e2 : 4096 < k
    · have e1' : ¬ (4096 : Int) < (m : Int) := by omega
      have e2' : (4096 : Int) < (k : Int) := by omega
      go_wp2
      go_ret
      exact ⟨rfl, Below.refl _ _⟩
    have e1' : ¬ (4096 : Int) < (m : Int) := by omega
    have e2' : ¬ (4096 : Int) < (k : Int) := by omega
    go_wp2_with fail
    refine (bo9 a1 a2 m c1 k c2 S w _ h1 (by omega) (by omega) ds).mono ?_
    rintro e w' ⟨⟨b, rfl⟩, hw⟩
    have hw := hw.symm
    subst hw
    cases b with
    | true =>
      go_wp2
      go_ret
      exact ⟨rfl, Below.refl _ _⟩
    | false =>
      by_cases e3 : m = 0
      · have e3' : ((m : Int) == 0) = true := by simp [e3]
        go_wp2
        go_ret
        exact ⟨rfl, Below.refl _ _⟩
      have e3' : ((m : Int) == 0) = false := beq_eq_false_iff_ne.2 (by omega)
      go_wp2_with fail
      refine (cs10 a1 m c1 S w _ (Nat.le_refl _) h1 d1).mono ?_
      rintro e W1 ⟨a1', c1', rfl, r1, bl1⟩
      go_wp2_with fail
      refine (cw11 a2 k c2 Z W1 _ bl1.size (h2.keep bl1) d2).mono ?_
      rintro e W2 ⟨a2', c2', rfl, r2, bl2⟩
      have r1' := (r1.keep bl2).mono bl2.size
      have hb2 : Below w.heap.size w W2 := bl1.trans (bl2.mono bl1.size)
      clear h1 h2 r1 bl1 bl2
      go_wp2_with fail
      have hz3 : W2.heap.size ≤ (W2.alloc (.cells #[.map none, .pointer none, .pointer none, .int .i64 0, .int .u64 0] 32)).heap.size := by simp
      have hal : Below W2.heap.size W2 (W2.alloc (.cells #[.map none, .pointer none, .pointer none, .int .i64 0, .int .u64 0] 32)) := (Below.refl _ _).alloc (Nat.le_refl _) _
      refine (run22 a1' a2' m c1' k c2' S Z _ W2.heap.size W2.heap.size hz3 (r1'.keep hal) (r2.keep hal) (by omega) (by omega) (by omega) ds bz (tk_start W2)).mono ?_
      rintro e W4 ⟨rfl, mp, n, M, L, hT, hn, hNm, bl4⟩
      have hb4' : Below W2.heap.size W2 W4 := hal.trans bl4
      have hb4 : Below w.heap.size w W4 := hb2.trans (hb4'.mono hb2.size)
      have r4 := r1'.keep hb4'
      have hbl2 := hb4'.size
      have hbw := hb2.size
      clear hal hz3 bl4 r2 hb4' r1'
      generalize W2.heap.size = lo at *
      obtain ⟨ix, hix, hwr⟩ := ix_of pk m (by omega) (by omega)
      obtain ⟨f1, o1, rfl, _, hc1⟩ := r4.at hix
      have hixi : (ix : Int) < (m : Int) := by omega
      have hsx := ds.out ix hix
      have hsm : (S ix).size ≤ maxLen := by unfold maxLen; omega
      have hLm := hT.len_le hNm
      generalize S ix = sx at *
      obtain ⟨u, hu⟩ := ptr_shape (M sx)
      go_wp2_with fail
      refine (en18 hT sx hsm u hu).mono ?_
      rintro e w' ⟨rfl, rfl⟩
      cases hM : M sx with
      | none =>
        rw [hM] at hu
        obtain rfl : u = none := by simpa [ptr] using hu.symm
        clear hu
        go_wp2
        go_ret
        exact ⟨rfl, hb4⟩
      | some e0 =>
        rw [hM] at hu
        obtain rfl : u = some ⟨e0, 0, none⟩ := by simpa [ptr] using hu.symm
        clear hu
        have he0 := (hT.en sx e0 hM).1
        by_cases hL : e0 ∈ L
        · rw [decide_eq_true hL] at he0
          have e3 : W4.cell? ⟨e0, 3, none⟩ = some (.bool true) := cell_blk he0 rfl
          clear he0
          go_wp2_with fail
          refine (g19 e0 true W4 e3).mono ?_
          rintro e w' ⟨rfl, rfl⟩
          go_wp2
          go_ret
          exact ⟨rfl, hb4⟩
        · rw [decide_eq_false hL] at he0
          have e3 : W4.cell? ⟨e0, 3, none⟩ = some (.bool false) := cell_blk he0 rfl
          obtain ⟨N, hN⟩ := hT.names
          have hN2 : Hid (∀ e, e ∈ L → M (N e) = some e) := fun e he => by
            obtain ⟨s, hs⟩ := hT.sub e he
            rw [hN s e hs]; exact hs
          clear he0 hN
          go_wp2_with fail
          refine (g19 e0 false W4 e3).mono ?_
          rintro e w' ⟨rfl, rfl⟩
          go_wp2_with fail
          refine (order16 hT N hN2 ((m : Int) + 1) (by omega) (by omega)).mono ?_
          rintro e W5 ⟨ab, cb, rfl, rb, bl5⟩
          have hT5 := hT.keep bl5
          have hb5 : Below w.heap.size w W5 := hb4.trans (bl5.mono (by omega))
          have e1' : W5.cell? ⟨e0, 1, none⟩ = some (.int .u64 0) := cell_blk (hT5.en sx e0 hM).1 rfl
          go_wp2_with fail
          refine (g20 e0 0 W5 e1').mono ?_
          rintro e w' ⟨rfl, rfl⟩
          go_wp2_with fail
          refine (zf14 hT5 sx hsm (by omega)).mono ?_
          rintro e W6 ⟨rfl, hT6, bl6, fr6⟩
          rw [hM] at hT6
          simp only [freeL, if_neg hL] at hT6
          have hsz5 := bl5.size
          have hsz6 := bl6.size
          have hb6 : Below w.heap.size w W6 := hb5.trans (bl6.mono (by omega))
          obtain ⟨k1, k2, k3⟩ := hT.blocks
          have rb6 := rb.frame fr6 hsz6 k1 k2 k3
          go_wp2_with fail
          refine (zh12 hT6 sx hsm (by simp; omega) (by omega) (by omega)).mono ?_
          rintro e W7 ⟨e7, mp7, n7, rfl, he7, hn7, hT7, bl7, fr7⟩
          obtain rfl := he7 e0 hM
          rw [upd_same hM, hM] at hT7
          simp only [holdL] at hT7
          rw [List.erase_append_right _ hL, List.erase_cons_head, List.append_nil] at hT7
          have hsz7 := bl7.size
          have hb7 : Below w.heap.size w W7 := hb6.trans (bl7.mono (by omega))
          have rb7 := rb6.frame fr7 hsz7 k1 k2 k3
          go_wp2_with fail
          refine (order16 hT7 N hN2 ((m : Int) + 1) (by omega) (by omega)).mono ?_
          rintro e W8 ⟨aa, ca, rfl, ra, bl8⟩
          have hT8 := hT7.keep bl8
          have hb8 : Below w.heap.size w W8 := hb7.trans (bl8.mono (by omega))
          have rb8 := (rb7.keep bl8).rd
          have ra8 := ra.rd
          have he8 := (hT8.en sx e7 hM).1
          rw [decide_eq_false hL] at he8
          have g1 : W8.cell? ⟨e7, 1, none⟩ = some (.int .u64 0) := cell_blk he8 rfl
          have g3 : W8.cell? ⟨e7, 3, none⟩ = some (.bool false) := cell_blk he8 rfl
          clear he8 hT8 hT7 hT6 hT5 hT rb7 rb6 rb fr6 fr7 bl8 bl7 bl6 bl5 hN2
          have qe := eql_same
          go_wp2_with fail
          refine (g20 e7 0 W8 g1).mono ?_
          rintro e w' ⟨rfl, rfl⟩
          go_wp2_with fail
          refine (g19 e7 false W8 g3).mono ?_
          rintro e w' ⟨rfl, rfl⟩
          go_wp2_with fail
          refine (same17 ab aa L.length cb ca (fun i => N (L.getD i 0)) W8 _ _ rb8 ra8 (by omega)).mono ?_
          rintro e w' ⟨rfl, q, rfl⟩
          go_wp2
          go_ret
          exact ⟨rfl, below_drewN hb8 q⟩
end Go.Proofs.Qxb6001032a

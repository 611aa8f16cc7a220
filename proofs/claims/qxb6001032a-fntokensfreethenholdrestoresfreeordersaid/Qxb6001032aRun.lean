import Derived.Test.Qxb6001032aHold
namespace Go.Proofs.Qxb6001032a
open Go.RowKit
set_option linter.unusedVariables false

/-- A SLICE THAT IS ONLY READ: n cells, cell i holding 'f i', in a block below B. -/
def Rd (w : World) (B : Nat) (a : Option Addr) (n : Nat) (f : Nat → Value) : Prop :=
  n = 0 ∨ ∃ b off, a = some ⟨b, off, none⟩ ∧ b < B ∧ ∀ i, i < n → w.cell? ⟨b, off + i, none⟩ = some (f i)

theorem Rd.keep {w w' : World} {B : Nat} {a : Option Addr} {n : Nat} {f : Nat → Value} (h : Rd w B a n f) (hb : Below B w w') : Rd w' B a n f := by
  rcases h with h | ⟨b, off, e, hB, hc⟩
  · exact .inl h
  · exact .inr ⟨b, off, e, hB, fun i hi => (hb.cell (p := ⟨b, off + i, none⟩) hB).trans (hc i hi)⟩

theorem Rd.mono {w : World} {B B' : Nat} {a : Option Addr} {n : Nat} {f : Nat → Value} (h : Rd w B a n f) (hb : B ≤ B') : Rd w B' a n f := by
  rcases h with h | ⟨b, off, e, hB, hc⟩
  · exact .inl h
  · exact .inr ⟨b, off, e, by omega, hc⟩

theorem Rd.at {w : World} {B : Nat} {a : Option Addr} {n : Nat} {f : Nat → Value} (h : Rd w B a n f) {k : Nat} (hk : k < n) : ∃ b off, a = some ⟨b, off, none⟩ ∧ b < B ∧ w.cell? ⟨b, off + k, none⟩ = some (f k) := by
  rcases h with h | ⟨b, off, e, hB, hc⟩
  · omega
  · exact ⟨b, off, e, hB, hc k hk⟩

theorem Rd.nil {w : World} {B : Nat} {a : Option Addr} {n : Nat} {f : Nat → Value} (h : Rd w B a n f) : a = none → n = 0 := by
  intro e
  rcases h with h | ⟨b, off, e2, _, _⟩
  · exact h
  · rw [e] at e2; cases e2

theorem drewN_add (w : World) (p q : Nat) : (w.drewN p).drewN q = w.drewN (p + q) := by simp [World.drewN, Nat.add_assoc]

/-- every known name is among the resources. -/
def Named (M : ByteArray → Option Nat) (S : Nat → ByteArray) (m : Nat) : Prop := ∀ s e, M s = some e → ∃ i, i < m ∧ S i = s

theorem Named.upd {M : ByteArray → Option Nat} {S : Nat → ByteArray} {m : Nat} (h : Named M S m) {i : Nat} (hi : i < m) (e : Nat) : Named (upd M (S i) e) S m := by
  intro s e' he
  unfold Qxb6001032a.upd at he
  by_cases hs : s = S i
  · exact ⟨i, hi, hs.symm⟩
  · rw [if_neg hs] at he; exact h s e' he

/-- the free ones are no more than the resources. -/
theorem Tk.len_le {w : World} {lo bt n : Nat} {mp : Option Nat} {M : ByteArray → Option Nat} {L : List Nat} (h : Tk w lo bt mp n M L) {S : Nat → ByteArray} {m : Nat} (hN : Named M S m) : L.length ≤ m := by
  have hc : ∀ e, ∃ s : ByteArray, e ∈ L → M s = some e := fun e => by
    by_cases he : e ∈ L
    · obtain ⟨s, hs⟩ := h.sub e he; exact ⟨s, fun _ => hs⟩
    · exact ⟨ByteArray.empty, fun hh => absurd hh he⟩
  obtain ⟨nm, hnm⟩ := Classical.axiomOfChoice hc
  have := Pl.length_le_of_inj L ((List.range m).map S) nm h.nodup (fun e he => by
    obtain ⟨i, hi, e2⟩ := hN _ _ (hnm e he)
    exact List.mem_map.2 ⟨i, List.mem_range.2 hi, e2⟩) (fun a ha b hb e => by
    have h1 := hnm a ha
    have h2 := hnm b hb
    rw [e] at h1
    rw [h1] at h2
    exact Option.some.inj h2)
  simpa using this

/-- what a script leaves. -/
def RunPost (lo bt m : Nat) (S : Nat → ByteArray) (w : World) (x : Ending) (w' : World) : Prop :=
  x = .returned (.tuple #[]) ∧ ∃ mp n M L, Tk w' lo bt mp n M L ∧ n ≤ 4096 ∧ Named M S m ∧ Below lo w w'

/-- the loop of zzRun. -/
structure RunRel (w wr : World) (lo bt m k : Nat) (S : Nat → ByteArray) : Prop where
  st : ∃ mp n M L, Tk wr lo bt mp n M L ∧ n ≤ k ∧ Named M S m
  below : Below lo w wr

theorem ix_of (z : Int) (m : Nat) (hm0 : 0 < m) (hm : m ≤ 4096) : ∃ ix : Nat, ix < m ∧ wrap64 (z % (m : Int)) = (ix : Int) := by
  have h0 := Int.emod_nonneg z (show (m : Int) ≠ 0 by omega)
  have h1 := Int.emod_lt_of_pos z (show (0 : Int) < (m : Int) by omega)
  refine ⟨(z % (m : Int)).toNat, by omega, ?_⟩
  rw [IntWalk.wrap64_in _ ⟨by omega, by omega⟩]
  omega

theorem RunRel.hold {w wr w' : World} {lo bt m k i n : Nat} {S : Nat → ByteArray} {M : ByteArray → Option Nat} {L : List Nat} (hb : Below lo w wr) (hn : n ≤ k) (hN : Named M S m) (hi : i < m) {x : Ending} {mp : Option Nat} (h : HoldPost wr lo bt mp n M L (S i) x w') :
    ∃ v, x = .returned (.pointer v) ∧ RunRel w w' lo bt m (k + 1) S := by
  obtain ⟨e, mp', n', rfl, _, hn', hT, hb', _⟩ := h
  exact ⟨_, rfl, ⟨mp', n', _, _, hT, by omega, hN.upd hi e⟩, hb.trans hb'⟩

set_option maxHeartbeats 1000000 in
theorem zh12 {w : World} {lo bt n : Nat} {mp : Option Nat} {M : ByteArray → Option Nat} {L : List Nat} (h : Tk w lo bt mp n M L) (s : ByteArray) (hs : s.size ≤ maxLen) (hk : L.length ≤ 1048576) (hn : n < 1048576) (hlo : lo ≤ w.heap.size) :
    Calls Try.prog 12 #[.pointer (some ⟨bt, 0, none⟩), .string s] w (HoldPost w lo bt mp n M L s) := by
  go_enter Try.func12, Try.ntmps12
  go_wp2_with fail
  refine (hold29 h s hs hk hn hlo).mono ?_
  rintro x w' ⟨e, mp', n', rfl, r⟩
  go_wp2
  go_ret
  exact ⟨e, mp', n', rfl, r⟩

set_option maxHeartbeats 1000000 in
theorem zf14 {w : World} {lo bt n : Nat} {mp : Option Nat} {M : ByteArray → Option Nat} {L : List Nat} (h : Tk w lo bt mp n M L) (s : ByteArray) (hs : s.size ≤ maxLen) (hk : L.length ≤ 1048576) :
    Calls Try.prog 14 #[.pointer (some ⟨bt, 0, none⟩), .string s] w fun x w' => x = .returned (.tuple #[]) ∧ TkPost lo bt mp n M (freeL L (M s)) w w' := by
  go_enter Try.func14, Try.ntmps14
  go_wp2_with fail
  refine (free30 h s hs hk).mono ?_
  rintro x w' ⟨rfl, r⟩
  go_wp2
  go_end0
  exact ⟨rfl, r⟩

set_option maxHeartbeats 1000000 in
theorem run22 (a1 a2 : Option Addr) (m c1 k c2 : Nat) (S : Nat → ByteArray) (Z : Nat → Int) (w : World) (lo bt : Nat) (hlo : lo ≤ w.heap.size)
    (h1 : Rd w lo a1 m (fun i => .string (S i))) (h2 : Rd w lo a2 k (fun i => .int .u32 (Z i))) (hm : m ≤ 4096) (hm0 : 0 < m) (hk : k ≤ 4096)
    (hS : Hid (∀ i, i < m → (S i).size ≤ 1048576)) (hZ : Hid (∀ i, i < k → 0 ≤ Z i ∧ Z i ≤ 4294967295)) (hT : Tk w lo bt none 0 (fun _ => none) []) :
    Calls Try.prog 22 #[.pointer (some ⟨bt, 0, none⟩), .slice a1 m c1, .slice a2 k c2] w (RunPost lo bt m S w) := by
  go_enter Try.func22, Try.ntmps22
  go_wp2
  go_loopw [7] (fun i wr => ∃ j : Nat, j ≤ k ∧ i = .int .i64 j ∧ RunRel w wr lo bt m j S) (fun i _ => k - (intOf i).toNat)
  case atStart => exact ⟨0, Nat.zero_le _, rfl, ⟨none, 0, _, [], hT, Nat.le_refl _, fun s e he => by cases he⟩, Below.refl _ _⟩
  case round =>
    obtain ⟨j, hj, rfl, hr⟩ := hrel
    by_cases hjk : j < k
    · obtain ⟨b2, o2, rfl, hb2, hc2⟩ := h2.at hjk
      obtain ⟨b1, o1, e1, hb1, _⟩ := h1.at hm0
      subst e1
      obtain ⟨z0, z1⟩ := hZ.out j hjk
      have hc2' : wr.cell? ⟨b2, o2 + j, none⟩ = some (.int .u32 (Z j)) := (hr.below.cell (p := ⟨b2, o2 + j, none⟩) hb2).trans hc2
      have hji : (j : Int) < (k : Int) := by omega
      clear hc2
      generalize Z j = z at *
      obtain ⟨ix, hix, hwr⟩ := ix_of (z / 2) m hm0 hm
      obtain ⟨b1', o1', e1, _, hc1⟩ := h1.at hix
      simp only [Option.some.injEq, Addr.mk.injEq, and_true] at e1
      obtain ⟨rfl, rfl⟩ := e1
      have hc1' : wr.cell? ⟨b1, o1 + ix, none⟩ = some (.string (S ix)) := (hr.below.cell (p := ⟨b1, o1 + ix, none⟩) hb1).trans hc1
      have hixi : (ix : Int) < (m : Int) := by omega
      have hs := hS.out ix hix
      have hsm : (S ix).size ≤ maxLen := by unfold maxLen; omega
      have hsz : lo ≤ wr.heap.size := Nat.le_trans hlo hr.below.size
      obtain ⟨⟨mp, n, M, L, hT', hn', hN⟩, hbel⟩ := hr
      have hLm := hT'.len_le hN
      clear hc1
      by_cases hev : (bits BinOp.and IntKind.u32 z 1 == 0) = true
      · go_wp2_with fail
        refine (zh12 hT' (S ix) hsm (by omega) (by omega) hsz).mono ?_
        intro x w' hp
        obtain ⟨v, rfl, R⟩ := RunRel.hold hbel hn' hN hix hp
        clear hp
        go_wp2
        go_roundw
        case rel => exact ⟨j + 1, by omega, by go_num, R⟩
        case measure => simp [intOf]; omega
      · have hev' : (bits BinOp.and IntKind.u32 z 1 == 0) = false := by simpa using hev
        go_wp2_with fail
        refine (zf14 hT' (S ix) hsm (by omega)).mono ?_
        rintro x w' ⟨rfl, k1, k2⟩
        go_wp2
        go_roundw
        case rel => exact ⟨j + 1, by omega, by go_num, ⟨mp, n, M, _, k1, by omega, hN⟩, hbel.trans k2.1⟩
        case measure => simp [intOf]; omega
    · go_wp2
      go_end0
      obtain ⟨⟨mp, n, M, L, hT', hn', hN⟩, hbel⟩ := hr
      exact ⟨rfl, mp, n, M, L, hT', by omega, hN, hbel⟩
end Go.Proofs.Qxb6001032a

import Derived.Test.Qxb6000858aGuards
namespace Go.Proofs.Qxb6000858a
open Go.RowKit

/-- a contract that draws, inside a region that draws, the world behind q draws. -/
theorem quiet_q {P : Program} {f : FuncId} {args : Array Value} {w : World} {q n : Nat} {v : Value}
    (h : Calls P f args (w.drewN (q + n)) fun e w' => e = .returned v ∧ ∃ m, w' = (w.drewN (q + n)).drewN m) : Calls P f args (w.drewN (q + n)) fun e w'' => e = .returned v ∧ ∃ m, w'' = w.drewN (q + m) :=
  h.mono fun _ _ ⟨he, m, hm⟩ => ⟨he, n + m, by rw [hm, drewN_add, Nat.add_assoc]⟩

/-- what keysIncreasingB1 answers. -/
def IncPost (n : Nat) (key : Nat → List Int) (e : Ending) : Prop := ∃ b, e = .returned (.bool b) ∧ (b = true → Pl.Inc n key)

set_option maxHeartbeats 1000000 in
theorem inc19 (a3 : Option Addr) (n3 c3 : Nat) (key : Nat → List Int) (A : Nat → Option Addr) (C : Nat → Nat) (w : World) (B : Nat) (hK : Keys w B a3 n3 key A C)
    (b3 : n3 ≤ 1048576) (bk : Hid (∀ i, i < n3 → (key i).length ≤ 1048576)) :
    Calls Try.prog 19 #[.slice a3 n3 c3] w fun e w' => IncPost n3 key e ∧ ∃ q, w' = w.drewN q := by
  go_enter Try.func19, Try.ntmps19
  go_wp2
  go_loopw [3] (fun i wr => ∃ (j : Nat), 1 ≤ j ∧ (j = 1 ∨ j ≤ n3) ∧ i = .int .i64 (j : Int) ∧ Hid (Pl.Inc j key) ∧ Hid (∃ q, wr = w.drewN q)) (fun i _ => n3 - (intOf i).toNat)
  case atStart => exact ⟨1, Nat.le_refl _, .inl rfl, rfl, fun i hi => by omega, 0, rfl⟩
  case round =>
    obtain ⟨j, hj1, hjn, rfl, hs, q, rfl⟩ := hrel
    by_cases hkn : j < n3
    · obtain ⟨k, hk⟩ : ∃ k, j = k + 1 := ⟨j - 1, by omega⟩
      obtain ⟨b, o, e1, _, hc1⟩ := hK.rd.at (show k < n3 by omega)
      obtain ⟨b', o', e2, _, hc2⟩ := hK.rd.at hkn
      subst e1
      simp only [Option.some.injEq, Addr.mk.injEq, and_true] at e2
      obtain ⟨rfl, rfl⟩ := e2
      have hl1 := bk.out k (by omega)
      have hl2 := bk.out j hkn
      have r1 := hK.row k (by omega)
      have r2 := hK.row j hkn
      have hi1 : (k : Int) < (n3 : Int) := by omega
      have hi2 : (j : Int) < (n3 : Int) := by omega
      have hst : Hid (Pl.cmpL (key k) (key j) < 0 → Pl.Inc (j + 1) key) := fun h i hi => by
        by_cases e : i = k
        · subst e; rw [← hk]; exact h
        · exact hs.out i (by omega)
      have hwr : IntKind.i64.wrap ((j : Int) - 1) = (k : Int) := by rw [IntWalk.i64_in _ (by omega)]; omega
      clear hs bk hk
      by_cases hc : Pl.cmpL (key k) (key j) < 0
      · go_wp2
        go_quiet ((go_at_call 24; exact quiet_q (cmp_any _ _ _ _ (key k) (key j) _ B B (by exact r1) (by exact r2) (by omega) (by omega))))
        go_wp2
        go_roundw
        case rel => exact ⟨j + 1, by omega, .inr (by omega), by go_num, hst.out hc, _, rfl⟩
        case measure => simp [intOf]; omega
      · go_wp2
        go_quiet ((go_at_call 24; exact quiet_q (cmp_any _ _ _ _ (key k) (key j) _ B B (by exact r1) (by exact r2) (by omega) (by omega))))
        go_wp2
        go_ret
        exact ⟨⟨false, rfl, fun h => by cases h⟩, _, drewN_add _ _ _⟩
    · go_wp2
      go_ret
      refine ⟨⟨true, rfl, fun _ i hi => hs.out i (by omega)⟩, q, rfl⟩
end Go.Proofs.Qxb6000858a

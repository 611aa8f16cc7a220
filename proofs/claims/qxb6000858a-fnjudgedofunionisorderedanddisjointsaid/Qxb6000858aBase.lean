/- Seat b6000858a: the common words of the walks. -/
import Derived.Test.Qxb6000858aProg
import Derived.Test.Qxb6000858aPlain
import Derived.WalkKit
import Derived.WalkLawsBesides
import Derived.WalkSpells
import Derived.Deep.OwnRows
import Derived.Deep.QuietTactic
import Derived.BigQuiet
import Derived.RegionTactic
import Derived.Handy
namespace Go.Proofs.Qxb6000858a
open Go.RowKit

/-- A SLICE THAT IS ONLY READ: n cells, cell i holding 'f i', in a block below B. -/
def Rd (w : World) (B : Nat) (a : Option Addr) (n : Nat) (f : Nat → Value) : Prop :=
  n = 0 ∨ ∃ b off, a = some ⟨b, off, none⟩ ∧ b < B ∧ ∀ i, i < n → w.cell? ⟨b, off + i, none⟩ = some (f i)

theorem Rd.keep {w w' : World} {B : Nat} {a : Option Addr} {n : Nat} {f : Nat → Value} (h : Rd w B a n f) (hb : Below B w w') : Rd w' B a n f := by
  rcases h with h | ⟨b, off, e, hB, hc⟩
  · exact .inl h
  · exact .inr ⟨b, off, e, hB, fun i hi => (hb.cell (p := ⟨b, off + i, none⟩) hB).trans (hc i hi)⟩

theorem Rd.mono {w : World} {B B' : Nat} {a : Option Addr} {n : Nat} {f : Nat → Value} (h : Rd w B a n f) (hb : B ≤ B') : Rd w B' a n f := by
  rcases h with h | ⟨b, off, e, hB, hc⟩
  · exact .inl h
  · exact .inr ⟨b, off, e, by omega, hc⟩

theorem Rd.at {w : World} {B : Nat} {a : Option Addr} {n : Nat} {f : Nat → Value} (h : Rd w B a n f) {k : Nat} (hk : k < n) : ∃ b off, a = some ⟨b, off, none⟩ ∧ b < B ∧ w.cell? ⟨b, off + k, none⟩ = some (f k) := by
  rcases h with h | ⟨b, off, e, hB, hc⟩
  · omega
  · exact ⟨b, off, e, hB, hc k hk⟩

theorem Rd.drewN {w : World} {B : Nat} {a : Option Addr} {n : Nat} {f : Nat → Value} (h : Rd w B a n f) (q : Nat) : Rd (w.drewN q) B a n f := h

/-- A list of numbers as cells. -/
def ci (k : IntKind) (l : List Int) : Nat → Value := fun i => .int k (l.getD i 0)

theorem ret_int {k : IntKind} {a b : Int} (h : a = b) : Ending.returned (.int k a) = .returned (.int k b) := by rw [h]
theorem ret_bool {a b : Bool} (h : a = b) : Ending.returned (.bool a) = .returned (.bool b) := by rw [h]
end Go.Proofs.Qxb6000858a

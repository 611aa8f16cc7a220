/- Seat b6000464a: the common words of the walks. -/
import Derived.Test.Qxb6000464aProg
import Derived.WalkKit
import Derived.WalkLawsBesides
import Derived.WalkSpells
import Derived.Deep.OwnRows
import Derived.Deep.QuietTactic
import Derived.BigQuiet
import Derived.RegionTactic
import Derived.Handy
namespace Go.Proofs.Qxb6000464a
open Go.RowKit
set_option linter.unusedVariables false

/-- A SLICE THAT IS ONLY READ: n cells, cell i holding 'f i', in a block below B. -/
def Rd (w : World) (B : Nat) (a : Option Addr) (n : Nat) (f : Nat → Value) : Prop :=
  n = 0 ∨ ∃ b off, a = some ⟨b, off, none⟩ ∧ b < B ∧ ∀ i, i < n → w.cell? ⟨b, off + i, none⟩ = some (f i)

theorem Rd.keep {w w' : World} {B : Nat} {a : Option Addr} {n : Nat} {f : Nat → Value} (h : Rd w B a n f) (hb : Below B w w') : Rd w' B a n f := by
  rcases h with h | ⟨b, off, e, hB, hc⟩
  · exact .inl h
  · exact .inr ⟨b, off, e, hB, fun i hi => (hb.cell (p := ⟨b, off + i, none⟩) hB).trans (hc i hi)⟩

theorem Rd.mono {w : World} {B B' : Nat} {a : Option Addr} {n : Nat} {f : Nat → Value} (h : Rd w B a n f) (hb : B ≤ B') : Rd w B' a n f := by
  rcases h with h | ⟨b, off, e, hB, hc⟩
  · exact .inl h
  · exact .inr ⟨b, off, e, by omega, hc⟩

theorem Rd.at {w : World} {B : Nat} {a : Option Addr} {n : Nat} {f : Nat → Value} (h : Rd w B a n f) {k : Nat} (hk : k < n) : ∃ b off, a = some ⟨b, off, none⟩ ∧ b < B ∧ w.cell? ⟨b, off + k, none⟩ = some (f k) := by
  rcases h with h | ⟨b, off, e, hB, hc⟩
  · omega
  · exact ⟨b, off, e, hB, hc k hk⟩

theorem Rd.drewN {w : World} {B : Nat} {a : Option Addr} {n : Nat} {f : Nat → Value} (h : Rd w B a n f) (q : Nat) : Rd (w.drewN q) B a n f := h

/-- A list of numbers as cells. -/
def ci (k : IntKind) (l : List Int) : Nat → Value := fun i => .int k (l.getD i 0)

theorem ret_int {k : IntKind} {a b : Int} (h : a = b) : Ending.returned (.int k a) = .returned (.int k b) := by rw [h]
theorem ret_bool {a b : Bool} (h : a = b) : Ending.returned (.bool a) = .returned (.bool b) := by rw [h]
theorem Rd.nil {w : World} {B : Nat} {a : Option Addr} {n : Nat} {f : Nat → Value} (h : Rd w B a n f) : a = none → n = 0 := by
  intro e
  rcases h with h | ⟨b, off, e2, _, _⟩
  · exact h
  · rw [e] at e2; cases e2

/-- A [][]byte that is only read. -/
structure Keys (w : World) (B : Nat) (a : Option Addr) (n : Nat) (key : Nat → List Int) (A : Nat → Option Addr) (C : Nat → Nat) : Prop where
  rd : Rd w B a n (fun i => .slice (A i) (key i).length (C i))
  row : ∀ i, i < n → Rd w B (A i) (key i).length (ci .u8 (key i))

theorem Keys.keep {w w' : World} {B : Nat} {a : Option Addr} {n : Nat} {key : Nat → List Int} {A : Nat → Option Addr} {C : Nat → Nat} (h : Keys w B a n key A C) (hb : Below B w w') : Keys w' B a n key A C :=
  ⟨h.rd.keep hb, fun i hi => (h.row i hi).keep hb⟩

theorem Keys.mono {w : World} {B B' : Nat} {a : Option Addr} {n : Nat} {key : Nat → List Int} {A : Nat → Option Addr} {C : Nat → Nat} (h : Keys w B a n key A C) (hb : B ≤ B') : Keys w B' a n key A C :=
  ⟨h.rd.mono hb, fun i hi => (h.row i hi).mono hb⟩


/-- some number up to m. -/
def SomeInt (m : Int) (e : Ending) : Prop := ∃ b : Int, e = .returned (.int .i64 b) ∧ 0 ≤ b ∧ b ≤ m
end Go.Proofs.Qxb6000464a

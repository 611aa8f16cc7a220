/- Seat b6001546a: the common words of the walks. -/
import Derived.Test.Qxb6001546aProg
import Derived.WalkKit
import Derived.WalkLawsBesides
import Derived.WalkSpells
import Derived.Deep.OwnRows
import Derived.Deep.QuietTactic
import Derived.BigQuiet
import Derived.RegionTactic
import Derived.Handy
namespace Go.Proofs.Qxb6001546a
open Go.RowKit
set_option linter.unusedVariables false

/-- A SLICE THAT IS ONLY READ: n cells, cell i holding 'f i', in a block below B. -/
def Rd (w : World) (B : Nat) (a : Option Addr) (n : Nat) (f : Nat → Value) : Prop :=
  n = 0 ∨ ∃ b off, a = some ⟨b, off, none⟩ ∧ b < B ∧ ∀ i, i < n → w.cell? ⟨b, off + i, none⟩ = some (f i)

theorem Rd.keep {w w' : World} {B : Nat} {a : Option Addr} {n : Nat} {f : Nat → Value} (h : Rd w B a n f) (hb : Below B w w') : Rd w' B a n f := by
  rcases h with h | ⟨b, off, e, hB, hc⟩
  · exact .inl h
  · exact .inr ⟨b, off, e, hB, fun i hi => (hb.cell (p := ⟨b, off + i, none⟩) hB).trans (hc i hi)⟩

theorem Rd.mono {w : World} {B B' : Nat} {a : Option Addr} {n : Nat} {f : Nat → Value} (h : Rd w B a n f) (hb : B ≤ B') : Rd w B' a n f := by
  rcases h with h | ⟨b, off, e, hB, hc⟩
  · exact .inl h
  · exact .inr ⟨b, off, e, by omega, hc⟩

theorem Rd.at {w : World} {B : Nat} {a : Option Addr} {n : Nat} {f : Nat → Value} (h : Rd w B a n f) {k : Nat} (hk : k < n) : ∃ b off, a = some ⟨b, off, none⟩ ∧ b < B ∧ w.cell? ⟨b, off + k, none⟩ = some (f k) := by
  rcases h with h | ⟨b, off, e, hB, hc⟩
  · omega
  · exact ⟨b, off, e, hB, hc k hk⟩

theorem Rd.nil {w : World} {B : Nat} {a : Option Addr} {n : Nat} {f : Nat → Value} (h : Rd w B a n f) : a = none → n = 0 := by
  intro e
  rcases h with h | ⟨b, off, e2, _, _⟩
  · exact h
  · rw [e] at e2; cases e2

theorem Rd.drewN {w : World} {B : Nat} {a : Option Addr} {n : Nat} {f : Nat → Value} (h : Rd w B a n f) (q : Nat) : Rd (w.drewN q) B a n f := h

theorem rd_of_row {w : World} {b : Nat} {t : TypeId} {n : Nat} {f : Nat → Value} (h : w.rowIs b t n f) : Rd w w.heap.size (some ⟨b, 0, none⟩) n f :=
  .inr ⟨b, 0, rfl, h.lt, fun i hi => by rw [Nat.zero_add]; exact h.cell hi⟩

theorem ret_bool {a b : Bool} (h : a = b) : Ending.returned (.bool a) = .returned (.bool b) := by rw [h]

/-- a colSpec's 17 cells. -/
structure Spec where
  s0 : ByteArray
  s1 : ByteArray
  b2 : Bool
  b3 : Bool
  b4 : Bool
  b5 : Bool
  s6 : ByteArray
  b7 : Bool
  s8 : ByteArray
  b9 : Bool
  s10 : ByteArray
  s11 : ByteArray
  b12 : Bool
  s13 : ByteArray
  s14 : ByteArray
  s15 : ByteArray
  s16 : ByteArray

def Spec.cell (c : Spec) : Nat → Value
  | 0 => .string c.s0
  | 1 => .string c.s1
  | 2 => .bool c.b2
  | 3 => .bool c.b3
  | 4 => .bool c.b4
  | 5 => .bool c.b5
  | 6 => .string c.s6
  | 7 => .bool c.b7
  | 8 => .string c.s8
  | 9 => .bool c.b9
  | 10 => .string c.s10
  | 11 => .string c.s11
  | 12 => .bool c.b12
  | 13 => .string c.s13
  | 14 => .string c.s14
  | 15 => .string c.s15
  | _ => .string c.s16

def Spec.val (c : Spec) : Value := .agg #[.string c.s0, .string c.s1, .bool c.b2, .bool c.b3, .bool c.b4, .bool c.b5, .string c.s6, .bool c.b7, .string c.s8, .bool c.b9, .string c.s10, .string c.s11, .bool c.b12, .string c.s13, .string c.s14, .string c.s15, .string c.s16]

def Spec.zero : Spec := ⟨ByteArray.empty, ByteArray.empty, false, false, false, false, ByteArray.empty, false, ByteArray.empty, false, ByteArray.empty, ByteArray.empty, false, ByteArray.empty, ByteArray.empty, ByteArray.empty, ByteArray.empty⟩

/-- all strings of it are of a length that Go has. -/
def Spec.ok (c : Spec) : Prop := c.s0.size ≤ 9223372036854775807 ∧ c.s1.size ≤ 9223372036854775807 ∧ c.s6.size ≤ 9223372036854775807 ∧ c.s8.size ≤ 9223372036854775807 ∧ c.s10.size ≤ 9223372036854775807 ∧ c.s11.size ≤ 9223372036854775807 ∧
  c.s13.size ≤ 9223372036854775807 ∧ c.s14.size ≤ 9223372036854775807 ∧ c.s15.size ≤ 9223372036854775807 ∧ c.s16.size ≤ 9223372036854775807

/-- rows of 17 cells. -/
def spf (S : Nat → Spec) : Nat → Value := fun j => (S (j / 17)).cell (j % 17)

theorem spf_at (S : Nat → Spec) (k j : Nat) (hj : j < 17) : spf S (k * 17 + j) = (S k).cell j := by
  unfold spf
  rw [show (k * 17 + j) / 17 = k by omega, show (k * 17 + j) % 17 = j by omega]

/-- the 17 cells at one place. -/
structure At17 (w : World) (b o : Nat) (c : Spec) : Prop where
  h0 : w.cell? ⟨b, o, none⟩ = some (.string c.s0)
  h1 : w.cell? ⟨b, o + 1, none⟩ = some (.string c.s1)
  h2 : w.cell? ⟨b, o + 2, none⟩ = some (.bool c.b2)
  h3 : w.cell? ⟨b, o + 3, none⟩ = some (.bool c.b3)
  h4 : w.cell? ⟨b, o + 4, none⟩ = some (.bool c.b4)
  h5 : w.cell? ⟨b, o + 5, none⟩ = some (.bool c.b5)
  h6 : w.cell? ⟨b, o + 6, none⟩ = some (.string c.s6)
  h7 : w.cell? ⟨b, o + 7, none⟩ = some (.bool c.b7)
  h8 : w.cell? ⟨b, o + 8, none⟩ = some (.string c.s8)
  h9 : w.cell? ⟨b, o + 9, none⟩ = some (.bool c.b9)
  h10 : w.cell? ⟨b, o + 10, none⟩ = some (.string c.s10)
  h11 : w.cell? ⟨b, o + 11, none⟩ = some (.string c.s11)
  h12 : w.cell? ⟨b, o + 12, none⟩ = some (.bool c.b12)
  h13 : w.cell? ⟨b, o + 13, none⟩ = some (.string c.s13)
  h14 : w.cell? ⟨b, o + 14, none⟩ = some (.string c.s14)
  h15 : w.cell? ⟨b, o + 15, none⟩ = some (.string c.s15)
  h16 : w.cell? ⟨b, o + 16, none⟩ = some (.string c.s16)

theorem at17_of {w : World} {b o : Nat} {c : Spec} (h : ∀ j, j < 17 → w.cell? ⟨b, o + j, none⟩ = some (c.cell j)) : At17 w b o c :=
  ⟨h 0 (by omega), h 1 (by omega), h 2 (by omega), h 3 (by omega), h 4 (by omega), h 5 (by omega), h 6 (by omega), h 7 (by omega), h 8 (by omega), h 9 (by omega), h 10 (by omega), h 11 (by omega), h 12 (by omega), h 13 (by omega), h 14 (by omega), h 15 (by omega), h 16 (by omega)⟩

theorem At17.keep {w w' : World} {b o B : Nat} {c : Spec} (h : At17 w b o c) (hb : Below B w w') (hB : b < B) : At17 w' b o c := by
  have k : ∀ p, w'.cell? ⟨b, p, none⟩ = w.cell? ⟨b, p, none⟩ := fun p => hb.cell (p := ⟨b, p, none⟩) hB
  obtain ⟨h0, h1, h2, h3, h4, h5, h6, h7, h8, h9, h10, h11, h12, h13, h14, h15, h16⟩ := h
  constructor <;> rw [k] <;> assumption

/-- a []colSpec that is only read. -/
def Sp (w : World) (B : Nat) (a : Option Addr) (n : Nat) (S : Nat → Spec) : Prop := Rd w B a (n * 17) (spf S)

theorem Sp.at {w : World} {B : Nat} {a : Option Addr} {n : Nat} {S : Nat → Spec} (h : Sp w B a n S) {k : Nat} (hk : k < n) : ∃ b off, a = some ⟨b, off, none⟩ ∧ b < B ∧ At17 w b (off + k * 17) (S k) := by
  rcases h with h | ⟨b, off, e, hB, hc⟩
  · omega
  · refine ⟨b, off, e, hB, at17_of fun j hj => ?_⟩
    rw [Nat.add_assoc, hc (k * 17 + j) (by omega), spf_at S k j hj]

theorem Sp.nil {w : World} {B : Nat} {a : Option Addr} {n : Nat} {S : Nat → Spec} (h : Sp w B a n S) : a = none → n = 0 := fun e => by have := Rd.nil h e; omega

theorem Try.cells61 : Try.prog.cellsOf 61 = 17 := by kernel_rfl
theorem Try.cells50 : Try.prog.cellsOf 50 = 9 := by kernel_rfl
theorem Try.info61 : (Try.prog.info? 61).map (fun i => (i.zero, i.size, i.bytes)) = some (some Spec.zero.val, 17, 192) := by kernel_rfl
theorem Try.info50 : (Try.prog.info? 50).map (fun i => (i.zero, i.size, i.bytes)) = some (some (.agg #[.string ByteArray.empty, .string ByteArray.empty, .bool false, .bool false, .bool false, .pointer none, .pointer none, .pointer none, .pointer none]), 9, 72) := by kernel_rfl
theorem Try.info9 : (Try.prog.info? 9).map (fun i => (i.zero, i.size, i.bytes)) = some (some (.string ByteArray.empty), 1, 16) := by kernel_rfl

/-- some bool. -/
def SomeBool (e : Ending) : Prop := ∃ b, e = .returned (.bool b)
/-- some number up to m. -/
def SomeInt (m : Int) (e : Ending) : Prop := ∃ b : Int, e = .returned (.int .i64 b) ∧ 0 ≤ b ∧ b ≤ m
end Go.Proofs.Qxb6001546a

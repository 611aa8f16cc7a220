import Derived.Test.Qxb6001032aProg
import Derived.Test.Qxb6001032aPlain
import Derived.WalkKit
import Derived.WalkLawsBesides
import Derived.WalkSpells
import Derived.Deep.OwnRows
import Derived.Deep.QuietTactic
import Derived.BigQuiet
import Derived.RegionTactic
import Derived.Handy
import Derived.Maps.OwnSet
import Derived.Maps.OwnOps
namespace Go.Proofs.Qxb6001032a
open Go.RowKit Go.Maps Go.WideMaps Go.WideElems
set_option linter.unusedVariables false

theorem ret_bool {a b : Bool} (h : a = b) : Ending.returned (.bool a) = .returned (.bool b) := by rw [h]

/-- a pointer to the head of a block, or nil. -/
def ptr : Option Nat → Value
  | none => .pointer none
  | some b => .pointer (some ⟨b, 0, none⟩)

/-- how a pointer in the map reads: its block's number. -/
def ptrElem (v : Value) : Option (DataW Unit × List MemPlace) :=
  match v with
  | .pointer none => some (.nil, [])
  | .pointer (some ⟨b, 0, none⟩) => some (.lit (.int .i64 b), [])
  | _ => none

def ptrD : Option Nat → DataW Unit
  | none => .nil
  | some b => .lit (.int .i64 b)

theorem ptrElem_ptr (o : Option Nat) : ptrElem (ptr o) = some (ptrD o, []) := by cases o <;> rfl

theorem ptrElem_inv {v : Value} {o : Option Nat} {ps : List MemPlace} (h : ptrElem v = some (ptrD o, ps)) : v = ptr o := by
  unfold ptrElem at h
  split at h
  · cases o with
    | none => rfl
    | some b => simp [ptrD] at h
  · cases o with
    | none => simp [ptrD] at h
    | some b =>
      simp [ptrD] at h
      obtain ⟨h, _⟩ := h
      have h' := Int.ofNat.inj h
      rw [h']; rfl
  · cases h

/-- the map 'known': from names to entries' blocks. -/
def TMap (w : World) (b n : Nat) (M : ByteArray → Option Nat) : Prop :=
  ∃ D : DataW Unit, w.ownsMap Try.prog 9 ptrElem b n D ∧ ∀ s : ByteArray, D.atKey (.string s.data.toList) .nil = ptrD (M s) ∧ Maps.has D (.string s.data.toList) = (M s).isSome

theorem law9 : Keyed Try.prog 9 := string_keyed Try.underlying9
theorem zero29 (w : World) : (zeroValue 29).run Try.prog w = .ok (.pointer none) w := by kernel_rfl

theorem TMap.look {w : World} {b n : Nat} {M : ByteArray → Option Nat} (h : TMap w b n M) (s : ByteArray) (hs : s.size ≤ maxLen) :
    (Instr.lookup 28 (.map (some b)) (.string s) true).run Try.prog w = .ok (.tuple #[ptr (M s), .bool (M s).isSome]) w := by
  obtain ⟨D, ho, hD⟩ := h
  obtain ⟨v, ps, hr, hv⟩ := ho.look_ok law9 Try.underlying28 (zero29 w) (ptrElem_ptr none) (keyOf_string_mk Try.underlying9 hs)
  rw [show ptrD none = .nil from rfl, (hD s).1] at hv
  rw [hr, ptrElem_inv hv, (hD s).2]

theorem TMap.look1 {w : World} {b n : Nat} {M : ByteArray → Option Nat} (h : TMap w b n M) (s : ByteArray) (hs : s.size ≤ maxLen) :
    (Instr.lookup 28 (.map (some b)) (.string s) false).run Try.prog w = .ok (ptr (M s)) w := by
  obtain ⟨D, ho, hD⟩ := h
  obtain ⟨v, ps, hr, hv⟩ := ho.lookup law9 Try.underlying28 (zero29 w) (ptrElem_ptr none) (keyOf_string_mk Try.underlying9 hs)
  rw [show ptrD none = .nil from rfl, (hD s).1] at hv
  rw [hr, ptrElem_inv hv]

theorem look_nil (w : World) (s : ByteArray) (hs : s.size ≤ maxLen) : (Instr.lookup 28 (.map none) (.string s) true).run Try.prog w = .ok (.tuple #[.pointer none, .bool false]) w :=
  Maps.look_nil true law9 Try.underlying28 (zero29 w) (keyOf_string_mk Try.underlying9 hs)

theorem look_nil1 (w : World) (s : ByteArray) (hs : s.size ≤ maxLen) : (Instr.lookup 28 (.map none) (.string s) false).run Try.prog w = .ok (.pointer none) w :=
  Maps.look_nil false law9 Try.underlying28 (zero29 w) (keyOf_string_mk Try.underlying9 hs)

theorem TMap.store {w : World} {b n : Nat} {M : ByteArray → Option Nat} (h : TMap w b n M) (s : ByteArray) (hs : s.size ≤ maxLen) (hn : n < maxLen) (e : Nat) :
    ∃ w', (Instr.mapUpdate 28 (.map (some b)) (.string s) (.pointer (some ⟨e, 0, none⟩))).run Try.prog w = .ok () w' ∧ TMap w' b (n + 1) (fun x => if x = s then some e else M x) ∧ w.mapTurned w' b := by
  obtain ⟨D, ho, hD⟩ := h
  obtain ⟨w', hr, ho', ht⟩ := ho.store law9 Try.underlying28 hn (keyOf_string_mk Try.underlying9 hs) (ptrElem_ptr (some e))
  refine ⟨w', hr, ⟨_, ho', fun x => ?_⟩, ht⟩
  by_cases ex : x = s
  · subst ex
    simp only [if_true]
    have hk : WideAt.IsKeyLit (.string x.data.toList) := trivial
    rw [Maps.atKey_put_same ho.isMap hk, Maps.has_put_same ho.isMap hk]
    exact ⟨rfl, rfl⟩
  · have hne : (Lit.string x.data.toList) ≠ .string s.data.toList := by
      intro he
      simp only [Lit.string.injEq] at he
      apply ex
      cases x; cases s
      simp only [Array.toList_inj] at he
      rw [he]
    simp only [if_neg ex]
    rw [Maps.atKey_put_other hne, Maps.has_put_other hne]
    exact hD x

theorem TMap.of_block {w w' : World} {b n : Nat} {M : ByteArray → Option Nat} (h : TMap w b n M) (e : w'.heap[b]? = w.heap[b]?) : TMap w' b n M := by
  obtain ⟨D, ⟨es, clock, hb, r⟩, hD⟩ := h
  exact ⟨D, ⟨es, clock, e.trans hb, r⟩, hD⟩

theorem TMap.lt {w : World} {b n : Nat} {M : ByteArray → Option Nat} (h : TMap w b n M) : b < w.heap.size := by
  obtain ⟨D, ho, _⟩ := h; exact ho.lt

theorem TMap.made (w : World) : TMap (w.alloc (.map #[] 0)) w.heap.size 0 (fun _ => none) :=
  ⟨.map [], World.ownsMap_made w _ _ _, fun s => ⟨rfl, rfl⟩⟩

/-- an entry's cells. -/
def ent (s : ByteArray) (f : Bool) (po pn : Option Nat) : Obj := .cells #[.string s, .int .u64 0, .int .u64 0, .bool f, ptr po, ptr pn] 56 (0, 0)

/-- the struct Tokens. -/
def tok (mp : Option Nat) (po pn : Option Nat) (k : Nat) : Obj := .cells #[.map mp, ptr po, ptr pn, .int .i64 (k : Int), .int .u64 0] 32 (0, 0)

/-- THE STATE OF A Tokens AT BLOCK bt: the map at block mp, the names known and their entries, the free ones in order. lo: all of it lies from block lo on. -/
structure Tk (w : World) (lo bt : Nat) (mp : Option Nat) (n : Nat) (M : ByteArray → Option Nat) (L : List Nat) : Prop where
  t : w.heap[bt]? = some (tok mp L.head? L.getLast? L.length)
  tlo : lo ≤ bt
  map0 : mp = none → ∀ s, M s = none
  map1 : ∀ b, mp = some b → TMap w b n M ∧ lo ≤ b
  en : ∀ s e, M s = some e → w.heap[e]? = some (ent s (decide (e ∈ L)) (Pl.prv L e) (Pl.nxt L e)) ∧ lo ≤ e
  inj : ∀ s s' e, M s = some e → M s' = some e → s = s'
  nodup : L.Nodup
  sub : ∀ e, e ∈ L → ∃ s, M s = some e

end Go.Proofs.Qxb6001032a

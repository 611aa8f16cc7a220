import Derived.Test.Qxb6001546aBase
namespace Go.Proofs.Qxb6001546a
open Go.RowKit
set_option linter.unusedVariables false

/-- a Column's nine cells. -/
structure Col where
  s0 : ByteArray
  s1 : ByteArray
  b2 : Bool
  b3 : Bool
  b4 : Bool
  p5 : Option Addr
  p6 : Option Addr
  p7 : Option Addr
  p8 : Option Addr

def Col.val (c : Col) : Value := .agg #[.string c.s0, .string c.s1, .bool c.b2, .bool c.b3, .bool c.b4, .pointer c.p5, .pointer c.p6, .pointer c.p7, .pointer c.p8]

/-- the reference that a column bears. -/
def RefOk (w : World) (p : Option Addr) (t : Option ByteArray) : Prop :=
  match t with
  | none => p = none
  | some s => ∃ b x y z, p = some ⟨b, 0, none⟩ ∧ w.heap[b]? = some (.cells #[.string x, .string s, .string y, .string z] 54 (0, 0))

/-- the table that a spec refers to. -/
def Spec.ref (c : Spec) : Option ByteArray := if c.b12 then some c.s14 else none

/-- what buildColumn hands back. -/
def BcPost (w : World) (t : Option ByteArray) (e : Ending) (w' : World) : Prop :=
  ∃ c : Col, e = .returned c.val ∧ RefOk w' c.p8 t ∧ Below w.heap.size w w'



theorem Below.al {B : Nat} {w w' : World} (h : Below B w w') (o : Obj) (hB : B ≤ w.heap.size) : Below B w (w'.alloc o) := h.alloc (Nat.le_trans hB h.size) o

def Col.cell (c : Col) : Nat → Value
  | 0 => .string c.s0
  | 1 => .string c.s1
  | 2 => .bool c.b2
  | 3 => .bool c.b3
  | 4 => .bool c.b4
  | 5 => .pointer c.p5
  | 6 => .pointer c.p6
  | 7 => .pointer c.p7
  | _ => .pointer c.p8

def Col.list (c : Col) : List Value := [.string c.s0, .string c.s1, .bool c.b2, .bool c.b3, .bool c.b4, .pointer c.p5, .pointer c.p6, .pointer c.p7, .pointer c.p8]

/-- the row of some columns. -/
def rowL (L : List Col) : List Value := L.flatMap Col.list

theorem rowL_len (L : List Col) : (rowL L).length = L.length * 9 := by
  induction L with
  | nil => rfl
  | cons c L ih => simp [rowL, Col.list] at ih ⊢; omega

theorem rowL_append (L M : List Col) : rowL (L ++ M) = rowL L ++ rowL M := by simp [rowL]

theorem rowL_at (L : List Col) (k : Nat) (c : Col) (h : L[k]? = some c) (j : Nat) (hj : j < 9) : (rowL L)[k * 9 + j]? = some (c.cell j) := by
  induction L generalizing k with
  | nil => simp at h
  | cons d L ih =>
    have e : rowL (d :: L) = d.list ++ rowL L := by simp [rowL]
    have hl : d.list.length = 9 := rfl
    rw [e]
    cases k with
    | zero =>
      simp at h
      subst h
      rw [List.getElem?_append_left (by omega), Nat.zero_mul, Nat.zero_add]
      have hcases : j = 0 ∨ j = 1 ∨ j = 2 ∨ j = 3 ∨ j = 4 ∨ j = 5 ∨ j = 6 ∨ j = 7 ∨ j = 8 := by omega
      rcases hcases with rfl | rfl | rfl | rfl | rfl | rfl | rfl | rfl | rfl <;> rfl
    | succ k =>
      rw [List.getElem?_append_right (by omega), hl, show (k + 1) * 9 + j - 9 = k * 9 + j by omega]
      exact ih k (by simpa using h)

/-- the nine cells at one place. -/
structure At9 (w : World) (b o : Nat) (c : Col) : Prop where
  h0 : w.cell? ⟨b, o, none⟩ = some (.string c.s0)
  h1 : w.cell? ⟨b, o + 1, none⟩ = some (.string c.s1)
  h2 : w.cell? ⟨b, o + 2, none⟩ = some (.bool c.b2)
  h3 : w.cell? ⟨b, o + 3, none⟩ = some (.bool c.b3)
  h4 : w.cell? ⟨b, o + 4, none⟩ = some (.bool c.b4)
  h5 : w.cell? ⟨b, o + 5, none⟩ = some (.pointer c.p5)
  h6 : w.cell? ⟨b, o + 6, none⟩ = some (.pointer c.p6)
  h7 : w.cell? ⟨b, o + 7, none⟩ = some (.pointer c.p7)
  h8 : w.cell? ⟨b, o + 8, none⟩ = some (.pointer c.p8)

/-- A ROW OF COLUMNS OF THE CALL's OWN, at the head of block g: the columns L, their references T. -/
structure Cols (w : World) (base : Nat) (g cap : Nat) (L : List Col) (T : List (Option ByteArray)) : Prop where
  own : w.ownsRow base 50 9 (.slice (some ⟨g, 0, none⟩) L.length cap) L.length (rowL L)
  len : T.length = L.length
  ref : ∀ (k : Nat) (c : Col) (t : Option ByteArray), L[k]? = some c → T[k]? = some t → RefOk w c.p8 t

theorem Cols.blk {w : World} {base g cap : Nat} {L : List Col} {T : List (Option ByteArray)} (h : Cols w base g cap L T) : base ≤ g ∧ g < w.heap.size ∧ ∃ cur, w.heap[g]? = some (.cells cur 50 (0, 0)) := by
  rcases h.own.2 with ⟨h0, _⟩ | ⟨g', cap', cur, h0, hb, hh, _⟩
  · simp at h0
  · simp only [Value.slice.injEq, Option.some.injEq, Addr.mk.injEq, and_true, true_and] at h0
    obtain ⟨rfl, rfl⟩ := h0
    exact ⟨hb, (Array.getElem?_eq_some_iff.1 hh).1, cur, hh⟩

theorem Cols.at {w : World} {base g cap : Nat} {L : List Col} {T : List (Option ByteArray)} (h : Cols w base g cap L T) {k : Nat} {c : Col} (hk : L[k]? = some c) : At9 w g (k * 9) c := by
  have hl : k < L.length := (List.getElem?_eq_some_iff.1 hk).1
  have a : ∀ j, j < 9 → w.cell? ⟨g, k * 9 + j, none⟩ = some (c.cell j) := fun j hj => by
    rw [h.own.cellAt (k * 9 + j) (by omega), rowL_at L k c hk j hj]
  exact ⟨a 0 (by omega), a 1 (by omega), a 2 (by omega), a 3 (by omega), a 4 (by omega), a 5 (by omega), a 6 (by omega), a 7 (by omega), a 8 (by omega)⟩

theorem RefOk.of_blocks {w w' : World} {p : Option Addr} {t : Option ByteArray} (h : RefOk w p t) (hb : ∀ (b : Nat) (cur : Array Value), w.heap[b]? = some (Obj.cells cur 54 (0, 0)) → w'.heap[b]? = w.heap[b]?) : RefOk w' p t := by
  cases t with
  | none => exact h
  | some s =>
    obtain ⟨b, x, y, z, rfl, hh⟩ := h
    exact ⟨b, x, y, z, rfl, (hb b _ hh).trans hh⟩

theorem RefOk.keep {w w' : World} {p : Option Addr} {t : Option ByteArray} (h : RefOk w p t) (hb : Below w.heap.size w w') : RefOk w' p t :=
  h.of_blocks fun b cur hh => hb.block b (Array.getElem?_eq_some_iff.1 hh).1

theorem Cols.keep {w w' : World} {base g cap : Nat} {L : List Col} {T : List (Option ByteArray)} (h : Cols w base g cap L T) (hb : Below w.heap.size w w') : Cols w' base g cap L T := by
  obtain ⟨h1, h2, _⟩ := h.blk
  refine ⟨?_, h.len, fun k c t hk ht => (h.ref k c t hk ht).keep hb⟩
  refine ⟨h.own.1, ?_⟩
  rcases h.own.2 with h0 | ⟨g', cap', cur, h0, hb', hh, r⟩
  · exact .inl h0
  · exact .inr ⟨g', cap', cur, h0, hb', (hb.block g' (Array.getElem?_eq_some_iff.1 hh).1).trans hh, r⟩

theorem Cols.start (w : World) (cur : Array Value) (n : Nat) (hm : n ≤ maxLen) (hs : cur.size = n * 9) : Cols (w.alloc (.cells cur 50)) w.heap.size w.heap.size n [] [] :=
  ⟨World.ownsRow_made w cur n (Nat.le_refl _) hm hs, rfl, fun k c t hk => by simp at hk⟩

/-- what an append of columns M with references U gives. -/
theorem Cols.grow {w w' : World} {base g cap : Nat} {L M : List Col} {T U : List (Option ByteArray)} {v' : Value} {n : Nat} (h : Cols w base g cap L T) (hU : U.length = M.length) (hr : ∀ (k : Nat) (c : Col) (t : Option ByteArray), M[k]? = some c → U[k]? = some t → RefOk w c.p8 t)
    (hn : n = M.length) (ho : w'.ownsRow base 50 9 v' (L.length + n) (rowL L ++ rowL M)) (hg : w.grownBy w' (Value.slice (some ⟨g, 0, none⟩) L.length cap).ownBlock) (hv : v' = .slice none 0 0 ↔ Value.slice (some ⟨g, 0, none⟩) L.length cap = .slice none 0 0 ∧ n = 0) :
    ∃ g' cap', v' = .slice (some ⟨g', 0, none⟩) (L.length + n) cap' ∧ Cols w' base g' cap' (L ++ M) (T ++ U) := by
  subst hn
  rcases ho.2 with ⟨h0, h1⟩ | ⟨g', cap', cur, h0, hb, hh, r⟩
  · have := hv.1 h0
    simp at this
  · refine ⟨g', cap', h0, ⟨?_, by simp [h.len, hU], fun k c t hk ht => ?_⟩⟩
    · rw [List.length_append, rowL_append, ← h0]
      exact ho
    · have hres : RefOk w c.p8 t := by
        by_cases e : k < L.length
        · rw [List.getElem?_append_left e] at hk
          rw [List.getElem?_append_left (by rw [h.len]; exact e)] at ht
          exact h.ref k c t hk ht
        · rw [List.getElem?_append_right (by omega)] at hk
          rw [List.getElem?_append_right (by rw [h.len]; omega), h.len] at ht
          exact hr _ c t hk ht
      refine hres.of_blocks fun b cur' hbb => hg.block b (Array.getElem?_eq_some_iff.1 hbb).1 fun e => ?_
      simp only [Value.ownBlock, Option.some.injEq] at e
      subst e
      obtain ⟨_, _, cur2, h2⟩ := h.blk
      rw [h2] at hbb
      simp at hbb
end Go.Proofs.Qxb6001546a

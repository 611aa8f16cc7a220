import Derived.Test.Qxb6000464aClone
import Derived.Test.Qxb6000464aGuards
namespace Go.Proofs.Qxb6000464a
open Go.RowKit
set_option linter.unusedVariables false

theorem Try.info64 : (Try.prog.info? 64).map (fun i => (i.zero, i.size, i.bytes)) = some (some (.agg #[.int .i64 0, .slice none 0 0]), 2, 32) := by kernel_rfl

/-- a fragment that is held: where it lies, its octets. -/
structure Piece where
  off : Nat
  a : Option Addr
  c : Nat
  oct : List Int

def Piece.list (p : Piece) : List Value := [.int .i64 (p.off : Int), .slice p.a p.oct.length p.c]

/-- its octets lie in a block of bytes of its own. -/
def Oct (w : World) (p : Piece) : Prop :=
  p.oct.length = 0 ∨ ∃ b cs, p.a = some ⟨b, 0, none⟩ ∧ w.heap[b]? = some (.cells cs 5 (0, 0)) ∧ ∀ i, i < p.oct.length → cs[i]? = some (ci .u8 p.oct i)

theorem Oct.of_blocks {w w' : World} {p : Piece} (h : Oct w p) (hb : ∀ (b : Nat) (cs : Array Value), w.heap[b]? = some (Obj.cells cs 5 (0, 0)) → w'.heap[b]? = w.heap[b]?) : Oct w' p := by
  rcases h with h | ⟨b, cs, e, hh, hc⟩
  · exact .inl h
  · exact .inr ⟨b, cs, e, (hb b cs hh).trans hh, hc⟩

theorem Oct.keep {w w' : World} {p : Piece} (h : Oct w p) (hb : Below w.heap.size w w') : Oct w' p :=
  h.of_blocks fun b cs hh => hb.block b (Array.getElem?_eq_some_iff.1 hh).1

theorem Oct.rd {w : World} {p : Piece} (h : Oct w p) : Rd w w.heap.size p.a p.oct.length (ci .u8 p.oct) := by
  rcases h with h | ⟨b, cs, e, hh, hc⟩
  · exact .inl h
  · refine .inr ⟨b, 0, e, (Array.getElem?_eq_some_iff.1 hh).1, fun i hi => ?_⟩
    rw [Nat.zero_add, ← hc i hi]
    simp [World.cell?, hh]

/-- the row of some pieces. -/
def rowP (L : List Piece) : List Value := L.flatMap Piece.list

theorem rowP_len (L : List Piece) : (rowP L).length = L.length * 2 := by
  induction L with
  | nil => rfl
  | cons c L ih => simp [rowP, Piece.list] at ih ⊢; omega

theorem rowP_append (L M : List Piece) : rowP (L ++ M) = rowP L ++ rowP M := by simp [rowP]
theorem rowP_one (p : Piece) : rowP [p] = p.list := by simp [rowP]

theorem rowP_at (L : List Piece) (k : Nat) (p : Piece) (h : L[k]? = some p) : (rowP L)[k * 2]? = some (.int .i64 (p.off : Int)) ∧ (rowP L)[k * 2 + 1]? = some (.slice p.a p.oct.length p.c) := by
  induction L generalizing k with
  | nil => simp at h
  | cons d L ih =>
    have e : rowP (d :: L) = d.list ++ rowP L := by simp [rowP]
    have hl : d.list.length = 2 := rfl
    rw [e]
    cases k with
    | zero =>
      simp at h
      subst h
      exact ⟨rfl, rfl⟩
    | succ k =>
      rw [List.getElem?_append_right (by omega), List.getElem?_append_right (by omega), hl, show (k + 1) * 2 - 2 = k * 2 by omega, show (k + 1) * 2 + 1 - 2 = k * 2 + 1 by omega]
      exact ih k (by simpa using h)

/-- A ROW OF PIECES, its blocks from base on. -/
structure Hd (w : World) (base : Nat) (a : Option Addr) (c : Nat) (L : List Piece) : Prop where
  own : w.ownsRow base 64 2 (.slice a L.length c) L.length (rowP L)
  oct : ∀ p ∈ L, Oct w p

theorem Hd.nil (w : World) (base : Nat) : Hd w base none 0 [] := ⟨World.ownsRow_nil w base 64 2, fun p hp => by simp at hp⟩

theorem Hd.mono {w : World} {base base' c : Nat} {a : Option Addr} {L : List Piece} (h : Hd w base a c L) (hb : base' ≤ base) : Hd w base' a c L := by
  refine ⟨⟨h.own.1, ?_⟩, h.oct⟩
  rcases h.own.2 with h0 | ⟨g', cap', cur, h0, hb', r⟩
  · exact .inl h0
  · exact .inr ⟨g', cap', cur, h0, by omega, r⟩

theorem Hd.of_blocks {w w' : World} {base c : Nat} {a : Option Addr} {L : List Piece} (h : Hd w base a c L) (hb : ∀ (b : Nat) (cs : Array Value) (t : TypeId), t = 5 ∨ t = 64 → w.heap[b]? = some (Obj.cells cs t (0, 0)) → w'.heap[b]? = w.heap[b]?) : Hd w' base a c L := by
  refine ⟨⟨h.own.1, ?_⟩, fun p hp => (h.oct p hp).of_blocks fun b cs => hb b cs 5 (.inl rfl)⟩
  rcases h.own.2 with h0 | ⟨g', cap', cur, h0, hb', hh, r⟩
  · exact .inl h0
  · exact .inr ⟨g', cap', cur, h0, hb', (hb g' cur 64 (.inr rfl) hh).trans hh, r⟩

theorem Hd.keep {w w' : World} {base c : Nat} {a : Option Addr} {L : List Piece} (h : Hd w base a c L) (hb : Below w.heap.size w w') : Hd w' base a c L :=
  h.of_blocks fun b cs t _ hh => hb.block b (Array.getElem?_eq_some_iff.1 hh).1

theorem Hd.lt {w : World} {base c : Nat} {a : Option Addr} {L : List Piece} (h : Hd w base a c L) : ∀ k, (Value.slice a L.length c).ownBlock = some k → base ≤ k ∧ k < w.heap.size := h.own.lt

theorem Hd.at {w : World} {base c : Nat} {a : Option Addr} {L : List Piece} (h : Hd w base a c L) {k : Nat} {p : Piece} (hk : L[k]? = some p) :
    ∃ g, a = some ⟨g, 0, none⟩ ∧ base ≤ g ∧ g < w.heap.size ∧ w.cell? ⟨g, k * 2, none⟩ = some (.int .i64 (p.off : Int)) ∧ w.cell? ⟨g, k * 2 + 1, none⟩ = some (.slice p.a p.oct.length p.c) := by
  have hl : k < L.length := (List.getElem?_eq_some_iff.1 hk).1
  rcases h.own.2 with ⟨h0, h1⟩ | ⟨g, cap, cur, h0, hb, hh, _⟩
  · omega
  · simp only [Value.slice.injEq, true_and] at h0
    obtain ⟨rfl, rfl⟩ := h0
    have r := rowP_at L k p hk
    refine ⟨g, rfl, hb, (Array.getElem?_eq_some_iff.1 hh).1, ?_, ?_⟩
    · rw [h.own.cellAt (k * 2) (by omega), r.1]
    · rw [h.own.cellAt (k * 2 + 1) (by omega), r.2]

/-- one more. -/
theorem Hd.push {W w3 : World} {base c : Nat} {a : Option Addr} {L : List Piece} (h : Hd W base a c L) {p : Piece} (hp : Oct W p) {v' : Value}
    (ho : w3.ownsRow base 64 2 v' (L.length + 1) (rowP L ++ p.list)) (hg : W.grownBy w3 (Value.slice a L.length c).ownBlock) :
    ∃ a' c', v' = .slice a' (L ++ [p]).length c' ∧ Hd w3 base a' c' (L ++ [p]) := by
  have hblk : ∀ (b : Nat) (cs : Array Value), W.heap[b]? = some (Obj.cells cs 5 (0, 0)) → w3.heap[b]? = W.heap[b]? := by
    intro b cs hb
    refine hg.block b (Array.getElem?_eq_some_iff.1 hb).1 fun e => ?_
    rcases h.own.2 with ⟨h0, h1⟩ | ⟨g, cap, cur, h0, _, hh, _⟩
    · rw [h0] at e
      simp [Value.ownBlock] at e
    · rw [h0] at e
      simp only [Value.ownBlock, Option.some.injEq] at e
      subst e
      rw [hh] at hb
      simp at hb
  rcases ho.2 with ⟨h0, h1⟩ | ⟨g, cap, cur, h0, r⟩
  · omega
  · refine ⟨_, _, by rw [h0, List.length_append, List.length_singleton], ⟨?_, fun q hq => ?_⟩⟩
    · rw [List.length_append, List.length_singleton, rowP_append, rowP_one, ← h0]
      exact ho
    · rw [List.mem_append, List.mem_singleton] at hq
      rcases hq with hq | rfl
      · exact (h.oct q hq).of_blocks hblk
      · exact hp.of_blocks hblk

/-- what bytes.Clone hands back, at some octets. -/
def BcPost (w : World) (l : List Int) (e : Ending) (w' : World) : Prop :=
  ∃ a c, e = .returned (.slice a l.length c) ∧ (∀ off, Oct w' ⟨off, a, c, l⟩) ∧ Below w.heap.size w w'

set_option maxHeartbeats 1000000 in
theorem bc41 (x : Addr) (c : Nat) (l : List Int) (w : World) (B : Nat) (h : Rd w B (some x) l.length (ci .u8 l)) (hl : l.length ≤ 10485760) (h0 : 0 < l.length) :
    Calls Try.prog 41 #[.slice (some x) l.length c] w (BcPost w l) := by
  have q22 : ∀ (w : World) (a : Option Addr) (n c n' c' : Nat), (binOp .eql 22 (.slice a n c) (.slice none n' c')).run Try.prog w = .ok (.bool a.isNone) w := fun w a n c n' c' => Lib.run_eql_slice_nil w _ _ a n c n' c' Try.underlying22
  obtain ⟨i0, hi0, hz0, hz1, hz2⟩ := info_parts Try.info5
  obtain ⟨b, o, e1, _, _⟩ := h.at h0
  simp only [Option.some.injEq] at e1
  subst e1
  have hc : Hid (∀ j u, ((List.range l.length).map (ci .u8 l))[j]? = some u → w.cell? ⟨b, o + j, none⟩ = some u) := by
    intro j u hj
    have hjl : j < l.length := by
      obtain ⟨h, _⟩ := List.getElem?_eq_some_iff.1 hj
      simpa using h
    rw [List.getElem?_map, List.getElem?_range hjl] at hj
    obtain ⟨b', o', e2, _, hcc⟩ := h.at hjl
    simp only [Option.some.injEq, Addr.mk.injEq, and_true] at e2
    obtain ⟨rfl, rfl⟩ := e2
    rw [hcc]
    simpa using hj
  clear h
  go_enter Try.func41, Try.ntmps41
  go_wp2_with (at_builtin; refine wpList_append_own _ rfl _ _ 22 rfl w.heap.size 5 i0 (.int .u8 0) 1 1 Try.underlying22 hi0 hz0 hz1 hz2 rfl (by decide) _ _ _ rfl (World.ownsRow_made w #[] 0 (Nat.le_refl _) (Nat.zero_le _) (by simp)) ⟨b, o, none⟩ l.length c ((List.range l.length).map (ci .u8 l)) rfl ?c0 ?c1 ?c2 ?c3 ?c4 ?c5 ?_)
  case c0 => simp
  case c1 =>
    intro j u hj
    rw [Addr.add_lit]
    have hlt : b < w.heap.size := World.block_lt_of_cell? w _ (hc.out j u hj)
    exact (((Below.refl _ w).alloc (Nat.le_refl _) _).cell (p := ⟨b, o + j, none⟩) hlt).trans (hc.out j u hj)
  case c2 =>
    intro u hu
    simp only [List.mem_map, List.mem_range] at hu
    obtain ⟨j, _, rfl⟩ := hu
    rfl
  case c3 => unfold maxLen; omega
  case c4 => omega
  case c5 => simp
  intro v' w3 hown' hgrow hnn
  have hb3 : Below w.heap.size w w3 := ((Below.refl _ w).alloc (Nat.le_refl _) _).grown hgrow (by simp) fun j hj => by
    simp [Value.ownBlock] at hj
    omega
  have HO : Hid (∃ g c', v' = .slice (some ⟨g, 0, none⟩) l.length c' ∧ ∀ off, Oct w3 ⟨off, some ⟨g, 0, none⟩, c', l⟩) := by
    rcases hown'.2 with ⟨h1, h2⟩ | ⟨g, cap, cur, h1, h2, h3, h4, h5, h6, h7⟩
    · omega
    · refine ⟨g, cap, h1, fun off => .inr ⟨g, cur, rfl, h3, fun i hi => ?_⟩⟩
      have e : (cur.toList.take (l.length * 1))[i]? = some (ci .u8 l i) := by
        rw [h7]
        simp [hi]
      rw [List.getElem?_take, if_pos (by simp only at hi; omega)] at e
      simpa using e
  clear hown' hgrow hnn hc
  obtain ⟨g, c', rfl, hO⟩ := HO.out
  clear HO
  go_wp2
  go_ret
  exact ⟨_, _, rfl, hO, hb3⟩
end Go.Proofs.Qxb6000464a

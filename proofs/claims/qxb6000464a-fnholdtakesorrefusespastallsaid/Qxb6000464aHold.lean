import Derived.Test.Qxb6000464aPieces
import Derived.Deep.AppendLies
namespace Go.Proofs.Qxb6000464a
open Go.RowKit
set_option linter.unusedVariables false

/-- the assembly at block bt, 'later' being v. -/
def Asm (w : World) (bt : Nat) (v : Value) : Prop := ∃ cs : Array Value, w.heap[bt]? = some (Obj.cells cs 61 (0, 0)) ∧ cs[4]? = some v

theorem Asm.cell {w : World} {bt : Nat} {v : Value} (h : Asm w bt v) : w.cell? ⟨bt, 4, none⟩ = some v ∧ w.frozen? ⟨bt, 4, none⟩ = false ∧ bt < w.heap.size := by
  obtain ⟨cs, h1, h2⟩ := h
  refine ⟨?_, ?_, (Array.getElem?_eq_some_iff.1 h1).1⟩
  · simp [World.cell?, h1, h2]
  · exact frozen_of_row w bt 4 cs 61 h1

theorem Asm.set {w : World} {bt : Nat} {v v' : Value} (h : Asm w bt v) : Asm (w.setCell ⟨bt, 4, none⟩ v') bt v' := by
  obtain ⟨cs, h1, h2⟩ := h
  refine ⟨_, heap_setCell_same w bt 4 cs 61 v' h1, ?_⟩
  have hl : 4 < cs.size := (Array.getElem?_eq_some_iff.1 h2).1
  simp [hl]

theorem Asm.keep {w w' : World} {bt : Nat} {v : Value} (h : Asm w bt v) (hb : w'.heap[bt]? = w.heap[bt]?) : Asm w' bt v := by
  obtain ⟨cs, h1, h2⟩ := h
  exact ⟨cs, hb.trans h1, h2⟩

/-- only block bt has turned. -/
def Fr (bt : Nat) (w w' : World) : Prop := Below bt w w' ∧ ∀ x, x < w.heap.size → x ≠ bt → w'.heap[x]? = w.heap[x]?

/-- what hold leaves. -/
def HoPost (w : World) (bt off : Nat) (l : List Int) (L : List Piece) (M : Nat) (e : Ending) (w' : World) : Prop :=
  ∃ ok a' c' L', e = .returned (.bool ok) ∧ Asm w' bt (.slice a' L'.length c') ∧ Hd w' 0 a' c' L' ∧ L'.length ≤ 256 ∧ (∀ p ∈ L', p.off + p.oct.length ≤ M) ∧ Fr bt w w' ∧
    ((∀ p ∈ L, p.off + p.oct.length ≤ off) → 0 < l.length → ok = decide (L.length < 256) ∧ (ok = false → L' = L) ∧ (ok = true → ∃ x' c'', L' = L ++ [⟨off, x', c'', l⟩]))

/-- the plain part of the loop's relation. -/
structure HoPl (off M : Nat) (L Hl : List Piece) (k at_ : Nat) : Prop where
  bd : ∀ p ∈ Hl, p.off + p.oct.length ≤ M
  len : Hl.length ≤ 2 * k
  lo : off ≤ at_
  hi : at_ ≤ M
  ex : (∀ p ∈ L, p.off + p.oct.length ≤ off) → Hl = L.take k ∧ at_ = off

theorem HoPl.start (off M : Nat) (L : List Piece) (h : off ≤ M) : HoPl off M L [] 0 off := ⟨fun p hp => by simp at hp, by simp, Nat.le_refl _, h, fun _ => ⟨by simp, rfl⟩⟩

theorem HoPl.stepB {off M : Nat} {L Hl : List Piece} {k at_ : Nat} {p : Piece} (h : HoPl off M L Hl k at_) (hk : L[k]? = some p) (hb : ∀ p ∈ L, p.off + p.oct.length ≤ M) : HoPl off M L (Hl ++ [p]) (k + 1) (max at_ (p.off + p.oct.length)) := by
  have hm : p ∈ L := List.mem_of_getElem? hk
  refine ⟨fun q hq => ?_, ?_, ?_, ?_, fun hx => ?_⟩
  · rw [List.mem_append, List.mem_singleton] at hq
    rcases hq with hq | rfl
    · exact h.bd q hq
    · exact hb q hm
  · have := h.len
    rw [List.length_append, List.length_singleton]
    omega
  · have := h.lo
    omega
  · have := h.hi
    have := hb p hm
    omega
  · obtain ⟨e1, e2⟩ := h.ex hx
    have := hx p hm
    refine ⟨by rw [List.take_add_one, hk, e1]; rfl, by omega⟩

theorem HoPl.stepA {off M : Nat} {L Hl : List Piece} {k at_ : Nat} {p q : Piece} (h : HoPl off M L Hl k at_) (hk : L[k]? = some p) (hb : ∀ p ∈ L, p.off + p.oct.length ≤ M) (hq : q.off + q.oct.length ≤ M) (hlt : at_ < p.off) : HoPl off M L (Hl ++ [q] ++ [p]) (k + 1) (max at_ (p.off + p.oct.length)) := by
  have hm : p ∈ L := List.mem_of_getElem? hk
  refine ⟨fun r hr => ?_, ?_, ?_, ?_, fun hx => ?_⟩
  · simp only [List.mem_append, List.mem_singleton] at hr
    rcases hr with (hr | rfl) | rfl
    · exact h.bd r hr
    · exact hq
    · exact hb r hm
  · have := h.len
    simp only [List.length_append, List.length_singleton]
    omega
  · have := h.lo
    omega
  · have := h.hi
    have := hb p hm
    omega
  · obtain ⟨e1, e2⟩ := h.ex hx
    have := hx p hm
    omega

/-- the loop's relation. -/
structure HoRel (w wr : World) (off M : Nat) (L Hl : List Piece) (k at_ : Nat) (a : Option Addr) (c : Nat) : Prop where
  hd : Hd wr w.heap.size a c Hl
  below : Below w.heap.size w wr
  pl : HoPl off M L Hl k at_

theorem cell_alloc (W : World) (x y : Value) (t : TypeId) : (W.alloc (.cells #[x, y] t)).cell? ⟨W.heap.size, 0, none⟩ = some x ∧ (W.alloc (.cells #[x, y] t)).cell? ⟨W.heap.size, 1, none⟩ = some y := by
  simp only [World.cell?, heap_alloc_new]
  exact ⟨rfl, rfl⟩

/-- the row has grown by one; block fb is as it was. -/
theorem ho_push {w W w3 : World} {base H fb g cap n1 : Nat} {ah : Option Addr} {ch : Nat} {Hl : List Piece} {p : Piece} {o1 : Obj} (hd : Hd W base ah ch Hl) (hbel : Below base w W) (hn1 : n1 = p.oct.length) (hO : Oct W p)
    (ho : w3.ownsRow base 64 2 (.slice (some ⟨g, 0, none⟩) (Hl.length + 1) cap) (Hl.length + 1) (rowP Hl ++ [.int .i64 (p.off : Int), .slice p.a n1 p.c])) (hg : W.grownBy w3 (Value.slice ah Hl.length ch).ownBlock) (hat : (Value.slice ah Hl.length ch).ownBlock = some g ∨ g = H)
    (hf : W.heap[fb]? = some o1) (hne : (Value.slice ah Hl.length ch).ownBlock ≠ some fb) (hH : fb < H) (hbs : base ≤ W.heap.size) :
    Hd w3 base (some ⟨g, 0, none⟩) cap (Hl ++ [p]) ∧ Below base w w3 ∧ w3.heap[fb]? = some o1 ∧ (Value.slice (some ⟨g, 0, none⟩) (Hl ++ [p]).length cap).ownBlock ≠ some fb := by
  subst hn1
  obtain ⟨a', c', e, h⟩ := hd.push hO ho hg
  simp only [Value.slice.injEq] at e
  obtain ⟨rfl, _, rfl⟩ := e
  refine ⟨h, hbel.grown hg hbs fun j hj => (hd.own.lt j hj).1, ?_, ?_⟩
  · rw [hg.block fb (Array.getElem?_eq_some_iff.1 hf).1 (fun e => hne e.symm)]
    exact hf
  · intro e
    simp only [Value.ownBlock, Option.some.injEq] at e
    subst e
    rcases hat with h1 | h1
    · exact hne h1
    · omega

theorem cells_of {W : World} {fb : Nat} {x y : Value} {t : TypeId} (h : W.heap[fb]? = some (.cells #[x, y] t (0, 0))) : W.cell? ⟨fb, 0, none⟩ = some x ∧ W.cell? ⟨fb, 1, none⟩ = some y := by
  simp [World.cell?, h]

theorem int_eq {x y : Int} (h : x = y) : Value.int .i64 x = .int .i64 y := by rw [h]

theorem below1 (wr : World) (o : Obj) : Below wr.heap.size wr (wr.alloc o) := (Below.refl _ wr).alloc (Nat.le_refl _) o
theorem below2 (wr : World) (o o' : Obj) : Below wr.heap.size wr ((wr.alloc o).alloc o') := (below1 wr o).alloc (by simp) o'
theorem heap2 (wr : World) (o o' : Obj) : ((wr.alloc o).alloc o').heap[wr.heap.size]? = some o := by
  rw [(below1 (wr.alloc o) o').block wr.heap.size (by simp), heap_alloc_new]
theorem new2c (W : World) (x y : Value) (t : TypeId) (N : Nat) (hN : W.heap.size = N) : ∀ j u, [x, y][j]? = some u → (W.alloc (.cells #[x, y] t)).cell? ((⟨N, 0, none⟩ : Addr).add j) = some u := by
  intro j u hj
  subst hN
  rw [Addr.add_lit, Nat.zero_add]
  simp only [World.cell?, heap_alloc_new]
  simpa using hj
theorem Hd.notNew {W : World} {base ch : Nat} {ah : Option Addr} {Hl : List Piece} (h : Hd W base ah ch Hl) : (Value.slice ah Hl.length ch).ownBlock ≠ some W.heap.size := fun e => by
  have := (h.own.lt _ e).2
  omega

theorem rd_sub {w : World} {B b o : Nat} {l : List Int} (h : Rd w B (some ⟨b, o, none⟩) l.length (ci .u8 l)) (lo hi : Nat) (h1 : lo < hi) (h2 : hi ≤ l.length) :
    Rd w B (some ⟨b, o + lo, none⟩) ((l.drop lo).take (hi - lo)).length (ci .u8 ((l.drop lo).take (hi - lo))) := by
  rcases h with h | ⟨b', o', e, hB, hc⟩
  · omega
  · simp only [Option.some.injEq, Addr.mk.injEq, and_true] at e
    obtain ⟨rfl, rfl⟩ := e
    refine .inr ⟨b, o + lo, rfl, hB, fun i hi' => ?_⟩
    have hi2 : i < hi - lo := by
      simp only [List.length_take, List.length_drop] at hi'
      omega
    rw [Nat.add_assoc, hc (lo + i) (by omega)]
    unfold ci
    rw [List.getD_eq_getElem?_getD, List.getD_eq_getElem?_getD, List.getElem?_take, if_pos hi2, List.getElem?_drop]

theorem sub_len (l : List Int) (lo hi : Nat) (h1 : lo < hi) (h2 : hi ≤ l.length) : ((l.drop lo).take (hi - lo)).length = hi - lo := by
  simp only [List.length_take, List.length_drop]
  omega

theorem ho_false {w W : World} {bt off M cap at_ : Nat} {a : Option Addr} {l : List Int} {L Hl : List Piece} (hA : Asm w bt (.slice a L.length cap)) (hL : Hd w 0 a cap L) (hn : L.length ≤ 256) (hbd : ∀ p ∈ L, p.off + p.oct.length ≤ M) (hb : Below w.heap.size w W)
    (hpl : HoPl off M L Hl L.length at_) (hover : 256 < Hl.length ∨ (256 < Hl.length + 1 ∧ at_ < off + l.length)) : HoPost w bt off l L M (.returned (.bool false)) W := by
  obtain ⟨_, _, hlt⟩ := hA.cell
  refine ⟨false, a, cap, L, rfl, hA.keep (hb.block bt hlt), hL.keep hb, hn, hbd, ⟨hb.mono (by omega), fun x hx _ => hb.block x hx⟩, fun hx h0 => ?_⟩
  obtain ⟨e1, e2⟩ := hpl.ex hx
  rw [List.take_length] at e1
  subst e1
  refine ⟨?_, fun _ => rfl, (fun h => by cases h)⟩
  symm
  rw [decide_eq_false_iff_not]
  omega

theorem ho_true {w W : World} {bt off M cap c' : Nat} {a a' : Option Addr} {l : List Int} {L L' : List Piece} (hA : Asm w bt (.slice a L.length cap)) (hH : Hd W w.heap.size a' c' L') (hb : Below w.heap.size w W) (hbd : ∀ p ∈ L', p.off + p.oct.length ≤ M) (hl : L'.length ≤ 256)
    (hex : (∀ p ∈ L, p.off + p.oct.length ≤ off) → 0 < l.length → L.length < 256 ∧ ∃ x' c'', L' = L ++ [⟨off, x', c'', l⟩]) : HoPost w bt off l L M (.returned (.bool true)) (W.setCell ⟨bt, 4, none⟩ (.slice a' L'.length c')) := by
  obtain ⟨_, _, hlt⟩ := hA.cell
  have hA2 := hA.keep (hb.block bt hlt)
  refine ⟨true, a', c', L', rfl, hA2.set, ?_, hl, hbd, ⟨(hb.mono (show bt ≤ w.heap.size by omega)).setCell (Nat.le_refl _) _, fun x hx hne => ?_⟩, fun hx h0 => ?_⟩
  · refine (hH.mono (Nat.zero_le _)).of_blocks fun b cs t ht hh => Below.heap_setCell W ⟨bt, 4, none⟩ _ b fun e => ?_
    simp only at e
    subst e
    obtain ⟨cs2, h1, _⟩ := hA2
    rw [h1] at hh
    simp only [Option.some.injEq, Obj.cells.injEq] at hh
    rcases ht with rfl | rfl <;> simp at hh
  · rw [Below.heap_setCell W ⟨bt, 4, none⟩ _ x hne]
    exact hb.block x hx
  · obtain ⟨h1, h2⟩ := hex hx h0
    exact ⟨(decide_eq_true h1).symm, (fun h => by cases h), fun _ => h2⟩

theorem ho_ex {off M at_ c2 : Nat} {a2 : Option Addr} {L Hl : List Piece} {l l' : List Int} (hpl : HoPl off M L Hl L.length at_) (hl0 : at_ = off → l' = l) (h : (Hl ++ [(⟨at_, a2, c2, l'⟩ : Piece)]).length ≤ 256) (hx : ∀ p ∈ L, p.off + p.oct.length ≤ off) :
    L.length < 256 ∧ ∃ x' c'', Hl ++ [(⟨at_, a2, c2, l'⟩ : Piece)] = L ++ [⟨off, x', c'', l⟩] := by
  obtain ⟨e1, e2⟩ := hpl.ex hx
  rw [List.take_length] at e1
  rw [List.length_append, List.length_singleton, e1] at h
  refine ⟨by omega, a2, c2, ?_⟩
  rw [e1, hl0 e2, e2]

set_option maxHeartbeats 2000000 in
set_option maxRecDepth 100000 in
theorem hold36 (bt off : Nat) (x : Option Addr) (c : Nat) (l : List Int) (a : Option Addr) (cap : Nat) (L : List Piece) (M : Nat) (w : World) (B : Nat) (hA : Asm w bt (.slice a L.length cap)) (hL : Hd w 0 a cap L) (hx : Rd w B x l.length (ci .u8 l)) (hB : B ≤ w.heap.size)
    (hc : l.length ≤ c) (hM : M ≤ 8000000) (ho : off + l.length ≤ M) (hbd : Hid (∀ p ∈ L, p.off + p.oct.length ≤ M)) (hn : L.length ≤ 256) :
    Calls Try.prog 36 #[.pointer (some ⟨bt, 0, none⟩), .int .i64 (off : Int), .slice x l.length c] w (HoPost w bt off l L M) := by
  obtain ⟨hA1, hA2, hA3⟩ := hA.cell
  obtain ⟨i0, hi0, hz0, hz1, hz2⟩ := info_parts Try.info64
  have HA : Hid _ := hA
  clear hA
  go_enter Try.func36, Try.ntmps36
  go_wp2
  go_loopw [7, 8, 23] (fun v z i wr => ∃ (k at_ ch : Nat) (ah : Option Addr) (Hl : List Piece), v = .slice ah Hl.length ch ∧ z = .int .i64 (at_ : Int) ∧ i = .int .i64 (k : Int) ∧ k ≤ L.length ∧ HoRel w wr off M L Hl k at_ ah ch) (fun _ _ i _ => L.length - (intOf i).toNat)
  case atStart => exact ⟨0, off, 0, none, [], rfl, rfl, rfl, Nat.zero_le _, ⟨Hd.nil _ _, Below.refl _ _, HoPl.start off M L (by omega)⟩⟩
  case round =>
    obtain ⟨k, at_, ch, ah, Hl, rfl, rfl, rfl, hk, hr⟩ := hrel
    have hlo := hr.pl.lo
    have hhi := hr.pl.hi
    have hlen := hr.pl.len
    have hsz := hr.below.size
    by_cases hkn : k < L.length
    · obtain ⟨p, hp⟩ : ∃ p, L[k]? = some p := ⟨L[k], List.getElem?_eq_getElem hkn⟩
      obtain ⟨g, rfl, _, hg, t0, t1⟩ := hL.at hp
      have u0 : wr.cell? ⟨g, k * 2, none⟩ = some (.int .i64 (p.off : Int)) := (hr.below.cell (p := ⟨g, k * 2, none⟩) hg).trans t0
      have u1 : wr.cell? ⟨g, k * 2 + 1, none⟩ = some (.slice p.a p.oct.length p.c) := (hr.below.cell (p := ⟨g, k * 2 + 1, none⟩) hg).trans t1
      have hpm : p ∈ L := List.mem_of_getElem? hp
      have hpb := hbd.out p hpm
      have hOw : Oct wr p := (hL.oct p hpm).of_blocks fun b cs hh => hr.below.block b (Array.getElem?_eq_some_iff.1 hh).1
      have hki : (k : Int) < (L.length : Int) := by omega
      clear t0 t1
      by_cases cA : at_ < p.off ∧ at_ < off + l.length
      · obtain ⟨cA1, cA2⟩ := cA
        obtain ⟨xb, xo, rfl, hxB, _⟩ := hx.at (show 0 < l.length by omega)
        obtain ⟨lo, hlo'⟩ : ∃ lo, at_ = off + lo := ⟨at_ - off, by omega⟩
        obtain ⟨hi, hhi'⟩ : ∃ hi, min p.off (off + l.length) = off + hi := ⟨min p.off (off + l.length) - off, by omega⟩
        have i1 : (at_ : Int) < (p.off : Int) := by omega
        have i2 : (at_ : Int) < (off : Int) + (l.length : Int) := by omega
        have i3 : (at_ : Int) - (off : Int) = (lo : Int) := by omega
        have i4 : lo < hi := by omega
        have i5 : hi ≤ l.length := by omega
        have i7 : at_ + (hi - lo) ≤ M := by omega
        have hll := sub_len l lo hi i4 i5
        have hrd := rd_sub ((hx.keep (hr.below.mono hB)).keep ((below1 wr (.cells #[.int .i64 (p.off : Int), .slice p.a p.oct.length p.c] 64)).mono (Nat.le_trans hB hsz))) lo hi i4 i5
        generalize (l.drop lo).take (hi - lo) = l' at hll hrd
        have HPl : Hid (∀ q : Piece, q.off + q.oct.length ≤ M → HoPl off M L (Hl ++ [q] ++ [p]) (k + 1) (max at_ (p.off + p.oct.length))) := fun q hq => hr.pl.stepA hp hbd.out hq cA1
        have HBC := bc41 ⟨xb, xo + lo, none⟩ (c - lo) l' _ B hrd (by omega) (by omega)
        rw [hll] at HBC
        have hll' : Hid (l'.length = hi - lo) := hll
        have Hn1 : Hid (p.oct.length = p.oct.length) := rfl
        have hnn := hr.hd.notNew
        have hm : (at_ : Int) < (p.off : Int) + (p.oct.length : Int) := by omega
        clear hrd hll hL
        have cm : (¬ (off : Int) + (l.length : Int) < (p.off : Int) ∧ (p.off : Int) - (off : Int) = (hi : Int)) ∨ ((off : Int) + (l.length : Int) < (p.off : Int) ∧ (off : Int) + (l.length : Int) - (off : Int) = (hi : Int)) := by omega
        clear hlo' hhi'
        rcases cm with ⟨cm, i6⟩ | ⟨cm, i6⟩
        all_goals
          go_wp2_with fail
          try rw [show ((off : Int) + (l.length : Int)).toNat - off - lo = hi - lo by omega]
          refine HBC.mono ?_
          rintro e w2 ⟨a2, c2, rfl, hOc, hb2⟩
          have bb : Below wr.heap.size wr w2 := (below1 wr _).trans (hb2.mono (by simp))
          have hf2 : w2.heap[wr.heap.size]? = some (.cells #[.int .i64 (p.off : Int), .slice p.a p.oct.length p.c] 64) := (hb2.block wr.heap.size (by simp)).trans (heap_alloc_new _ _)
          have bW := bb.alloc bb.size (.cells #[.int .i64 (at_ : Int), .slice a2 l'.length c2] 64)
          have hd2 := hr.hd.keep bW
          have hb3 : Below w.heap.size w _ := hr.below.trans (bW.mono hsz)
          have hO2 := (hOc at_).keep (below1 w2 (.cells #[.int .i64 (at_ : Int), .slice a2 l'.length c2] 64))
          have hOp := hOw.keep bW
          have hfW : (w2.alloc (.cells #[.int .i64 (at_ : Int), .slice a2 l'.length c2] 64)).heap[wr.heap.size]? = some (.cells #[.int .i64 (p.off : Int), .slice p.a p.oct.length p.c] 64) := ((below1 w2 _).block wr.heap.size (by have := hb2.size; simp at this; omega)).trans hf2
          have hsb := bb.size
          have hgt : wr.heap.size < w2.heap.size := by have := hb2.size; simp at this; omega
          clear hb2 bb bW hOc hOw hr
          go_wp2_with (at_builtin; refine wpList_append_lies _ rfl _ _ 59 rfl w.heap.size 64 i0 (.agg #[.int .i64 0, .slice none 0 0]) 2 32 Try.underlying59 hi0 hz0 hz1 hz2 rfl (by decide) _ Hl.length (rowP Hl) rfl ?ho _ 1 1 [.int .i64 (at_ : Int), .slice a2 l'.length c2] rfl rfl ?c1 ?c2 (by decide) ?c3 ?c4 ?c5 _ rfl ?_)
          case ho => exact hd2.own
          case c1 => exact new2c _ _ _ 64 _ rfl
          case c2 => first | exact ⟨rfl, rfl⟩ | (intro u hu; simp at hu; rcases hu with rfl | rfl <;> rfl)
          case c3 => unfold maxLen; omega
          case c4 => omega
          case c5 => simp; omega
          intro g2 cap2 w3 hown hgrow hat hlt
          have hq : at_ + l'.length ≤ M := by rw [hll'.out]; exact i7
          have HPq : Hid _ := HPl.out ⟨at_, a2, c2, l'⟩ hq
          obtain ⟨k1, k2, k3, k4⟩ := ho_push (fb := wr.heap.size) (p := ⟨at_, a2, c2, l'⟩) (n1 := l'.length) hd2 hb3 rfl hO2 hown hgrow hat hfW hnn (by omega) hb3.size
          obtain ⟨v0, v1⟩ := cells_of k3
          have hOp3 : Oct w3 p := hOp.of_blocks fun b cs hb => hgrow.block b (Array.getElem?_eq_some_iff.1 hb).1 fun e => by
            rcases hd2.own.2 with ⟨h0, h1⟩ | ⟨g9, cap9, cur9, h0, _, hh, _⟩
            · rw [h0] at e
              simp [Value.ownBlock] at e
            · rw [h0] at e
              simp only [Value.ownBlock, Option.some.injEq] at e
              subst e
              rw [hh] at hb
              simp at hb
          have hgs := hgrow.size
          simp at hgs
          clear hown hgrow hat hlt hd2 hO2 hb3 hfW hnn hOp HPl hf2 hll' HBC
          obtain ⟨Hl1, hHl1⟩ : ∃ Hl1, Hl1 = Hl ++ [(⟨at_, a2, c2, l'⟩ : Piece)] := ⟨_, rfl⟩
          rw [← hHl1] at k1 k4 HPq
          have hL1 : Hl.length + 1 = Hl1.length := by rw [hHl1]; simp
          rw [hL1]
          have hlen1 : Hl1.length ≤ 2 * k + 1 := by omega
          clear hHl1 hL1 hlen
          have hd5 := k1.keep (below1 w3 (.cells #[.int .i64 (p.off : Int), .slice p.a p.oct.length p.c] 64))
          have hO5 := hOp3.keep (below1 w3 (.cells #[.int .i64 (p.off : Int), .slice p.a p.oct.length p.c] 64))
          have hb5 : Below w.heap.size w _ := k2.alloc k2.size (.cells #[.int .i64 (p.off : Int), .slice p.a p.oct.length p.c] 64)
          have hf5 : (w3.alloc (.cells #[.int .i64 (p.off : Int), .slice p.a p.oct.length p.c] 64)).heap[wr.heap.size]? = some (.cells #[.int .i64 (p.off : Int), .slice p.a p.oct.length p.c] 64) := ((below1 w3 _).block wr.heap.size (by omega)).trans k3
          have hs3 := k2.size
          clear k1 k2 k3 hOp3
          go_wp2_with (at_builtin; refine wpList_append_lies _ rfl _ _ 59 rfl w.heap.size 64 i0 (.agg #[.int .i64 0, .slice none 0 0]) 2 32 Try.underlying59 hi0 hz0 hz1 hz2 rfl (by decide) _ Hl1.length (rowP Hl1) rfl ?ho2 _ 1 1 [.int .i64 (p.off : Int), .slice p.a p.oct.length p.c] rfl rfl ?d1 ?d2 (by decide) ?d3 ?d4 ?d5 _ rfl ?_)
          case ho2 => exact hd5.own
          case d1 => first | exact fun j u h => h | exact new2c _ _ _ 64 _ rfl
          case d2 => first | exact ⟨rfl, rfl⟩ | (intro u hu; simp at hu; rcases hu with rfl | rfl <;> rfl)
          case d3 => unfold maxLen; omega
          case d4 => omega
          case d5 => first | omega | (simp; omega)
          intro g3 cap3 w4 hown hgrow hat hlt
          obtain ⟨k1, k2, k3, k5⟩ := ho_push (fb := wr.heap.size) (p := p) hd5 hb5 rfl hO5 hown hgrow hat hf5 k4 (by omega) hb5.size
          obtain ⟨x0, x1⟩ := cells_of k3
          clear hown hgrow hat hlt hd5 hO5 hb5 hf5 k4 k5 k3 v0 v1
          go_wp2
          go_roundw
          case rel => exact ⟨k + 1, max at_ (p.off + p.oct.length), cap3, some ⟨g3, 0, none⟩, Hl1 ++ [p], by rw [List.length_append]; rfl, int_eq (by omega), by go_num, by omega, ⟨k1, k2, HPq.out⟩⟩
          case measure => simp [intOf]; omega
      · have HPl : Hid (HoPl off M L (Hl ++ [p]) (k + 1) (max at_ (p.off + p.oct.length))) := hr.pl.stepB hp hbd.out
        have cA' : ¬ (p.off > at_ ∧ at_ < off + l.length) := cA
        have cI : ¬ ((at_ : Int) < (p.off : Int) ∧ (at_ : Int) < (off : Int) + (l.length : Int)) := by omega
        clear hL hx
        obtain ⟨n1, hn1⟩ : ∃ n1, n1 = p.oct.length := ⟨_, rfl⟩
        have Hn1 : Hid (n1 = p.oct.length) := hn1
        rw [← hn1] at u1 hpb HPl
        clear hn1
        have hd2 := hr.hd.keep (below2 wr (.cells #[.int .i64 (p.off : Int), .slice p.a n1 p.c] 64) (.cells #[.int .i64 (p.off : Int), .slice p.a n1 p.c] 64))
        have hO2 := hOw.keep (below2 wr (.cells #[.int .i64 (p.off : Int), .slice p.a n1 p.c] 64) (.cells #[.int .i64 (p.off : Int), .slice p.a n1 p.c] 64))
        have hb2 : Below w.heap.size w ((wr.alloc (.cells #[.int .i64 (p.off : Int), .slice p.a n1 p.c] 64)).alloc (.cells #[.int .i64 (p.off : Int), .slice p.a n1 p.c] 64)) := hr.below.trans ((below2 wr _ _).mono hsz)
        have hnn := hr.hd.notNew
        clear hOw hr
        have cc : (¬ (at_ : Int) < (p.off : Int)) ∨ ((at_ : Int) < (p.off : Int) ∧ ¬ (at_ : Int) < (off : Int) + (l.length : Int)) := by omega
        rcases cc with cC | ⟨cC, cD⟩
        all_goals
          go_wp2_with (at_builtin; refine wpList_append_lies _ rfl _ _ 59 rfl w.heap.size 64 i0 (.agg #[.int .i64 0, .slice none 0 0]) 2 32 Try.underlying59 hi0 hz0 hz1 hz2 rfl (by decide) _ Hl.length (rowP Hl) rfl ?ho _ 1 1 [.int .i64 (p.off : Int), .slice p.a n1 p.c] rfl rfl ?c1 ?c2 (by decide) ?c3 ?c4 ?c5 _ rfl ?_)
          case ho => exact hd2.own
          case c2 => first | exact ⟨rfl, rfl⟩ | (intro u hu; simp at hu; rcases hu with rfl | rfl <;> rfl)
          case c3 => unfold maxLen; omega
          case c4 => omega
          case c5 => omega
          intro g2 cap2 w3 hown hgrow hat hlt
          obtain ⟨k1, k2, k3, k4⟩ := ho_push (fb := wr.heap.size) (o1 := .cells #[.int .i64 (p.off : Int), .slice p.a n1 p.c] 64) hd2 hb2 Hn1.out hO2 hown hgrow hat (heap2 wr _ _) hnn (by first | omega | simp) hb2.size
          obtain ⟨v0, v1⟩ := cells_of k3
          clear hown hgrow hat hlt hd2 hO2 hb2 k3 k4 hnn
          by_cases cM : (at_ : Int) < (p.off : Int) + (n1 : Int)
          · go_wp2
            go_roundw
            case rel => exact ⟨k + 1, max at_ (p.off + n1), cap2, some ⟨g2, 0, none⟩, Hl ++ [p], by rw [List.length_append]; rfl, int_eq (by omega), by go_num, by omega, ⟨k1, k2, HPl.out⟩⟩
            case measure => simp [intOf]; omega
          · first
              | (exfalso; omega)
              | go_wp2
                go_roundw
                case rel => exact ⟨k + 1, max at_ (p.off + n1), cap2, some ⟨g2, 0, none⟩, Hl ++ [p], by rw [List.length_append]; rfl, int_eq (by omega), by go_num, by omega, ⟨k1, k2, HPl.out⟩⟩
                case measure => simp [intOf]; omega
    · obtain rfl : k = L.length := by omega
      have HPl : Hid _ := hr.pl
      have HL : Hid _ := hL
      have c4 : wr.cell? ⟨bt, 4, none⟩ = some (.slice a L.length cap) := (hr.below.cell (p := ⟨bt, 4, none⟩) hA3).trans hA1
      have f4 : wr.frozen? ⟨bt, 4, none⟩ = false := (hr.below.frozen (p := ⟨bt, 4, none⟩) hA3).trans hA2
      by_cases cE : at_ < off + l.length
      · obtain ⟨xb, xo, rfl, hxB, _⟩ := hx.at (show 0 < l.length by omega)
        obtain ⟨lo, hlo'⟩ : ∃ lo, at_ = off + lo := ⟨at_ - off, by omega⟩
        have i2 : (at_ : Int) < (off : Int) + (l.length : Int) := by omega
        have i3 : (at_ : Int) - (off : Int) = (lo : Int) := by omega
        have i4 : lo < l.length := by omega
        have hll := sub_len l lo l.length i4 (Nat.le_refl _)
        have hrd := rd_sub (hx.keep (hr.below.mono hB)) lo l.length i4 (Nat.le_refl _)
        have hl0 : Hid (at_ = off → (l.drop lo).take (l.length - lo) = l) := fun h => by
          have : lo = 0 := by omega
          subst this
          simp
        generalize (l.drop lo).take (l.length - lo) = l' at hll hrd hl0
        have HBC := bc41 ⟨xb, xo + lo, none⟩ (c - lo) l' wr B hrd (by omega) (by omega)
        rw [hll] at HBC
        have hq : Hid (at_ + l'.length ≤ M) := by show at_ + l'.length ≤ M; omega
        clear hrd hlo' hll hL
        go_wp2_with fail
        refine HBC.mono ?_
        rintro e w2 ⟨a2, c2, rfl, hOc, hb2⟩
        have bW := hb2.alloc hb2.size (.cells #[.int .i64 (at_ : Int), .slice a2 l'.length c2] 64)
        have hd2 := hr.hd.keep bW
        have hb3 : Below w.heap.size w _ := hr.below.trans (bW.mono hsz)
        have hO2 := (hOc at_).keep (below1 w2 (.cells #[.int .i64 (at_ : Int), .slice a2 l'.length c2] 64))
        have hs2 := hb2.size
        clear hb2 bW hOc hr HBC hx
        go_wp2_with (at_builtin; refine wpList_append_own _ rfl _ _ 59 rfl w.heap.size 64 i0 (.agg #[.int .i64 0, .slice none 0 0]) 2 32 Try.underlying59 hi0 hz0 hz1 hz2 rfl (by decide) _ Hl.length (rowP Hl) rfl ?ho9 _ 1 1 [.int .i64 (at_ : Int), .slice a2 l'.length c2] rfl rfl ?e1 ?e2 ?e3 ?e4 ?e5 ?_)
        case ho9 => exact hd2.own
        case e1 => first | exact fun j u h => h | exact new2c _ _ _ 64 _ rfl
        case e2 => first | exact ⟨rfl, rfl⟩ | (intro u hu; simp at hu; rcases hu with rfl | rfl <;> rfl)
        case e3 => unfold maxLen; omega
        case e4 => omega
        case e5 => first | omega | (simp; omega)
        intro v' w3 hown hgrow hnn
        have hb4 : Below w.heap.size w w3 := hb3.grown hgrow hb3.size fun j hj => (hd2.own.lt j hj).1
        obtain ⟨a', c', rfl, k1⟩ := hd2.push (p := ⟨at_, a2, c2, l'⟩) hO2 hown hgrow
        have e4 : w3.cell? ⟨bt, 4, none⟩ = some (.slice a L.length cap) := (hb4.cell (p := ⟨bt, 4, none⟩) hA3).trans hA1
        have g4 : w3.frozen? ⟨bt, 4, none⟩ = false := (hb4.frozen (p := ⟨bt, 4, none⟩) hA3).trans hA2
        have hL1 : (Hl ++ [(⟨at_, a2, c2, l'⟩ : Piece)]).length = Hl.length + 1 := by simp
        have Hover : Hid _ := fun h => ho_false (l := l) HA.out HL.out hn hbd.out hb4 HPl.out (.inr ⟨h, cE⟩)
        have Htrue : Hid _ := fun h => ho_true (off := off) (l := l) (M := M) HA.out k1 hb4 (fun p hp => by
          rw [List.mem_append, List.mem_singleton] at hp
          rcases hp with hp | rfl
          · exact HPl.out.bd p hp
          · exact hq.out) h (fun hx h0 => ho_ex HPl.out hl0.out h hx)
        clear hown hgrow hnn hd2 hO2 hb3 HPl HL hq hl0 k1 c4 f4
        by_cases cF : 256 < Hl.length + 1
        · have cF' : (256 : Int) < ((Hl ++ [(⟨at_, a2, c2, l'⟩ : Piece)]).length : Int) := by omega
          generalize (Hl ++ [(⟨at_, a2, c2, l'⟩ : Piece)]).length = N at *
          go_wp2
          go_ret
          exact Hover.out cF
        · have cF' : ¬ (256 : Int) < ((Hl ++ [(⟨at_, a2, c2, l'⟩ : Piece)]).length : Int) := by omega
          have HT2 := Htrue.out (by omega)
          clear Htrue Hover hL1
          generalize (Hl ++ [(⟨at_, a2, c2, l'⟩ : Piece)]).length = N at *
          go_wp2
          go_ret
          exact HT2
      · have i2 : ¬ (at_ : Int) < (off : Int) + (l.length : Int) := by omega
        have HD := hr.hd
        have hb4 := hr.below
        have Hover : Hid _ := fun h => ho_false (l := l) HA.out HL.out hn hbd.out hb4 HPl.out (.inl h)
        have Htrue : Hid _ := fun h => ho_true (off := off) (l := l) (M := M) HA.out HD hb4 HPl.out.bd h (fun hx h0 => by
          obtain ⟨e1, e2⟩ := HPl.out.ex hx
          omega)
        clear hr hL hx HPl HL HD
        by_cases cF : 256 < Hl.length
        · go_wp2
          go_ret
          exact Hover.out cF
        · have HT2 := Htrue.out (by omega)
          clear Htrue Hover
          go_wp2
          go_ret
          exact HT2

set_option maxHeartbeats 400000 in
theorem zh21 (bt off : Nat) (x : Option Addr) (c : Nat) (l : List Int) (a : Option Addr) (cap : Nat) (L : List Piece) (M : Nat) (w : World) (B : Nat) (hA : Asm w bt (.slice a L.length cap)) (hL : Hd w 0 a cap L) (hx : Rd w B x l.length (ci .u8 l)) (hB : B ≤ w.heap.size)
    (hc : l.length ≤ c) (hM : M ≤ 8000000) (ho : off + l.length ≤ M) (hbd : Hid (∀ p ∈ L, p.off + p.oct.length ≤ M)) (hn : L.length ≤ 256) :
    Calls Try.prog 21 #[.pointer (some ⟨bt, 0, none⟩), .int .i64 (off : Int), .slice x l.length c] w (HoPost w bt off l L M) := by
  go_enter Try.func21, Try.ntmps21
  go_wp2_with fail
  refine (hold36 bt off x c l a cap L M w B hA hL hx hB hc hM ho hbd hn).mono ?_
  rintro e w' ⟨ok, a', c', L', rfl, r⟩
  have R : Hid _ := r
  clear r
  go_wp2
  go_ret
  exact ⟨ok, a', c', L', rfl, R.out⟩
end Go.Proofs.Qxb6000464a

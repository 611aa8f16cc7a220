import Derived.Test.Qxb6000858aShelf
import Derived.Test.Qxb6000858aUnion
namespace Go.Proofs.Qxb6000858a
open Go.Shelf Go.RowKit Go.Lib Go.Sort
set_option linter.unusedVariables false

/-- a span within the bounds. -/
def encSp (n : Nat) (x : Fin (n + 1) × Fin (n + 1)) : List Value := [.int .i64 (x.1.val : Int), .int .i64 (x.2.val : Int)]
def cfSp (n : Nat) (x y : Fin (n + 1) × Fin (n + 1)) : Int := (x.1.val : Int) - (y.1.val : Int)

theorem ltSp (n : Nat) (x y : Fin (n + 1) × Fin (n + 1)) : ltOf (cfSp n) x y = decide (x.1.val < y.1.val) := by
  unfold ltOf cfSp
  congr 1
  simp only [eq_iff_iff]
  omega

theorem swoSp (n : Nat) : SWO (ltOf (cfSp n)) where
  irrefl x := by rw [ltSp]; simp
  trans x y z h1 h2 := by rw [ltSp] at *; simp at *; omega
  ntrans x y z h1 h2 := by rw [ltSp] at *; simp at *; omega

set_option maxHeartbeats 1000000 in
/-- the closure: 'a.lo - b.lo': in whatever world: two blocks are laid. -/
theorem closure30 (n : Nat) (hn : n ≤ 4096) (x y : Fin (n + 1) × Fin (n + 1)) (W : World) : Calls Try.prog 30 #[.agg #[.int .i64 (x.1.val : Int), .int .i64 (x.2.val : Int)], .agg #[.int .i64 (y.1.val : Int), .int .i64 (y.2.val : Int)]] W fun e w' => e = .returned (.int .i64 (cfSp n x y)) ∧ ∃ q os', w' = grow (W.drewN q) os' := by
  have h1 := x.1.isLt
  have h2 := y.1.isLt
  have HC : Hid (cfSp n x y = (x.1.val : Int) - (y.1.val : Int)) := rfl
  generalize cfSp n x y = r at *
  generalize x.1.val = a at *
  generalize x.2.val = b at *
  generalize y.1.val = c at *
  generalize y.2.val = d at *
  go_enter Try.func30, Try.ntmps30
  go_wp2
  go_ret
  exact ⟨ret_int HC.out.symm, 0, _, by rw [alloc_eq_grow, alloc_eq_grow, grow_grow]; rfl⟩

theorem cmpLays30 (n : Nat) (hn : n ≤ 4096) (blk off size : Nat) (w : World) : CmpLays Try.prog 30 #[] (encSp n) 2 (cfSp n) blk off size w :=
  fun _ _ _ _ x y => closure30 n hn x y _

theorem below_sort {α : Type} [Inhabited α] (enc : α → List Value) (k : Nat) (w : World) (blk off n : Nat) (d : Array α) (os : Array Obj) (hb : blk < w.heap.size) : Below blk w (sortWorldK enc k w blk off n d os) := by
  refine ⟨rfl, rfl, rfl, ?_, fun j hj => ?_⟩
  · simp [sortWorldK, grow, putRowK, putRow, mapBlock]
  · show (w.heap.modify blk _ ++ os)[j]? = w.heap[j]?
    rw [Array.getElem?_append_left (by simp; omega), Array.getElem?_modify, if_neg (by omega)]

theorem sort29 : SortSaid := by
  intro n m blk cap lo hi w hb hH hn hm hblk
  obtain ⟨d, hd, hds⟩ : ∃ d : Array (Fin (n + 1) × Fin (n + 1)), (∀ i, i < m → d[i]! = (Fin.ofNat (n + 1) (lo i), Fin.ofNat (n + 1) (hi i))) ∧ d.size = m :=
    ⟨(Array.range m).map fun i => (Fin.ofNat (n + 1) (lo i), Fin.ofNat (n + 1) (hi i)), fun i hi => by simp [hi], by simp⟩
  have hK : HoldsK (encSp n) 2 w blk 0 d := by
    intro j hj
    rw [size_flatK, hds] at hj
    rw [Nat.zero_add, get_flatK _ _ _ _ (by rw [hds]; exact hj), hd _ (by omega)]
    refine ⟨?_, (hH j hj).2⟩
    rw [(hH j hj).1]
    have b := hb (j / 2) (by omega)
    have e1 : lo (j / 2) % (n + 1) = lo (j / 2) := Nat.mod_eq_of_lt (by omega)
    have e2 : hi (j / 2) % (n + 1) = hi (j / 2) := Nat.mod_eq_of_lt (by omega)
    rcases (show j % 2 = 0 ∨ j % 2 = 1 by omega) with e | e
    · simp [pr, encSp, e, e1]
    · simp [pr, encSp, e, e2]
  have eg : ∀ args w, (callFunc 30 args).run Try.prog w = .ok (.enter 30 args) w := enters_of Try.func30 (by kernel_rfl) rfl
  have hcon := AnyQ.slices_SortFunc Try.sortSp 2 Try.isAgg42 Try.sizeOf42 (encSp n) (fun _ => rfl) (fun x v hv => by simp [encSp] at hv; rcases hv with rfl | rfl <;> rfl) (cfSp n) (swoSp n) 30 #[] blk 0 cap d w eg (cmpLays30 n hn blk 0 d.size w) hK hblk (by omega)
  rw [hds] at hcon
  refine hcon.mono ?_
  rintro e w' ⟨rfl, d', k, os, hp, _, rfl⟩
  have hs : d'.size = d.size := hp.1
  have hK' : HoldsK (encSp n) 2 (sortWorldK (encSp n) 2 w blk 0 k d' os) blk 0 d' := by
    unfold sortWorldK
    refine holdsK_grow _ _ _ _ _ _ _ ?_ (holdsK_putRowK _ _ _ _ _ d d' (holdsK_ahead _ _ _ _ _ _ _ hK) hs)
    simpa [putRowK, putRow, mapBlock] using hblk
  refine ⟨rfl, fun i => d'[i]!.1.val, fun i => d'[i]!.2.val, ⟨fun i hi => ⟨?_, ?_⟩, fun i hi => ⟨?_, ?_⟩⟩, below_sort _ _ _ _ _ _ _ _ hblk, (below_sort _ _ _ _ _ _ _ _ hblk).size⟩
  · have := (hK'.cell (i := i) (c := 0) (by omega) (by omega)).1
    simpa [encSp] using this
  · have := (hK'.cell (i := i) (c := 1) (by omega) (by omega)).1
    simpa [encSp] using this
  · have := d'[i]!.1.isLt; dsimp only; omega
  · have := d'[i]!.2.isLt; dsimp only; omega
end Go.Proofs.Qxb6000858a

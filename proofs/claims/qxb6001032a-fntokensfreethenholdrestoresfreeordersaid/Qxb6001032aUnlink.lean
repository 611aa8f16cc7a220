import Derived.Test.Qxb6001032aBase
namespace Go.Proofs.Qxb6001032a
open Go.RowKit
set_option linter.unusedVariables false

theorem cell_blk {w : World} {b i : Nat} {c : Array Value} {t : TypeId} {fr : Nat × Nat} {v : Value} (h : w.heap[b]? = some (.cells c t fr)) (hv : c[i]? = some v) : w.cell? ⟨b, i, none⟩ = some v := by
  simp [World.cell?, h, hv]
theorem froz_blk {w : World} {b i : Nat} {c : Array Value} {t : TypeId} (h : w.heap[b]? = some (.cells c t (0, 0))) : w.frozen? ⟨b, i, none⟩ = false := by
  simp [World.frozen?, h]

/-- 'p == nil' on pointers. -/
theorem eql_nil (w : World) (o : Option Nat) : (binOp .eql 29 (ptr o) (.pointer none)).run Try.prog w = .ok (.bool o.isNone) w := by
  cases o <;> kernel_rfl

/-- the world behind unlink. -/
def ul1 (w : World) (bt : Nat) (po pn : Option Nat) : World := match po with
  | none => w.setCell ⟨bt, 1, none⟩ (ptr pn)
  | some p => w.setCell ⟨p, 5, none⟩ (ptr pn)
def ul2 (w : World) (bt : Nat) (po pn : Option Nat) : World := match pn with
  | none => w.setCell ⟨bt, 2, none⟩ (ptr po)
  | some q => w.setCell ⟨q, 4, none⟩ (ptr po)
def ulW (w : World) (bt e k : Nat) (po pn : Option Nat) : World :=
  ((((ul2 (ul1 w bt po pn) bt po pn).setCell ⟨e, 3, none⟩ (.bool false)).setCell ⟨e, 4, none⟩ (.pointer none)).setCell ⟨e, 5, none⟩ (.pointer none)).setCell ⟨bt, 3, none⟩ (.int .i64 (k : Int))

theorem dd2 (X Y : World) (h : X = Y) : ∃ q, X.drew.drew = Y.drewN q := ⟨2, by rw [h]; rfl⟩
theorem dd1 (X Y : World) (h : X = Y) : ∃ q, X.drew = Y.drewN q := ⟨1, by rw [h]; rfl⟩
theorem dd0 (X Y : World) (h : X = Y) : ∃ q, X = Y.drewN q := ⟨0, by rw [h]; rfl⟩

def UlPost (w : World) (bt e k : Nat) (po pn : Option Nat) (x : Ending) (w' : World) : Prop := x = .returned (.tuple #[]) ∧ ∃ q, w' = (ulW w bt e k po pn).drewN q

set_option maxHeartbeats 400000 in
theorem unlink_pq (bt e p q : Nat) (s sp sq : ByteArray) (mp hd la pp nq : Option Nat) (k : Nat) (w : World)
    (hb : w.heap[bt]? = some (tok mp hd la (k + 1))) (he : w.heap[e]? = some (ent s true (some p) (some q))) (hp : w.heap[p]? = some (ent sp true pp (some e))) (hq : w.heap[q]? = some (ent sq true (some e) nq))
    (d0 : bt ≠ e) (d1 : bt ≠ p) (d2 : e ≠ p) (d3 : bt ≠ q) (d4 : e ≠ q) (d5 : p ≠ q) (hk : k ≤ 1048576) :
    Calls Try.prog 35 #[.pointer (some ⟨bt, 0, none⟩), .pointer (some ⟨e, 0, none⟩)] w (UlPost w bt e k (some p) (some q)) := by
  have b1 : w.cell? ⟨bt, 1, none⟩ = some (ptr hd) := cell_blk hb rfl
  have b2 : w.cell? ⟨bt, 2, none⟩ = some (ptr la) := cell_blk hb rfl
  have b3 : w.cell? ⟨bt, 3, none⟩ = some (.int .i64 ((k : Int) + 1)) := cell_blk hb rfl
  have fb1 : w.frozen? ⟨bt, 1, none⟩ = false := froz_blk hb
  have fb2 : w.frozen? ⟨bt, 2, none⟩ = false := froz_blk hb
  have fb3 : w.frozen? ⟨bt, 3, none⟩ = false := froz_blk hb
  have e3 : w.cell? ⟨e, 3, none⟩ = some (.bool true) := cell_blk he rfl
  have fe3 : w.frozen? ⟨e, 3, none⟩ = false := froz_blk he
  have fe4 : w.frozen? ⟨e, 4, none⟩ = false := froz_blk he
  have fe5 : w.frozen? ⟨e, 5, none⟩ = false := froz_blk he
  have e4 : w.cell? ⟨e, 4, none⟩ = some (.pointer (some ⟨p, 0, none⟩)) := cell_blk he rfl
  have e5 : w.cell? ⟨e, 5, none⟩ = some (.pointer (some ⟨q, 0, none⟩)) := cell_blk he rfl
  have p5 : w.cell? ⟨p, 5, none⟩ = some (.pointer (some ⟨e, 0, none⟩)) := cell_blk hp rfl
  have fp : w.frozen? ⟨p, 5, none⟩ = false := froz_blk hp
  have q4 : w.cell? ⟨q, 4, none⟩ = some (.pointer (some ⟨e, 0, none⟩)) := cell_blk hq rfl
  have fq : w.frozen? ⟨q, 4, none⟩ = false := froz_blk hq
  clear hb he hp hq
  have g0 := d0.symm
  have g1 := d1.symm
  have g2 := d2.symm
  have g3 := d3.symm
  have g4 := d4.symm
  have g5 := d5.symm
  go_enter Try.func35, Try.ntmps35
  go_wp2
  go_region
  go_wp2
  go_region
  go_wp2
  go_end0
  refine ⟨rfl, dd2 _ _ ?_⟩
  simp only [ulW, ul2, ul1, ptr]

set_option maxHeartbeats 400000 in
theorem unlink_p (bt e p : Nat) (s sp : ByteArray) (mp hd la pp : Option Nat) (k : Nat) (w : World)
    (hb : w.heap[bt]? = some (tok mp hd la (k + 1))) (he : w.heap[e]? = some (ent s true (some p) none)) (hp : w.heap[p]? = some (ent sp true pp (some e)))
    (d0 : bt ≠ e) (d1 : bt ≠ p) (d2 : e ≠ p) (hk : k ≤ 1048576) :
    Calls Try.prog 35 #[.pointer (some ⟨bt, 0, none⟩), .pointer (some ⟨e, 0, none⟩)] w (UlPost w bt e k (some p) none) := by
  have b1 : w.cell? ⟨bt, 1, none⟩ = some (ptr hd) := cell_blk hb rfl
  have b2 : w.cell? ⟨bt, 2, none⟩ = some (ptr la) := cell_blk hb rfl
  have b3 : w.cell? ⟨bt, 3, none⟩ = some (.int .i64 ((k : Int) + 1)) := cell_blk hb rfl
  have fb1 : w.frozen? ⟨bt, 1, none⟩ = false := froz_blk hb
  have fb2 : w.frozen? ⟨bt, 2, none⟩ = false := froz_blk hb
  have fb3 : w.frozen? ⟨bt, 3, none⟩ = false := froz_blk hb
  have e3 : w.cell? ⟨e, 3, none⟩ = some (.bool true) := cell_blk he rfl
  have fe3 : w.frozen? ⟨e, 3, none⟩ = false := froz_blk he
  have fe4 : w.frozen? ⟨e, 4, none⟩ = false := froz_blk he
  have fe5 : w.frozen? ⟨e, 5, none⟩ = false := froz_blk he
  have e4 : w.cell? ⟨e, 4, none⟩ = some (.pointer (some ⟨p, 0, none⟩)) := cell_blk he rfl
  have e5 : w.cell? ⟨e, 5, none⟩ = some (.pointer none) := cell_blk he rfl
  have p5 : w.cell? ⟨p, 5, none⟩ = some (.pointer (some ⟨e, 0, none⟩)) := cell_blk hp rfl
  have fp : w.frozen? ⟨p, 5, none⟩ = false := froz_blk hp
  clear hb he hp
  have g0 := d0.symm
  have g1 := d1.symm
  have g2 := d2.symm
  go_enter Try.func35, Try.ntmps35
  go_wp2
  go_region
  go_wp2
  go_end0
  refine ⟨rfl, dd1 _ _ ?_⟩
  simp only [ulW, ul2, ul1, ptr]

set_option maxHeartbeats 400000 in
theorem unlink_q (bt e q : Nat) (s sq : ByteArray) (mp hd la nq : Option Nat) (k : Nat) (w : World)
    (hb : w.heap[bt]? = some (tok mp hd la (k + 1))) (he : w.heap[e]? = some (ent s true none (some q))) (hq : w.heap[q]? = some (ent sq true (some e) nq))
    (d0 : bt ≠ e) (d1 : bt ≠ q) (d2 : e ≠ q) (hk : k ≤ 1048576) :
    Calls Try.prog 35 #[.pointer (some ⟨bt, 0, none⟩), .pointer (some ⟨e, 0, none⟩)] w (UlPost w bt e k none (some q)) := by
  have b1 : w.cell? ⟨bt, 1, none⟩ = some (ptr hd) := cell_blk hb rfl
  have b2 : w.cell? ⟨bt, 2, none⟩ = some (ptr la) := cell_blk hb rfl
  have b3 : w.cell? ⟨bt, 3, none⟩ = some (.int .i64 ((k : Int) + 1)) := cell_blk hb rfl
  have fb1 : w.frozen? ⟨bt, 1, none⟩ = false := froz_blk hb
  have fb2 : w.frozen? ⟨bt, 2, none⟩ = false := froz_blk hb
  have fb3 : w.frozen? ⟨bt, 3, none⟩ = false := froz_blk hb
  have e3 : w.cell? ⟨e, 3, none⟩ = some (.bool true) := cell_blk he rfl
  have fe3 : w.frozen? ⟨e, 3, none⟩ = false := froz_blk he
  have fe4 : w.frozen? ⟨e, 4, none⟩ = false := froz_blk he
  have fe5 : w.frozen? ⟨e, 5, none⟩ = false := froz_blk he
  have e4 : w.cell? ⟨e, 4, none⟩ = some (.pointer none) := cell_blk he rfl
  have e5 : w.cell? ⟨e, 5, none⟩ = some (.pointer (some ⟨q, 0, none⟩)) := cell_blk he rfl
  have q4 : w.cell? ⟨q, 4, none⟩ = some (.pointer (some ⟨e, 0, none⟩)) := cell_blk hq rfl
  have fq : w.frozen? ⟨q, 4, none⟩ = false := froz_blk hq
  clear hb he hq
  have g0 := d0.symm
  have g1 := d1.symm
  have g2 := d2.symm
  go_enter Try.func35, Try.ntmps35
  go_wp2
  go_region
  go_wp2
  go_end0
  refine ⟨rfl, dd1 _ _ ?_⟩
  simp only [ulW, ul2, ul1, ptr]

set_option maxHeartbeats 400000 in
theorem unlink_0 (bt e : Nat) (s : ByteArray) (mp hd la : Option Nat) (k : Nat) (w : World)
    (hb : w.heap[bt]? = some (tok mp hd la (k + 1))) (he : w.heap[e]? = some (ent s true none none))
    (d0 : bt ≠ e) (hk : k ≤ 1048576) :
    Calls Try.prog 35 #[.pointer (some ⟨bt, 0, none⟩), .pointer (some ⟨e, 0, none⟩)] w (UlPost w bt e k none none) := by
  have b1 : w.cell? ⟨bt, 1, none⟩ = some (ptr hd) := cell_blk hb rfl
  have b2 : w.cell? ⟨bt, 2, none⟩ = some (ptr la) := cell_blk hb rfl
  have b3 : w.cell? ⟨bt, 3, none⟩ = some (.int .i64 ((k : Int) + 1)) := cell_blk hb rfl
  have fb1 : w.frozen? ⟨bt, 1, none⟩ = false := froz_blk hb
  have fb2 : w.frozen? ⟨bt, 2, none⟩ = false := froz_blk hb
  have fb3 : w.frozen? ⟨bt, 3, none⟩ = false := froz_blk hb
  have e3 : w.cell? ⟨e, 3, none⟩ = some (.bool true) := cell_blk he rfl
  have fe3 : w.frozen? ⟨e, 3, none⟩ = false := froz_blk he
  have fe4 : w.frozen? ⟨e, 4, none⟩ = false := froz_blk he
  have fe5 : w.frozen? ⟨e, 5, none⟩ = false := froz_blk he
  have e4 : w.cell? ⟨e, 4, none⟩ = some (.pointer none) := cell_blk he rfl
  have e5 : w.cell? ⟨e, 5, none⟩ = some (.pointer none) := cell_blk he rfl
  clear hb he
  have g0 := d0.symm
  go_enter Try.func35, Try.ntmps35
  go_wp2
  go_end0
  refine ⟨rfl, dd0 _ _ ?_⟩
  simp only [ulW, ul2, ul1, ptr]

end Go.Proofs.Qxb6001032a

import Derived.Test.Qxb6000858aLawA
namespace Go.Proofs.Qxb6000858a
open Go.RowKit
set_option linter.unusedVariables false

/-- the union so far is in normal form. -/
structure UOk (n p : Nat) (ulo uhi : Nat → Nat) : Prop where
  el : ∀ i, i < p → ulo i < uhi i ∧ uhi i ≤ n
  gap : ∀ i, i + 1 < p → uhi i < ulo (i + 1)

theorem UOk.push {n p : Nat} {ulo uhi : Nat → Nat} (h : UOk n p ulo uhi) {x y : Nat} (hxy : x < y) (hy : y ≤ n) (hl : ∀ q, p = q + 1 → uhi q < x) :
    UOk n (p + 1) (fun j => if j = p then x else ulo j) (fun j => if j = p then y else uhi j) := by
  refine ⟨fun i hi => ?_, fun i hi => ?_⟩
  · by_cases e : i = p
    · simp [e]; omega
    · simp only [if_neg e]; exact h.el i (by omega)
  · have e : i ≠ p := by omega
    simp only [if_neg e]
    by_cases e2 : i + 1 = p
    · simp only [if_pos e2]; exact hl i (by omega)
    · simp only [if_neg e2]; exact h.gap i (by omega)

theorem UOk.last {n q : Nat} {ulo uhi : Nat → Nat} (h : UOk n (q + 1) ulo uhi) {y : Nat} (hy : y ≤ n) :
    UOk n (q + 1) ulo (fun j => if j = q then max (uhi q) y else uhi j) := by
  refine ⟨fun i hi => ?_, fun i hi => ?_⟩
  · by_cases e : i = q
    · subst e; have := h.el i hi; simp; omega
    · simp only [if_neg e]; exact h.el i hi
  · have e : i ≠ q := by omega
    simp only [if_neg e]; exact h.gap i hi

/-- a slice of pairs of the call's own. -/
def Own2 (w : World) (base : Nat) (a : Option Addr) (p c : Nat) (X Y : Nat → Value) : Prop :=
  ∃ xs, w.ownsRow base 42 2 (.slice a p c) p xs ∧ ∀ j, j < p * 2 → xs[j]? = some (pr X Y j)

theorem Own2.at {w : World} {base : Nat} {a : Option Addr} {p c : Nat} {X Y : Nat → Value} (h : Own2 w base a p c X Y) {i : Nat} (hi : i < p) :
    ∃ g, a = some ⟨g, 0, none⟩ ∧ base ≤ g ∧ g < w.heap.size ∧ w.cell? ⟨g, i * 2, none⟩ = some (X i) ∧ w.cell? ⟨g, i * 2 + 1, none⟩ = some (Y i) ∧ w.frozen? ⟨g, i * 2 + 1, none⟩ = false := by
  obtain ⟨xs, ho, hx⟩ := h
  rcases ho.2 with ⟨h0, h1⟩ | ⟨g, cap, cur, h0, hb, hh, _⟩
  · omega
  · simp only [Value.slice.injEq, true_and] at h0
    obtain ⟨rfl, rfl⟩ := h0
    refine ⟨g, rfl, hb, (Array.getElem?_eq_some_iff.1 hh).1, ?_, ?_, ho.frozenAt _⟩
    · rw [ho.cellAt _ (by omega), hx _ (by omega), pr_even]
    · rw [ho.cellAt _ (by omega), hx _ (by omega), pr_odd]

theorem Own2.alloc {w : World} {base : Nat} {a : Option Addr} {p c : Nat} {X Y : Nat → Value} (h : Own2 w base a p c X Y) (o : Obj) : Own2 (w.alloc o) base a p c X Y := by
  obtain ⟨xs, ho, hx⟩ := h; exact ⟨xs, ho.alloc o, hx⟩

theorem Own2.drewN {w : World} {base : Nat} {a : Option Addr} {p c : Nat} {X Y : Nat → Value} (h : Own2 w base a p c X Y) (q : Nat) : Own2 (w.drewN q) base a p c X Y := h

theorem Own2.setHi {w : World} {base g p c : Nat} {X Y : Nat → Value} (h : Own2 w base (some ⟨g, 0, none⟩) p c X Y) {i : Nat} (v : Value) :
    Own2 (w.setCell ⟨g, i * 2 + 1, none⟩ v) base (some ⟨g, 0, none⟩) p c X (fun j => if j = i then v else Y j) := by
  obtain ⟨xs, ho, hx⟩ := h
  refine ⟨_, (ho.stored (i * 2 + 1) v).1, fun j hj => ?_⟩
  rw [List.getElem?_set]
  have hl : xs.length = p * 2 := ho.1
  rcases (show j % 2 = 0 ∨ j % 2 = 1 by omega) with e | e
  · obtain ⟨q, rfl⟩ : ∃ q, j = q * 2 := ⟨j / 2, by omega⟩
    rw [if_neg (by omega), hx _ hj, pr_even, pr_even]
  · obtain ⟨q, rfl⟩ : ∃ q, j = q * 2 + 1 := ⟨j / 2, by omega⟩
    by_cases eq : q = i
    · subst eq; rw [if_pos rfl, if_pos (by omega), pr_odd, if_pos rfl]
    · rw [if_neg (by omega), hx _ hj, pr_odd, pr_odd, if_neg eq]

theorem Own2.push {w w1 : World} {base : Nat} {p : Nat} {X Y : Nat → Value} {xs : List Value} {v' : Value} {x y : Value} (hl : xs.length = p * 2) (hx : ∀ j, j < p * 2 → xs[j]? = some (pr X Y j))
    (ho : w1.ownsRow base 42 2 v' (p + 1) (xs ++ [x, y])) : ∃ a c, v' = .slice a (p + 1) c ∧ Own2 w1 base a (p + 1) c (fun j => if j = p then x else X j) (fun j => if j = p then y else Y j) := by
  rcases ho.2 with ⟨h0, h1⟩ | ⟨g, cap, cur, h0, hb, hh, r⟩
  · omega
  · refine ⟨_, _, h0, xs ++ [x, y], by rw [← h0]; exact ho, fun j hj => ?_⟩
    by_cases e : j < p * 2
    · rw [List.getElem?_append_left (by omega), hx j e]
      rcases (show j % 2 = 0 ∨ j % 2 = 1 by omega) with e1 | e1
      · obtain ⟨q, rfl⟩ : ∃ q, j = q * 2 := ⟨j / 2, by omega⟩
        rw [pr_even, pr_even, if_neg (by omega)]
      · obtain ⟨q, rfl⟩ : ∃ q, j = q * 2 + 1 := ⟨j / 2, by omega⟩
        rw [pr_odd, pr_odd, if_neg (by omega)]
    · rw [List.getElem?_append_right (by omega), hl]
      rcases (show j = p * 2 ∨ j = p * 2 + 1 by omega) with rfl | rfl
      · rw [pr_even]; simp
      · rw [pr_odd]; simp

/-- what union hands back. -/
def UnPost (w : World) (n : Nat) (e : Ending) (w' : World) : Prop :=
  ∃ a p c ulo uhi, e = .returned (.slice a p c) ∧ UOk n p ulo uhi ∧ p ≤ 4096 ∧ Own2 w' w.heap.size a p c (fun i => .int .i64 (ulo i : Nat)) (fun i => .int .i64 (uhi i : Nat)) ∧ Below w.heap.size w w'

/-- the sorted row, read. -/
def Srt (w : World) (blk m n : Nat) (lo hi : Nat → Nat) : Prop :=
  (∀ i, i < m → w.cell? ⟨blk, i * 2, none⟩ = some (.int .i64 (lo i)) ∧ w.cell? ⟨blk, i * 2 + 1, none⟩ = some (.int .i64 (hi i))) ∧ (∀ i, i < m → lo i ≤ n ∧ hi i ≤ n)

def ClPost (w : World) (m : Nat) (lo hi : Nat → Nat) (e : Ending) (w' : World) : Prop :=
  ∃ g c, e = .returned (.slice (some ⟨g, 0, none⟩) m c) ∧ w.heap.size ≤ g ∧ g < w'.heap.size ∧ (∀ i, i < m * 2 → w'.cell? ⟨g, i, none⟩ = some (pr (fun i => .int .i64 (lo i)) (fun i => .int .i64 (hi i)) i) ∧ w'.frozen? ⟨g, i, none⟩ = false) ∧ Below w.heap.size w w'

theorem cl_fin {w w1 : World} {m : Nat} {f : Nat → Value} {v' : Value} (hown : w1.ownsRow w.heap.size 42 2 v' m ((List.range (m * 2)).map f)) (hg : (w.alloc (.cells #[] 42)).grownBy w1 (Value.slice (some ⟨w.heap.size, 0, none⟩) 0 0).ownBlock) (hn : ¬ v' = .slice none 0 0) :
    ∃ g c, v' = .slice (some ⟨g, 0, none⟩) m c ∧ w.heap.size ≤ g ∧ g < w1.heap.size ∧ (∀ i, i < m * 2 → w1.cell? ⟨g, i, none⟩ = some (f i) ∧ w1.frozen? ⟨g, i, none⟩ = false) ∧ Below w.heap.size w w1 := by
  rcases hown.2 with ⟨h0, _⟩ | ⟨g, cap, cur, rfl, hb, hh, _⟩
  · exact absurd h0 hn
  · refine ⟨g, cap, rfl, hb, (Array.getElem?_eq_some_iff.1 hh).1, fun i hi => ⟨?_, hown.frozenAt i⟩, ?_⟩
    · rw [hown.cellAt i hi]; simp [hi]
    · exact ((Below.refl _ w).alloc (Nat.le_refl _) _).grown hg (by simp) (by intro k hk; simp [Value.ownBlock] at hk; omega)

theorem pr_one (X Y : Nat → Value) (hX : ∀ i, (X i).oneCell' = true) (hY : ∀ i, (Y i).oneCell' = true) (j : Nat) : (pr X Y j).oneCell' = true := by
  unfold pr; split <;> simp_all

set_option maxHeartbeats 1000000 in
theorem cl28 (b m c : Nat) (lo hi : Nat → Nat) (w : World) (hs : w.rowIs b 42 (m * 2) (pr (fun i => .int .i64 (lo i)) (fun i => .int .i64 (hi i)))) (hm : m ≤ 4096) :
    Calls Try.prog 28 #[.slice (some ⟨b, 0, none⟩) m c] w (ClPost w m lo hi) := by
  have q40 : ∀ (w : World) (a : Option Addr) (n c n' c' : Nat), (binOp .eql 40 (.slice a n c) (.slice none n' c')).run Try.prog w = .ok (.bool a.isNone) w := fun w a n c n' c' => Lib.run_eql_slice_nil w _ _ a n c n' c' Try.underlying40
  obtain ⟨i0, hi0, hz0, hz1, hz2⟩ := info_parts Try.info42
  go_enter Try.func28, Try.ntmps28
  go_wp2_with (at_builtin; refine wpList_append_own _ rfl _ _ 40 rfl w.heap.size 42 i0 (.agg #[.int .i64 0, .int .i64 0]) 2 16 Try.underlying40 hi0 hz0 hz1 hz2 rfl (by decide) _ _ _ rfl (World.ownsRow_made w #[] 0 (Nat.le_refl _) (Nat.zero_le _) (by simp)) ⟨b, 0, none⟩ m c ((List.range (m * 2)).map (pr (fun i => .int .i64 (lo i)) (fun i => .int .i64 (hi i)))) rfl ?c0 ?c1 ?c2 ?c3 ?c4 ?c5 ?_)
  case c0 => simp
  case c1 =>
    intro j u hj
    rw [Addr.add_lit, Nat.zero_add]
    have hjl : j < m * 2 := by
      have := List.getElem?_eq_some_iff.1 hj
      obtain ⟨h, _⟩ := this
      simpa using h
    have e : u = pr (fun i => .int .i64 (lo i)) (fun i => .int .i64 (hi i)) j := by
      rw [List.getElem?_map, List.getElem?_range hjl] at hj
      simpa using hj.symm
    rw [e]
    exact Lib.cell?_alloc_some _ (hs.cell hjl)
  case c2 =>
    intro u hu
    obtain ⟨j, _, rfl⟩ := List.mem_map.1 hu
    exact pr_one _ _ (fun _ => rfl) (fun _ => rfl) j
  case c3 => unfold maxLen; omega
  case c4 => omega
  case c5 => simp
  intro v' w1 hown hgrow hnil
  have fin := cl_fin hown hgrow hnil
  clear hown hgrow hnil
  obtain ⟨g, c', hv, f1, f2, f3, f4⟩ := fin
  rw [hv]
  go_wp2
  go_ret
  exact ⟨g, c', rfl, f1, f2, f3, f4⟩

/-- what slices.SortFunc leaves: some spans within the bounds. -/
def SrtPost (w : World) (blk m n : Nat) (e : Ending) (w' : World) : Prop :=
  e = .returned (.tuple #[]) ∧ ∃ lo hi, Srt w' blk m n lo hi ∧ Below blk w w' ∧ w.heap.size ≤ w'.heap.size

def SortSaid : Prop := ∀ (n m blk cap : Nat) (lo hi : Nat → Nat) (w : World), (∀ i, i < m → lo i ≤ n ∧ hi i ≤ n) →
  (∀ i, i < m * 2 → w.cell? ⟨blk, i, none⟩ = some (pr (fun i => .int .i64 (lo i)) (fun i => .int .i64 (hi i)) i) ∧ w.frozen? ⟨blk, i, none⟩ = false) → n ≤ 4096 → m ≤ 4096 → blk < w.heap.size →
  Calls Try.prog 29 #[.slice (some ⟨blk, 0, none⟩) m cap, .func (.func 30) #[] #[]] w (SrtPost w blk m n)

/-- the loop of union. -/
structure ULoop (w wr : World) (n m k p : Nat) (a : Option Addr) (c : Nat) (ulo uhi : Nat → Nat) : Prop where
  ok : UOk n p ulo uhi
  pk : p ≤ k
  own : Own2 wr w.heap.size a p c (fun i => .int .i64 (ulo i : Nat)) (fun i => .int .i64 (uhi i : Nat))
  below : Below w.heap.size w wr

theorem new_cells (W : World) (cs : List Value) (t : TypeId) (N : Nat) (hN : W.heap.size = N) : ∀ j u, cs[j]? = some u → (W.alloc (.cells cs.toArray t)).cell? ((⟨N, 0, none⟩ : Addr).add j) = some u := by
  intro j u hj
  subst hN
  rw [Addr.add_lit, Nat.zero_add]
  simp only [World.cell?, heap_alloc_new]
  simpa using hj

theorem un_push {w2 wr W w' : World} {n m k p : Nat} {a : Option Addr} {c : Nat} {ulo uhi : Nat → Nat} (hr : ULoop w2 wr n m k p a c ulo uhi) (hW : Below w2.heap.size w2 W) {xs : List Value} {v' : Value} {x y : Nat}
    (ho : wr.ownsRow w2.heap.size 42 2 (.slice a p c) p xs) (hx : ∀ j, j < p * 2 → xs[j]? = some (pr (fun i => .int .i64 (ulo i : Nat)) (fun i => .int .i64 (uhi i : Nat)) j))
    (hown : w'.ownsRow w2.heap.size 42 2 v' (p + 1) (xs ++ [.int .i64 x, .int .i64 y])) (hg : W.grownBy w' (Value.slice a p c).ownBlock) (hxy : x < y) (hy : y ≤ n) (hl : ∀ q, p = q + 1 → uhi q < x) :
    ∃ a' c', v' = .slice a' (p + 1) c' ∧ ULoop w2 w' n m (k + 1) (p + 1) a' c' (fun j => if j = p then x else ulo j) (fun j => if j = p then y else uhi j) := by
  obtain ⟨a', c', hv, hO⟩ := Own2.push (w := wr) ho.1 hx hown
  refine ⟨a', c', hv, hr.ok.push hxy hy hl, by have := hr.pk; omega, ?_, hW.grown hg hW.size fun j hj => (ho.lt j hj).1⟩
  obtain ⟨xs', h1, h2⟩ := hO
  refine ⟨xs', h1, fun j hj => ?_⟩
  rw [h2 j hj]
  congr 2 <;> funext i <;> by_cases e : i = p <;> simp [e]

theorem ownsRow_base {w : World} {b b' : Nat} {e : TypeId} {size : Nat} {v : Value} {n : Nat} {xs : List Value} (h : w.ownsRow b e size v n xs) (hb : b' ≤ b) : w.ownsRow b' e size v n xs := by
  refine ⟨h.1, ?_⟩
  rcases h.2 with h0 | ⟨g, cap, cur, hv, h1, r⟩
  · exact .inl h0
  · exact .inr ⟨g, cap, cur, hv, by omega, r⟩

theorem ULoop.alloc {w2 wr : World} {n m k p : Nat} {a : Option Addr} {c : Nat} {ulo uhi : Nat → Nat} (hr : ULoop w2 wr n m k p a c ulo uhi) (o : Obj) : ULoop w2 (wr.alloc o) n m k p a c ulo uhi :=
  ⟨hr.ok, hr.pk, hr.own.alloc o, hr.below.alloc hr.below.size o⟩
theorem ULoop.drewN {w2 wr : World} {n m k p : Nat} {a : Option Addr} {c : Nat} {ulo uhi : Nat → Nat} (hr : ULoop w2 wr n m k p a c ulo uhi) (q : Nat) : ULoop w2 (wr.drewN q) n m k p a c ulo uhi :=
  ⟨hr.ok, hr.pk, hr.own.drewN q, below_drewN hr.below q⟩

theorem un_last {w2 wr : World} {n m k q g : Nat} {c : Nat} {ulo uhi : Nat → Nat} (hr : ULoop w2 wr n m k (q + 1) (some ⟨g, 0, none⟩) c ulo uhi) (hg : w2.heap.size ≤ g) {y : Nat} (hy : y ≤ n) (v : Int) (hv : v = ((max (uhi q) y : Nat) : Int)) :
    ULoop w2 (wr.setCell ⟨g, q * 2 + 1, none⟩ (.int .i64 v)) n m (k + 1) (q + 1) (some ⟨g, 0, none⟩) c ulo (fun j => if j = q then max (uhi q) y else uhi j) := by
  subst hv
  refine ⟨hr.ok.last hy, by have := hr.pk; omega, ?_, hr.below.setCell hg _⟩
  obtain ⟨xs', h1, h2⟩ := hr.own.setHi (i := q) (.int .i64 (max (uhi q) y : Nat))
  refine ⟨xs', h1, fun j hj => ?_⟩
  rw [h2 j hj]
  congr 2
  funext i
  by_cases e : i = q <;> simp [e]

set_option maxHeartbeats 4000000 in
theorem un25 (hS : SortSaid) (b m n : Nat) (lo hi : Nat → Nat) (w : World) (hs : w.rowIs b 42 (m * 2) (pr (fun i => .int .i64 (lo i)) (fun i => .int .i64 (hi i)))) (hb : ∀ i, i < m → lo i ≤ n ∧ hi i ≤ n) (hm : m ≤ 4096) (hn : n ≤ 4096) :
    Calls Try.prog 25 #[.slice (some ⟨b, 0, none⟩) m m] w (UnPost w n) := by
  have hB : Hid (∀ i, i < m → lo i ≤ n ∧ hi i ≤ n) := hb
  clear hb
  go_enter Try.func25, Try.ntmps25
  go_wp2_with fail
  refine (cl28 b m m lo hi w hs hm).mono ?_
  rintro e w1 ⟨g, c', rfl, g1, g2, g3, g4⟩
  have G3 : Hid _ := g3
  clear g3
  go_wp2_with fail
  refine Calls.mono (hS n m g c' lo hi w1 hB.out G3.out hn hm g2) ?_
  rintro e w2 ⟨rfl, lo', hi', hsrt, hbel, hsz⟩
  have hb2 : Below w.heap.size w w2 := g4.trans (hbel.mono g1)
  have hg2 : g < w2.heap.size := by omega
  clear hbel g4 hs G3 hB
  go_wp2
  go_loopw [4, 14] (fun v i wr => ∃ (k p : Nat) (a : Option Addr) (c : Nat) (ulo uhi : Nat → Nat), k ≤ m ∧ i = .int .i64 k ∧ v = .slice a p c ∧ ULoop w2 wr n m k p a c ulo uhi) (fun _ i _ => m - (intOf i).toNat)
  case atStart => exact ⟨0, 0, none, 0, fun _ => 0, fun _ => 0, Nat.zero_le _, rfl, rfl, ⟨⟨fun i hi => by omega, fun i hi => by omega⟩, Nat.le_refl _, ⟨[], World.ownsRow_nil _ _ _ _, fun j hj => by omega⟩, Below.refl _ _⟩⟩
  case round =>
    obtain ⟨k, p, a, c, ulo, uhi, hk, rfl, rfl, hr⟩ := hrel
    by_cases hkm : k < m
    · obtain ⟨s1, s2⟩ := hsrt.1 k hkm
      obtain ⟨l1, l2⟩ := hsrt.2 k hkm
      have t1 : wr.cell? ⟨g, k * 2, none⟩ = some (.int .i64 (lo' k)) := by rw [hr.below.cell (p := ⟨g, k * 2, none⟩) hg2, s1]
      have t2 : wr.cell? ⟨g, k * 2 + 1, none⟩ = some (.int .i64 (hi' k)) := by rw [hr.below.cell (p := ⟨g, k * 2 + 1, none⟩) hg2, s2]
      have hki : (k : Int) < (m : Int) := by omega
      have hgw : g < wr.heap.size := by have := hr.below.size; omega
      have hpk := hr.pk
      clear s1 s2 hsrt
      generalize lo' k = x at *
      generalize hi' k = y at *
      by_cases c1 : y ≤ x
      · have c1' : (y : Int) ≤ (x : Int) := by omega
        go_wp2
        go_roundw
        case rel => exact ⟨k + 1, p, a, c, ulo, uhi, by omega, by go_num, rfl, hr.ok, by omega, hr.own.alloc _, hr.below.alloc hr.below.size _⟩
        case measure => simp [intOf]; omega
      have c1' : ¬ (y : Int) ≤ (x : Int) := by omega
      by_cases c2 : p = 0
      · subst c2
        have cd : decide ((0 : Int) < 0) = false := by decide
        obtain ⟨xs, ho, hx⟩ := hr.own
        obtain ⟨i0, hi0, hz0, hz1, hz2⟩ := info_parts Try.info42
        have HX : Hid _ := hx
        clear hx
        go_wp2_with fail
        go_quiet (fail)
        go_wp2_with (at_builtin; refine wpList_append_own _ rfl _ _ 43 rfl w2.heap.size 42 i0 (.agg #[.int .i64 0, .int .i64 0]) 2 16 Try.underlying43 hi0 hz0 hz1 hz2 rfl (by decide) _ 0 xs rfl ?ho ⟨wr.heap.size + 1, 0, none⟩ 1 1 [.int .i64 x, .int .i64 y] rfl rfl ?c1 ?c2 ?c3 ?c4 ?c5 ?_)
        case ho => exact World.ownsRow.alloc (ho.alloc _) _
        case c1 => exact new_cells _ [.int .i64 x, .int .i64 y] 42 _ (by simp)
        case c2 => intro u hu; simp at hu; rcases hu with rfl | rfl <;> rfl
        case c3 => unfold maxLen; omega
        case c4 => omega
        case c5 => have := hr.below.size; simp; omega
        intro v' w3 hown' hgrow _
        have hW : Below w2.heap.size w2 (((wr.alloc (.cells #[.int .i64 x, .int .i64 y] 42)).drewN nq).alloc (.cells #[.int .i64 x, .int .i64 y] 42)) :=
          (below_drewN (hr.below.alloc hr.below.size _) _).alloc (by have := hr.below.size; simp; omega) _
        obtain ⟨a', c2', hv, R⟩ := un_push hr hW ho HX.out hown' hgrow (by omega) l2 (by omega)
        clear hown' hgrow hW HX ho hr
        rw [hv]
        go_wp2
        go_roundw
        case rel => exact ⟨k + 1, _, a', c2', _, _, by omega, by go_num, rfl, R⟩
        case measure => simp [intOf]; omega
      · obtain ⟨q, hq⟩ : ∃ q, p = q + 1 := ⟨p - 1, by omega⟩
        obtain ⟨g', rfl, hg1, hg2', u1, u2, u3⟩ := hr.own.at (show q < p by omega)
        have hwr : IntKind.i64.wrap ((p : Int) - 1) = (q : Int) := by rw [IntWalk.i64_in _ (by omega)]; omega
        have hp0 : (0 : Int) < (p : Int) := by omega
        have hp0' : 0 < p := by omega
        have hqp : (q : Int) < (p : Int) := by omega
        by_cases c3 : x ≤ uhi q
        · have c3' : (x : Int) ≤ (uhi q : Int) := by omega
          have hr' : Hid (ULoop w2 wr n m k (q + 1) (some ⟨g', 0, none⟩) c ulo uhi) := by rw [← hq]; exact hr
          have HQ : Hid (p = q + 1) := hq
          clear hq
          generalize hz : uhi q = z at *
          have HZ : Hid (uhi q = z) := hz
          clear hz
          go_wp2
          go_quiet (fail)
          go_wp2
          go_region
          go_wp2
          go_roundw
          case rel =>
            refine ⟨k + 1, p, _, c, ulo, (fun j => if j = q then max (uhi q) y else uhi j), by omega, by go_num, rfl, ?_⟩
            rw [HQ.out]
            exact un_last ((hr'.out.alloc _).drewN _) hg1 l2 _ (by rw [HZ.out]; split <;> omega)
          case measure => simp [intOf]; omega
        · have c3' : ¬ (x : Int) ≤ (uhi q : Int) := by omega
          have c3d : decide (x ≤ uhi q) = false := decide_eq_false c3
          have HQ : Hid (∀ q', p = q' + 1 → uhi q' < x) := by
            intro q' h
            have e : q' = q := by omega
            rw [e]
            omega
          obtain ⟨xs, ho, hx⟩ := hr.own
          obtain ⟨i0, hi0, hz0, hz1, hz2⟩ := info_parts Try.info42
          have HX : Hid _ := hx
          clear hx hq
          go_wp2
          go_quiet (fail)
          go_wp2_with (at_builtin; refine wpList_append_own _ rfl _ _ 43 rfl w2.heap.size 42 i0 (.agg #[.int .i64 0, .int .i64 0]) 2 16 Try.underlying43 hi0 hz0 hz1 hz2 rfl (by decide) _ p xs rfl ?ho2 ⟨wr.heap.size + 1, 0, none⟩ 1 1 [.int .i64 x, .int .i64 y] rfl rfl ?d1 ?d2 ?d3 ?d4 ?d5 ?_)
          case ho2 => exact World.ownsRow.alloc (ho.alloc _) _
          case d1 => exact new_cells _ [.int .i64 x, .int .i64 y] 42 _ (by simp)
          case d2 => intro u hu; simp at hu; rcases hu with rfl | rfl <;> rfl
          case d3 => unfold maxLen; omega
          case d4 => omega
          case d5 => have := hr.below.size; simp; omega
          intro v' w3 hown' hgrow _
          have hW : Below w2.heap.size w2 (((wr.alloc (.cells #[.int .i64 x, .int .i64 y] 42)).drewN nq).alloc (.cells #[.int .i64 x, .int .i64 y] 42)) :=
            (below_drewN (hr.below.alloc hr.below.size _) _).alloc (by have := hr.below.size; simp; omega) _
          obtain ⟨a', c2', hv, R⟩ := un_push hr hW ho HX.out hown' hgrow (by omega) l2 HQ.out
          clear hown' hgrow hW HX ho hr
          rw [hv]
          go_wp2
          go_roundw
          case rel => exact ⟨k + 1, _, a', c2', _, _, by omega, by go_num, rfl, R⟩
          case measure => simp [intOf]; omega
    · obtain rfl : k = m := by omega
      go_wp2
      go_ret
      refine ⟨a, p, c, ulo, uhi, rfl, hr.ok, by have := hr.pk; omega, ?_, hb2.trans (hr.below.mono hb2.size)⟩
      obtain ⟨xs, h1, h2⟩ := hr.own
      exact ⟨xs, ownsRow_base h1 hb2.size, h2⟩
end Go.Proofs.Qxb6000858a

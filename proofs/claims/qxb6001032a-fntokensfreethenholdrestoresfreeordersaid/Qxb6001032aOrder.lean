import Derived.Test.Qxb6001032aRun
namespace Go.Proofs.Qxb6001032a
open Go.RowKit
set_option linter.unusedVariables false

theorem Try.info9 : (Try.prog.info? 9).map (fun i => (i.zero, i.size, i.bytes)) = some (some (.string ByteArray.empty), 1, 16) := by kernel_rfl

/-- a slice of strings of the call's own. -/
def OwnS (w : World) (base : Nat) (a : Option Addr) (n c : Nat) (f : Nat → Value) : Prop :=
  ∃ xs, w.ownsRow base 9 1 (.slice a n c) n xs ∧ ∀ j, j < n → xs[j]? = some (f j)

theorem OwnS.rd {w : World} {base : Nat} {a : Option Addr} {n c : Nat} {f : Nat → Value} (h : OwnS w base a n c f) : Rd w w.heap.size a n f := by
  obtain ⟨xs, ho, hx⟩ := h
  rcases ho.2 with ⟨h0, h1⟩ | ⟨g, cap, cur, h0, hb, hh, _⟩
  · exact .inl h1
  · simp only [Value.slice.injEq, true_and] at h0
    obtain ⟨rfl, rfl⟩ := h0
    exact .inr ⟨g, 0, rfl, (Array.getElem?_eq_some_iff.1 hh).1, fun i hi => by rw [Nat.zero_add, ho.cellAt i (by omega), hx i hi]⟩

/-- a slice in memory from block lo on. -/
def RdN (w : World) (lo : Nat) (a : Option Addr) (n : Nat) (f : Nat → Value) : Prop :=
  n = 0 ∨ ∃ b, a = some ⟨b, 0, none⟩ ∧ lo ≤ b ∧ b < w.heap.size ∧ ∀ i, i < n → w.cell? ⟨b, i, none⟩ = some (f i)

theorem RdN.rd {w : World} {lo : Nat} {a : Option Addr} {n : Nat} {f : Nat → Value} (h : RdN w lo a n f) : Rd w w.heap.size a n f := by
  rcases h with h | ⟨b, e, _, hB, hc⟩
  · exact .inl h
  · exact .inr ⟨b, 0, e, hB, fun i hi => by rw [Nat.zero_add]; exact hc i hi⟩

theorem RdN.keep {w w' : World} {lo : Nat} {a : Option Addr} {n : Nat} {f : Nat → Value} (h : RdN w lo a n f) (hb : Below w.heap.size w w') : RdN w' lo a n f := by
  rcases h with h | ⟨b, e, h1, hB, hc⟩
  · exact .inl h
  · exact .inr ⟨b, e, h1, Nat.lt_of_lt_of_le hB hb.size, fun i hi => (hb.cell (p := ⟨b, i, none⟩) hB).trans (hc i hi)⟩

theorem RdN.frame {w w' : World} {lo bt : Nat} {mp : Option Nat} {M : ByteArray → Option Nat} {a : Option Addr} {n : Nat} {f : Nat → Value} (h : RdN w lo a n f) (hf : Fr bt mp M w w') (hs : w.heap.size ≤ w'.heap.size)
    (h1 : bt < lo) (h2 : ∀ b, mp = some b → b < lo) (h3 : ∀ s e, M s = some e → e < lo) : RdN w' lo a n f := by
  rcases h with h | ⟨b, e, hl, hB, hc⟩
  · exact .inl h
  · refine .inr ⟨b, e, hl, by omega, fun i hi => ?_⟩
    rw [← hc i hi]
    exact World.cell?_of_block (w := w) (hf b hB (by omega) (fun hh => by have := h2 b hh; omega) (fun s hh => by have := h3 s b hh; omega))

theorem OwnS.rdn {w : World} {base : Nat} {a : Option Addr} {n c : Nat} {f : Nat → Value} (h : OwnS w base a n c f) : RdN w base a n f := by
  obtain ⟨xs, ho, hx⟩ := h
  rcases ho.2 with ⟨h0, h1⟩ | ⟨g, cap, cur, h0, hb, hh, _⟩
  · exact .inl h1
  · simp only [Value.slice.injEq, true_and] at h0
    obtain ⟨rfl, rfl⟩ := h0
    exact .inr ⟨g, rfl, hb, (Array.getElem?_eq_some_iff.1 hh).1, fun i hi => by rw [ho.cellAt i (by omega), hx i hi]⟩

theorem new_cells (W : World) (cs : List Value) (t : TypeId) (N : Nat) (hN : W.heap.size = N) : ∀ j u, cs[j]? = some u → (W.alloc (.cells cs.toArray t)).cell? ((⟨N, 0, none⟩ : Addr).add j) = some u := by
  intro j u hj
  subst hN
  rw [Addr.add_lit, Nat.zero_add]
  simp only [World.cell?, heap_alloc_new]
  simpa using hj

theorem OwnS.push {wr W w' : World} {base n c : Nat} {a : Option Addr} {f g : Nat → Value} {xs : List Value} {v' : Value} {x : Value} (hW : Below base wr W) (ho : wr.ownsRow base 9 1 (.slice a n c) n xs) (hx : ∀ j, j < n → xs[j]? = some (f j))
    (hown : w'.ownsRow base 9 1 v' (n + 1) (xs ++ [x])) (hg : W.grownBy w' (Value.slice a n c).ownBlock) (hbs : base ≤ wr.heap.size) (hfg : ∀ j, j < n → g j = f j) (hgx : g n = x) :
    ∃ a' c', v' = .slice a' (n + 1) c' ∧ OwnS w' base a' (n + 1) c' g ∧ Below base wr w' := by
  have hl : xs.length = n := by have := ho.1; omega
  rcases hown.2 with ⟨h0, h1⟩ | ⟨b, cap, cur, h0, hb, hh, r⟩
  · omega
  · refine ⟨_, _, h0, ⟨xs ++ [x], by rw [← h0]; exact hown, fun j hj => ?_⟩, hW.grown hg (Nat.le_trans hbs hW.size) fun j hj => (ho.lt j hj).1⟩
    by_cases e : j < n
    · rw [List.getElem?_append_left (by omega), hx j e, hfg j e]
    · obtain rfl : j = n := by omega
      rw [List.getElem?_append_right (by omega), hl, hgx]
      simp

set_option maxHeartbeats 400000 in
theorem g31 (b : Nat) (u : Option Addr) (w : World) (h : w.cell? ⟨b, 1, none⟩ = some (.pointer u)) : Calls Try.prog 31 #[.pointer (some ⟨b, 0, none⟩)] w fun x w' => x = .returned (.pointer u) ∧ w = w' := by
  go_enter Try.func31, Try.ntmps31
  go_wp2
  go_ret
  exact ⟨rfl, rfl⟩

set_option maxHeartbeats 400000 in
theorem g33 (b : Nat) (u : Option Addr) (w : World) (h : w.cell? ⟨b, 2, none⟩ = some (.pointer u)) : Calls Try.prog 33 #[.pointer (some ⟨b, 0, none⟩)] w fun x w' => x = .returned (.pointer u) ∧ w = w' := by
  go_enter Try.func33, Try.ntmps33
  go_wp2
  go_ret
  exact ⟨rfl, rfl⟩

set_option maxHeartbeats 400000 in
theorem g28 (b : Nat) (u : Option Addr) (w : World) (h : w.cell? ⟨b, 5, none⟩ = some (.pointer u)) : Calls Try.prog 28 #[.pointer (some ⟨b, 0, none⟩)] w fun x w' => x = .returned (.pointer u) ∧ w = w' := by
  go_enter Try.func28, Try.ntmps28
  go_wp2
  go_ret
  exact ⟨rfl, rfl⟩

set_option maxHeartbeats 400000 in
theorem g27 (b : Nat) (u : Option Addr) (w : World) (h : w.cell? ⟨b, 4, none⟩ = some (.pointer u)) : Calls Try.prog 27 #[.pointer (some ⟨b, 0, none⟩)] w fun x w' => x = .returned (.pointer u) ∧ w = w' := by
  go_enter Try.func27, Try.ntmps27
  go_wp2
  go_ret
  exact ⟨rfl, rfl⟩

set_option maxHeartbeats 400000 in
theorem g32 (b : Nat) (s : ByteArray) (w : World) (h : w.cell? ⟨b, 0, none⟩ = some (.string s)) : Calls Try.prog 32 #[.pointer (some ⟨b, 0, none⟩)] w fun x w' => x = .returned (.string s) ∧ w = w' := by
  go_enter Try.func32, Try.ntmps32
  go_wp2
  go_ret
  exact ⟨rfl, rfl⟩

set_option maxHeartbeats 400000 in
theorem g19 (b : Nat) (f : Bool) (w : World) (h : w.cell? ⟨b, 3, none⟩ = some (.bool f)) : Calls Try.prog 19 #[.pointer (some ⟨b, 0, none⟩)] w fun x w' => x = .returned (.bool f) ∧ w = w' := by
  go_enter Try.func19, Try.ntmps19
  go_wp2
  go_ret
  exact ⟨rfl, rfl⟩

set_option maxHeartbeats 400000 in
theorem g20 (b : Nat) (k : Int) (w : World) (h : w.cell? ⟨b, 1, none⟩ = some (.int .u64 k)) : Calls Try.prog 20 #[.pointer (some ⟨b, 0, none⟩)] w fun x w' => x = .returned (.int .u64 k) ∧ w = w' := by
  go_enter Try.func20, Try.ntmps20
  go_wp2
  go_ret
  exact ⟨rfl, rfl⟩

set_option maxHeartbeats 400000 in
theorem g34 (b : Nat) (k : Int) (w : World) (h : w.cell? ⟨b, 3, none⟩ = some (.int .i64 k)) : Calls Try.prog 34 #[.pointer (some ⟨b, 0, none⟩)] w fun x w' => x = .returned (.int .i64 k) ∧ w = w' := by
  go_enter Try.func34, Try.ntmps34
  go_wp2
  go_ret
  exact ⟨rfl, rfl⟩

theorem ptr_shape (o : Option Nat) : ∃ u, ptr o = .pointer u := by cases o <;> exact ⟨_, rfl⟩

/-- names of the free ones, in order. -/
def nmF (N : Nat → ByteArray) (L : List Nat) : Nat → Value := fun i => .string (N (L.getD i 0))

/-- the first loop of zzFreeOrder. -/
structure FwRel (w wr : World) (L A B : List Nat) (a : Option Addr) (c : Nat) (N : Nat → ByteArray) : Prop where
  sp : L = A ++ B
  own : OwnS wr w.heap.size a A.length c (nmF N A)
  below : Below w.heap.size w wr

theorem FwRel.step {w wr w' : World} {L A B' : List Nat} {x : Nat} {a a' : Option Addr} {c c' : Nat} {N : Nat → ByteArray} (hr : FwRel w wr L A (x :: B') a c N) (ho : OwnS w' w.heap.size a' (A.length + 1) c' (nmF N (A ++ [x]))) (hb : Below w.heap.size wr w') :
    FwRel w w' L (A ++ [x]) B' a' c' N := by
  refine ⟨by rw [hr.sp]; simp, ?_, hr.below.trans hb⟩
  rw [List.length_append]
  exact ho

theorem nmF_push (N : Nat → ByteArray) (A : List Nat) (x : Nat) : (∀ j, j < A.length → nmF N (A ++ [x]) j = nmF N A j) ∧ nmF N (A ++ [x]) A.length = .string (N x) := by
  constructor
  · intro j hj
    unfold nmF
    rw [List.getD_eq_getElem?_getD, List.getElem?_append_left hj, ← List.getD_eq_getElem?_getD]
  · unfold nmF
    rw [List.getD_eq_getElem?_getD, List.getElem?_append_right (by omega)]
    simp

theorem snoc_cases (A : List Nat) : A = [] ∨ ∃ A' x, A = A' ++ [x] := by
  cases hr : A.reverse with
  | nil => left; simpa using hr
  | cons y r => right; exact ⟨r.reverse, y, by have := congrArg List.reverse hr; simpa using this⟩

/-- the second loop of zzFreeOrder. -/
structure BwRel (w wr : World) (L A B : List Nat) (a : Option Addr) (c : Nat) (N : Nat → ByteArray) : Prop where
  sp : L = A ++ B
  own : OwnS wr w.heap.size a B.length c (nmF N B.reverse)
  below : Below w.heap.size w wr

theorem BwRel.step {w wr w' : World} {L A' B : List Nat} {x : Nat} {a a' : Option Addr} {c c' : Nat} {N : Nat → ByteArray} (hr : BwRel w wr L (A' ++ [x]) B a c N) (ho : OwnS w' w.heap.size a' (B.length + 1) c' (nmF N (B.reverse ++ [x]))) (hb : Below w.heap.size wr w') :
    BwRel w w' L A' (x :: B) a' c' N := by
  refine ⟨by rw [hr.sp]; simp, ?_, hr.below.trans hb⟩
  simpa using ho

/-- what zzFreeOrder hands back. -/
def OrPost (w : World) (L : List Nat) (N : Nat → ByteArray) (x : Ending) (w' : World) : Prop :=
  ∃ a c, x = .returned (.tuple #[.slice a L.length c, .bool true]) ∧ RdN w' w.heap.size a L.length (nmF N L) ∧ Below w.heap.size w w'

theorem rev_get (N : Nat → ByteArray) (L : List Nat) (i : Nat) (hi : i < L.length) : nmF N L.reverse (L.length - 1 - i) = nmF N L i := by
  unfold nmF
  rw [List.getD_eq_getElem?_getD, List.getElem?_reverse (by omega), show L.length - 1 - (L.length - 1 - i) = i from by omega, ← List.getD_eq_getElem?_getD]

set_option maxHeartbeats 2000000 in
theorem order16 {w : World} {lo bt n : Nat} {mp : Option Nat} {M : ByteArray → Option Nat} {L : List Nat} (h : Tk w lo bt mp n M L) (N : Nat → ByteArray) (hN : Hid (∀ e, e ∈ L → M (N e) = some e)) (lim : Int) (hlim : (L.length : Int) < lim) (hl2 : lim ≤ 5000) :
    Calls Try.prog 16 #[.pointer (some ⟨bt, 0, none⟩), .int .i64 lim] w (OrPost w L N) := by
  have b1 : w.cell? ⟨bt, 1, none⟩ = some (ptr L.head?) := cell_blk h.t rfl
  have b2 : w.cell? ⟨bt, 2, none⟩ = some (ptr L.getLast?) := cell_blk h.t rfl
  have b3 : w.cell? ⟨bt, 3, none⟩ = some (.int .i64 (L.length : Int)) := cell_blk h.t rfl
  have hbt : bt < w.heap.size := (Array.getElem?_eq_some_iff.1 h.t).1
  have hent : Hid (∀ e, e ∈ L → w.heap[e]? = some (ent (N e) true (Pl.prv L e) (Pl.nxt L e))) := fun e he => by
    have := (h.en (N e) e (hN.out e he)).1
    rwa [decide_eq_true he] at this
  obtain ⟨u1, hu1⟩ := ptr_shape L.head?
  obtain ⟨u2, hu2⟩ := ptr_shape L.getLast?
  rw [hu1] at b1
  rw [hu2] at b2
  have HU1 : Hid (ptr L.head? = .pointer u1) := hu1
  have HU2 : Hid (ptr L.getLast? = .pointer u2) := hu2
  have hnd : Hid L.Nodup := h.nodup
  have hLl : L.length ≤ 5000 := by omega
  clear hu1 hu2 h hN
  obtain ⟨i0, hi0, hz0, hz1, hz2⟩ := info_parts Try.info9
  go_enter Try.func16, Try.ntmps16
  go_wp2_with fail
  refine (g31 bt u1 w b1).mono ?_
  rintro x w' ⟨rfl, rfl⟩
  go_wp2
  go_loopw [6, 7, 8] (fun v6 v7 v8 wr => ∃ (A B : List Nat) (a : Option Addr) (c : Nat), v6 = .slice a A.length c ∧ v7 = ptr B.head? ∧ v8 = .int .i64 (A.length : Nat) ∧ FwRel w wr L A B a c N) (fun _ _ v8 _ => L.length - (intOf v8).toNat)
  case atStart => exact ⟨[], L, none, 0, rfl, HU1.out.symm, rfl, rfl, ⟨[], World.ownsRow_nil _ _ _ _, fun j hj => by simp at hj⟩, Below.refl _ _⟩
  case round =>
    obtain ⟨A, B, a, c, rfl, rfl, rfl, hr⟩ := hrel
    cases B with
    | nil =>
      obtain ⟨w1, hw1⟩ : ∃ w1, w1 = wr := ⟨wr, rfl⟩
      subst hw1
      have hAL : L = A := by rw [hr.sp]; simp
      subst hAL
      have hown := hr.own.rdn
      have hbl := hr.below
      have hsz := hr.below.size
      clear hr
      have hb2 : w1.cell? ⟨bt, 2, none⟩ = some (.pointer u2) := by rw [hbl.cell (p := ⟨bt, 2, none⟩) hbt, b2]
      have hb3 : w1.cell? ⟨bt, 3, none⟩ = some (.int .i64 (L.length : Int)) := by rw [hbl.cell (p := ⟨bt, 3, none⟩) hbt, b3]
      have hbt2 : bt < w1.heap.size := by omega
      have hent2 : Hid (∀ e, e ∈ L → w1.heap[e]? = some (ent (N e) true (Pl.prv L e) (Pl.nxt L e))) := fun e he => by
        have := hent.out e he
        rw [hbl.block e (Array.getElem?_eq_some_iff.1 this).1, this]
      clear hent b1 b2 b3 hbt
      simp only [List.head?_nil, ptr]
      go_wp2_with fail
      refine (g33 bt u2 w1 hb2).mono ?_
      rintro x w' ⟨rfl, rfl⟩
      go_wp2
      go_loopw [9, 10, 8] (fun v9 v10 v8 w2 => ∃ (A B : List Nat) (a : Option Addr) (c : Nat), v9 = .slice a B.length c ∧ v10 = ptr A.getLast? ∧ v8 = .int .i64 (B.length : Nat) ∧ BwRel w1 w2 L A B a c N) (fun _ _ v8 _ => L.length - (intOf v8).toNat)
      case atStart => exact ⟨L, [], none, 0, rfl, HU2.out.symm, rfl, by simp, ⟨[], World.ownsRow_nil _ _ _ _, fun j hj => by simp at hj⟩, Below.refl _ _⟩
      case round =>
        obtain ⟨w2, hw2⟩ : ∃ w2, w2 = wr := ⟨wr, rfl⟩
        subst hw2
        obtain ⟨A, B, a2, c2, rfl, rfl, rfl, hr⟩ := hrel
        rcases snoc_cases A with rfl | ⟨A', x, rfl⟩
        · have hBL : L = B := by rw [hr.sp]; simp
          subst hBL
          have hown2 := hr.own.rd
          have hfw := hown.keep hr.below
          have hfw2 := hfw.rd
          have hb4 : w2.cell? ⟨bt, 3, none⟩ = some (.int .i64 (L.length : Int)) := by rw [hr.below.cell (p := ⟨bt, 3, none⟩) hbt2, hb3]
          have hall : Below w.heap.size w w2 := hbl.trans (hr.below.mono hsz)
          have hnn : ((L.length : Int) != (L.length : Int)) = false := by simp
          clear hr hown hent2 hnd
          simp only [List.getLast?_nil, ptr]
          go_wp2
          go_loopw [11] (fun i w3 => ∃ j : Nat, j ≤ L.length ∧ i = .int .i64 j ∧ Hid (∃ q, w3 = w2.drewN q)) (fun i _ => L.length - (intOf i).toNat)
          case atStart => exact ⟨0, Nat.zero_le _, rfl, 0, rfl⟩
          case round =>
            obtain ⟨j, hj, rfl, q, rfl⟩ := hrel
            by_cases hjL : j < L.length
            · obtain ⟨f1, o1, rfl, _, hc1⟩ := hfw2.at hjL
              obtain ⟨r, hr⟩ : ∃ r, r = L.length - 1 - j := ⟨_, rfl⟩
              have hrL : r < L.length := by omega
              obtain ⟨f2, o2, rfl, _, hc2⟩ := hown2.at hrL
              have e2 : nmF N L.reverse r = nmF N L j := by rw [hr]; exact rev_get N L j hjL
              rw [e2] at hc2
              simp only [nmF] at hc1 hc2
              have wp1 : IntKind.i64.wrap ((L.length : Int) - 1) = (L.length : Int) - 1 := IntWalk.i64_in _ (by omega)
              have w2' : IntKind.i64.wrap ((L.length : Int) - 1 - (j : Int)) = (r : Int) := by rw [IntWalk.i64_in _ (by omega)]; omega
              have hji : (j : Int) < (L.length : Int) := by omega
              have hri : (r : Int) < (L.length : Int) := by omega
              clear hr e2 hfw hfw2 hown2
              generalize N (L.getD j 0) = sx at *
              go_wp2
              go_quiet (fail)
              go_wp2
              go_roundw
              case rel => exact ⟨j + 1, by omega, by go_num, _, rfl⟩
              case measure => simp [intOf]; omega
            · go_wp2_with fail
              refine (g34 bt (L.length : Int) _ (by exact hb4)).mono ?_
              rintro e w' ⟨rfl, rfl⟩
              go_wp2
              go_ret2
              exact ⟨a, c, rfl, hfw, below_drewN hall _⟩
        · have hxL : x ∈ L := by rw [hr.sp]; simp
          have hx := hent2.out x hxL
          have hxB : x ∉ B := by
            intro hm
            have := hnd.out
            rw [hr.sp, List.nodup_append] at this
            exact this.2.2 x (by simp) x hm rfl
          have hnx : Pl.prv L x = A'.getLast? := by rw [hr.sp, List.append_assoc, List.singleton_append]; exact Pl.prv_split A' B x hxB
          rw [hnx] at hx
          have hxlt := (Array.getElem?_eq_some_iff.1 hx).1
          have hx' : w2.heap[x]? = some (ent (N x) true A'.getLast? (Pl.nxt L x)) := (hr.below.block x hxlt).trans hx
          obtain ⟨u, hu⟩ := ptr_shape A'.getLast?
          have x0 : w2.cell? ⟨x, 0, none⟩ = some (.string (N x)) := cell_blk hx' rfl
          have x3 : w2.cell? ⟨x, 3, none⟩ = some (.bool true) := cell_blk hx' rfl
          have x4 : w2.cell? ⟨x, 4, none⟩ = some (.pointer u) := by rw [← hu]; exact cell_blk hx' rfl
          have HU : Hid (ptr A'.getLast? = .pointer u) := hu
          have hlen : B.length + 1 ≤ L.length := by rw [hr.sp]; simp
          have hAl : (B.length : Int) < lim := by omega
          have hAl' : ¬ lim ≤ (B.length : Int) := by omega
          have hsz2 := hr.below.size
          obtain ⟨xs, ho, hxs⟩ := hr.own
          have HX : Hid _ := hxs
          clear hxs hx hx' hnx hu hxB
          have hpx : ptr (A' ++ [x]).getLast? = .pointer (some ⟨x, 0, none⟩) := by simp [ptr]
          rw [hpx]
          clear hpx
          go_wp2_with fail
          refine (g19 x true w2 x3).mono ?_
          rintro e w' ⟨rfl, rfl⟩
          go_wp2_with fail
          refine (g32 x (N x) w2 x0).mono ?_
          rintro e w' ⟨rfl, rfl⟩
          go_wp2_with (at_builtin; refine wpList_append_own _ rfl _ _ 22 rfl w1.heap.size 9 i0 (.string ByteArray.empty) 1 16 Try.underlying22 hi0 hz0 hz1 hz2 rfl (by decide) _ B.length xs rfl ?ho2 ⟨w2.heap.size, 0, none⟩ 1 1 [.string (N x)] rfl rfl ?d1 ?d2 ?d3 ?d4 ?d5 ?_)
          case ho2 => exact ho.alloc _
          case d1 => exact new_cells _ [.string (N x)] 9 _ rfl
          case d2 => intro u hu; simp at hu; subst hu; rfl
          case d3 => unfold maxLen; omega
          case d4 => omega
          case d5 => simp; omega
          intro v' w3 hown' hgrow _
          have hpp := nmF_push N B.reverse x
          rw [List.length_reverse] at hpp
          obtain ⟨a', c', hv, R1, R2⟩ := OwnS.push (g := nmF N (B.reverse ++ [x])) ((Below.refl _ w2).alloc hsz2 _) ho HX.out hown' hgrow hsz2 hpp.1 hpp.2
          have R := hr.step R1 R2
          have x4' : w3.cell? ⟨x, 4, none⟩ = some (.pointer u) := by rw [R2.cell (p := ⟨x, 4, none⟩) hxlt, x4]
          clear hown' hgrow R1 R2 HX ho hr hpp
          rw [hv]
          go_wp2_with fail
          refine (g27 x u w3 x4').mono ?_
          rintro e w' ⟨rfl, rfl⟩
          go_wp2
          go_roundw
          case rel => exact ⟨A', x :: B, a', c', rfl, HU.out.symm, by go_num, R⟩
          case measure => simp [intOf]; omega
    | cons x B' =>
      have hxL : x ∈ L := by rw [hr.sp]; simp
      have hx := hent.out x hxL
      have hxA : x ∉ A := by
        intro hm
        have := hnd.out
        rw [hr.sp, List.nodup_append] at this
        exact this.2.2 x hm x (by simp) rfl
      have hnx : Pl.nxt L x = B'.head? := by rw [hr.sp]; exact Pl.nxt_split A B' x hxA
      rw [hnx] at hx
      have hxlt : x < w.heap.size := (Array.getElem?_eq_some_iff.1 hx).1
      have hx' : wr.heap[x]? = some (ent (N x) true (Pl.prv L x) B'.head?) := (hr.below.block x hxlt).trans hx
      obtain ⟨u, hu⟩ := ptr_shape B'.head?
      have x0 : wr.cell? ⟨x, 0, none⟩ = some (.string (N x)) := cell_blk hx' rfl
      have x3 : wr.cell? ⟨x, 3, none⟩ = some (.bool true) := cell_blk hx' rfl
      have x5 : wr.cell? ⟨x, 5, none⟩ = some (.pointer u) := by rw [← hu]; exact cell_blk hx' rfl
      have HU : Hid (ptr B'.head? = .pointer u) := hu
      have hlen : A.length + 1 ≤ L.length := by rw [hr.sp]; simp
      have hAl : (A.length : Int) < lim := by omega
      have hAl' : ¬ lim ≤ (A.length : Int) := by omega
      have hsz := hr.below.size
      obtain ⟨xs, ho, hxs⟩ := hr.own
      have HX : Hid _ := hxs
      clear hxs hx hx' hnx hu hxA
      simp only [List.head?_cons, ptr]
      go_wp2_with fail
      refine (g19 x true wr x3).mono ?_
      rintro e w' ⟨rfl, rfl⟩
      go_wp2_with fail
      refine (g32 x (N x) wr x0).mono ?_
      rintro e w' ⟨rfl, rfl⟩
      go_wp2_with (at_builtin; refine wpList_append_own _ rfl _ _ 22 rfl w.heap.size 9 i0 (.string ByteArray.empty) 1 16 Try.underlying22 hi0 hz0 hz1 hz2 rfl (by decide) _ A.length xs rfl ?ho ⟨wr.heap.size, 0, none⟩ 1 1 [.string (N x)] rfl rfl ?c1 ?c2 ?c3 ?c4 ?c5 ?_)
      case ho => exact ho.alloc _
      case c1 => exact new_cells _ [.string (N x)] 9 _ rfl
      case c2 => intro u hu; simp at hu; subst hu; rfl
      case c3 => unfold maxLen; omega
      case c4 => omega
      case c5 => simp; omega
      intro v' w3 hown' hgrow _
      obtain ⟨a', c', hv, R1, R2⟩ := OwnS.push (g := nmF N (A ++ [x])) ((Below.refl _ wr).alloc hsz _) ho HX.out hown' hgrow hsz (nmF_push N A x).1 (nmF_push N A x).2
      have R := hr.step R1 R2
      have x5' : w3.cell? ⟨x, 5, none⟩ = some (.pointer u) := by rw [R2.cell (p := ⟨x, 5, none⟩) hxlt, x5]
      clear hown' hgrow R1 R2 HX ho hr
      rw [hv]
      go_wp2_with fail
      refine (g28 x u w3 x5').mono ?_
      rintro e w' ⟨rfl, rfl⟩
      go_wp2
      go_roundw
      case rel => exact ⟨A ++ [x], B', a', c', by rw [List.length_append]; rfl, HU.out.symm, by rw [List.length_append]; go_num, R⟩
      case measure => simp [intOf]; omega
end Go.Proofs.Qxb6001032a

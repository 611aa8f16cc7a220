import Derived.Test.Qxb6001546aColDef
namespace Go.Proofs.Qxb6001546a
open Go.RowKit
set_option linter.unusedVariables false

theorem new_cells (W : World) (cs : List Value) (t : TypeId) (N : Nat) (hN : W.heap.size = N) : ∀ j u, cs[j]? = some u → (W.alloc (.cells cs.toArray t)).cell? ((⟨N, 0, none⟩ : Addr).add j) = some u := by
  intro j u hj
  subst hN
  rw [Addr.add_lit, Nat.zero_add]
  simp only [World.cell?, heap_alloc_new]
  simpa using hj

theorem run_make_cap {P : Program} (t e : TypeId) (z : Value) (size bytes : Nat) (ht : P.underlying t = some (.slice e)) (hinfo : (P.info? e).map (fun i => (i.zero, i.size, i.bytes)) = some (some z, size, bytes))
    (kl kc : IntKind) (n : Nat) (hbytes : bytes * n ≤ 281474976710656) (h63 : n ≤ 9223372036854775807) (w : World) :
    (Instr.makeSlice t (.int kl 0) (.int kc (n : Int))).run P w = .ok (.slice (some ⟨w.heap.size, 0, none⟩) 0 n) (w.alloc (.cells (madeCells z.cells (n * size)) e)) := by
  obtain ⟨i, hi, hz, hs, hb⟩ := info_parts hinfo
  have hb' : (i.bytes : Int) * (n : Int) ≤ 281474976710656 := by
    have h : ((i.bytes * n : Nat) : Int) ≤ 281474976710656 := by rw [hb]; omega
    rwa [Int.natCast_mul] at h
  have hr := run_make (P := P) w t e i z ht hi hz kl kc 0 n (by omega) (by omega) hb' (by omega)
  simp only [Int.toNat_natCast, hs, Int.toNat_zero] at hr
  exact hr

/-- the references of the first k. -/
def refs (S : Nat → Spec) (k : Nat) : List (Option ByteArray) := (List.range k).map fun i => (S i).ref
theorem refs_succ (S : Nat → Spec) (k : Nat) : refs S (k + 1) = refs S k ++ [(S k).ref] := by simp [refs, List.range_succ]

/-- what buildColumns hands back. -/
def BsPost (w : World) (n : Nat) (S : Nat → Spec) (e : Ending) (w' : World) : Prop :=
  ∃ g cap L, e = .returned (.slice (some ⟨g, 0, none⟩) n cap) ∧ L.length = n ∧ Cols w' w.heap.size g cap L (refs S n) ∧ Below w.heap.size w w'

/-- the loop. -/
structure BsRel (w wr : World) (S : Nat → Spec) (g cap : Nat) (L : List Col) : Prop where
  cols : Cols wr w.heap.size g cap L (refs S L.length)
  below : Below w.heap.size w wr

theorem BsRel.step {w wr w1 w3 : World} {S : Nat → Spec} {g cap : Nat} {L : List Col} (hr : BsRel w wr S g cap L) (hb : Below wr.heap.size wr w1) {c : Col} (href : RefOk w1 c.p8 (S L.length).ref) {o : Obj} {v' : Value}
    (ho : w3.ownsRow w.heap.size 50 9 v' (L.length + 1) (rowL L ++ c.list)) (hg : (w1.alloc o).grownBy w3 (Value.slice (some ⟨g, 0, none⟩) L.length cap).ownBlock) (hv : ¬ v' = .slice none 0 0) :
    ∃ g' cap', v' = .slice (some ⟨g', 0, none⟩) (L ++ [c]).length cap' ∧ BsRel w w3 S g' cap' (L ++ [c]) := by
  have b1 : Below w1.heap.size w1 (w1.alloc o) := (Below.refl _ w1).alloc (Nat.le_refl _) o
  have C1 := (hr.cols.keep hb).keep b1
  have e1 : rowL [c] = c.list := by simp [rowL]
  rw [← e1] at ho
  obtain ⟨g', cap', hv', C2⟩ := C1.grow (M := [c]) (U := [(S L.length).ref]) rfl (fun k c' t hk ht => by
    cases k with
    | zero =>
      simp at hk ht
      subst hk ht
      exact href.keep b1
    | succ k => simp at hk) rfl ho hg ⟨fun h => absurd h hv, fun h => by simp at h⟩
  refine ⟨g', cap', by rw [hv', List.length_append, List.length_singleton], ⟨?_, ?_⟩⟩
  · rw [List.length_append, List.length_singleton, refs_succ]
    exact C2
  · have bb : Below w.heap.size w (w1.alloc o) := (hr.below.trans (hb.mono hr.below.size)).alloc (Nat.le_trans hr.below.size hb.size) o
    exact bb.grown hg bb.size fun j hj => (C1.own.lt j hj).1

set_option maxHeartbeats 2000000 in
set_option maxRecDepth 100000 in
theorem bs8 (H17 : ∀ (c : Spec) (w : World), Calls Try.prog 17 #[c.val] w (BcPost w c.ref)) (a : Option Addr) (n c : Nat) (S : Nat → Spec) (w : World) (B : Nat) (hB : B ≤ w.heap.size) (h : Sp w B a n S) (hl : n ≤ 65536) :
    Calls Try.prog 8 #[.slice a n c] w (BsPost w n S) := by
  have hmk := run_make_cap (P := Try.prog) 26 50 (.agg #[.string ByteArray.empty, .string ByteArray.empty, .bool false, .bool false, .bool false, .pointer none, .pointer none, .pointer none, .pointer none]) 9 72 Try.underlying26 Try.info50 .i64 .i64 n (by omega) (by omega)
  have HS : Hid (BsRel w (w.alloc (.cells (madeCells (Value.agg #[.string ByteArray.empty, .string ByteArray.empty, .bool false, .bool false, .bool false, .pointer none, .pointer none, .pointer none, .pointer none]).cells (n * 9)) 50)) S w.heap.size n []) :=
    ⟨Cols.start w _ n (by unfold maxLen; omega) (size_madeCells _ _), (Below.refl _ _).alloc (Nat.le_refl _) _⟩
  generalize madeCells (Value.agg #[.string ByteArray.empty, .string ByteArray.empty, .bool false, .bool false, .bool false, .pointer none, .pointer none, .pointer none, .pointer none]).cells (n * 9) = mc at *
  obtain ⟨i0, hi0, hz0, hz1, hz2⟩ := info_parts Try.info50
  go_enter Try.func8, Try.ntmps8
  go_wp2
  go_loopw [3, 4] (fun v i wr => ∃ (g cap : Nat) (L : List Col), v = .slice (some ⟨g, 0, none⟩) L.length cap ∧ i = .int .i64 L.length ∧ L.length ≤ n ∧ BsRel w wr S g cap L) (fun _ i _ => n - (intOf i).toNat)
  case atStart => exact ⟨_, _, [], rfl, rfl, Nat.zero_le _, HS.out⟩
  case round =>
    obtain ⟨g, cap, L, rfl, rfl, hk, hr⟩ := hrel
    by_cases hkn : L.length < n
    · obtain ⟨b, o, rfl, hbB, A0⟩ := h.at hkn
      have A := A0.keep hr.below (by omega)
      have hki : (L.length : Int) < (n : Int) := by omega
      obtain ⟨h0, h1, h2, h3, h4, h5, h6, h7, h8, h9, h10, h11, h12, h13, h14, h15, h16⟩ := A
      clear A0
      go_wp2_with fail
      refine (H17 (S L.length) wr).mono ?_
      rintro e w1 ⟨⟨x0, x1, y2, y3, y4, p5, p6, p7, p8⟩, rfl, href, hb1⟩
      have hsz : w.heap.size ≤ w1.heap.size := Nat.le_trans hr.below.size hb1.size
      have HO := (hr.cols.keep hb1).own
      simp only [Col.val]
      clear h0 h1 h2 h3 h4 h5 h6 h7 h8 h9 h10 h11 h12 h13 h14 h15 h16 HS h
      go_wp2_with (at_builtin; refine wpList_append_own _ rfl _ _ 26 rfl w.heap.size 50 i0 _ 9 72 Try.underlying26 hi0 hz0 hz1 hz2 rfl (by decide) _ L.length (rowL L) rfl ?ho ⟨w1.heap.size, 0, none⟩ 1 1 (Col.list ⟨x0, x1, y2, y3, y4, p5, p6, p7, p8⟩) rfl rfl ?c1 ?c2 ?c3 ?c4 ?c5 ?_)
      case ho => exact HO.alloc _
      case c1 => exact fun j u h => h
      case c2 => intro u hu; simp [Col.list] at hu; rcases hu with rfl | rfl | rfl | rfl | rfl | rfl | rfl | rfl | rfl <;> rfl
      case c3 => unfold maxLen; omega
      case c4 => omega
      case c5 => omega
      intro v' w3 hown' hgrow hnn
      obtain ⟨g', cap', hv, R⟩ := hr.step hb1 href hown' hgrow hnn
      clear hown' hgrow hnn HO hb1 href hr
      rw [hv]
      go_wp2
      go_roundw
      case rel => exact ⟨g', cap', _, rfl, by rw [List.length_append]; go_num, by rw [List.length_append]; exact hkn, R⟩
      case measure => simp [intOf]; omega
    · have e : L.length = n := by omega
      have HC := hr.cols
      have HBl := hr.below
      have HE : Hid (L.length = n) := e
      clear e hr HS h
      go_wp2
      go_ret
      refine ⟨g, cap, L, by rw [HE.out]; rfl, HE.out, ?_, HBl⟩
      rw [← HE.out]
      exact HC
end Go.Proofs.Qxb6001546a

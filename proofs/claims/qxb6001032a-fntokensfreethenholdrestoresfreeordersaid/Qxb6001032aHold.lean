import Derived.Test.Qxb6001032aFree
namespace Go.Proofs.Qxb6001032a
open Go.RowKit
set_option linter.unusedVariables false

theorem eqlm_nil (w : World) (o : Option Nat) : (binOp .eql 28 (.map o) (.map none)).run Try.prog w = .ok (.bool o.isNone) w := by
  cases o <;> kernel_rfl

set_option maxHeartbeats 400000 in
/-- the name is known and held. -/
theorem hold_held (bt e : Nat) (s : ByteArray) (mp : Option Nat) (w : World) (h0 : w.cell? ⟨bt, 0, none⟩ = some (.map mp))
    (hl : (Instr.lookup 28 (.map mp) (.string s) true).run Try.prog w = .ok (.tuple #[.pointer (some ⟨e, 0, none⟩), .bool true]) w) (he : w.cell? ⟨e, 3, none⟩ = some (.bool false)) :
    Calls Try.prog 29 #[.pointer (some ⟨bt, 0, none⟩), .string s] w fun x w' => x = .returned (.pointer (some ⟨e, 0, none⟩)) ∧ w = w' := by
  go_enter Try.func29, Try.ntmps29
  go_wp2
  go_ret
  exact ⟨rfl, rfl⟩

set_option maxHeartbeats 400000 in
/-- the name is known and free: unlink. -/
theorem hold_free (bt e : Nat) (s : ByteArray) (mp : Option Nat) (w : World) (h0 : w.cell? ⟨bt, 0, none⟩ = some (.map mp))
    (hl : (Instr.lookup 28 (.map mp) (.string s) true).run Try.prog w = .ok (.tuple #[.pointer (some ⟨e, 0, none⟩), .bool true]) w) (he : w.cell? ⟨e, 3, none⟩ = some (.bool true))
    (Q : World → Prop) (hu : Hid (Calls Try.prog 35 #[.pointer (some ⟨bt, 0, none⟩), .pointer (some ⟨e, 0, none⟩)] w fun x w' => x = .returned (.tuple #[]) ∧ Q w')) :
    Calls Try.prog 29 #[.pointer (some ⟨bt, 0, none⟩), .string s] w fun x w' => x = .returned (.pointer (some ⟨e, 0, none⟩)) ∧ Q w' := by
  go_enter Try.func29, Try.ntmps29
  go_wp2_with fail
  refine Calls.mono hu.out ?_
  rintro x w1 ⟨rfl, hQ⟩
  go_wp2
  go_ret
  exact ⟨rfl, hQ⟩

set_option maxHeartbeats 400000 in
/-- the name is new, the map there. -/
theorem hold_new (bt b : Nat) (s : ByteArray) (hd la : Option Nat) (k : Nat) (w : World) (hb : w.heap[bt]? = some (tok (some b) hd la k))
    (hl : (Instr.lookup 28 (.map (some b)) (.string s) true).run Try.prog w = .ok (.tuple #[.pointer none, .bool false]) w)
    (w1 : World) (hu : (Instr.mapUpdate 28 (.map (some b)) (.string s) (.pointer (some ⟨w.heap.size, 0, none⟩))).run Try.prog (w.alloc (ent s false none none)) = .ok () w1) :
    Calls Try.prog 29 #[.pointer (some ⟨bt, 0, none⟩), .string s] w fun x w' => x = .returned (.pointer (some ⟨w.heap.size, 0, none⟩)) ∧ w1 = w' := by
  have b0 : w.cell? ⟨bt, 0, none⟩ = some (.map (some b)) := cell_blk hb rfl
  have b4 : w.cell? ⟨bt, 4, none⟩ = some (.int .u64 0) := cell_blk hb rfl
  have hlt : bt < w.heap.size := (Array.getElem?_eq_some_iff.1 hb).1
  have q28 := eqlm_nil
  simp only [ent, ptr] at hu
  clear hb
  go_enter Try.func29, Try.ntmps29
  go_wp2
  go_ret
  exact ⟨rfl, rfl⟩

set_option maxHeartbeats 400000 in
/-- the name is new, and there is no map yet. -/
theorem hold_make (bt : Nat) (s : ByteArray) (hd la : Option Nat) (k : Nat) (w : World) (hb : w.heap[bt]? = some (tok none hd la k))
    (hl : (Instr.lookup 28 (.map none) (.string s) true).run Try.prog w = .ok (.tuple #[.pointer none, .bool false]) w)
    (w1 : World) (hu : (Instr.mapUpdate 28 (.map (some w.heap.size)) (.string s) (.pointer (some ⟨w.heap.size + 1, 0, none⟩))).run Try.prog (((w.setCell ⟨bt, 0, none⟩ (.map (some w.heap.size))).alloc (.map #[] 0)).alloc (ent s false none none)) = .ok () w1) :
    Calls Try.prog 29 #[.pointer (some ⟨bt, 0, none⟩), .string s] w fun x w' => x = .returned (.pointer (some ⟨w.heap.size + 1, 0, none⟩)) ∧ w1 = w' := by
  have b0 : w.cell? ⟨bt, 0, none⟩ = some (.map none) := cell_blk hb rfl
  have b4 : w.cell? ⟨bt, 4, none⟩ = some (.int .u64 0) := cell_blk hb rfl
  have fb : w.frozen? ⟨bt, 0, none⟩ = false := froz_blk hb
  have hlt : bt < w.heap.size := (Array.getElem?_eq_some_iff.1 hb).1
  have q28 := eqlm_nil
  have hmm := @run_makeMap Try.prog
  simp only [ent, ptr] at hu
  clear hb
  go_enter Try.func29, Try.ntmps29
  go_wp2
  go_ret
  exact ⟨rfl, rfl⟩

def upd (M : ByteArray → Option Nat) (s : ByteArray) (e : Nat) : ByteArray → Option Nat := fun x => if x = s then some e else M x

theorem upd_same {M : ByteArray → Option Nat} {s : ByteArray} {e : Nat} (h : M s = some e) : upd M s e = M := by
  funext x
  unfold upd
  by_cases hx : x = s
  · subst hx; rw [if_pos rfl, h]
  · rw [if_neg hx]

theorem turned_block {w w' : World} {b : Nat} (h : w.mapTurned w' b) {x : Nat} (hx : x < w.heap.size) (hne : x ≠ b) : w'.heap[x]? = w.heap[x]? := h.grown.block x hx (by simp [hne])

theorem tk_new {w w1 : World} {lo bt n b : Nat} {M : ByteArray → Option Nat} {L : List Nat} (h : Tk w lo bt (some b) n M L) {s : ByteArray} (hs : M s = none) (hlo : lo ≤ w.heap.size)
    (hm : TMap w1 b (n + 1) (upd M s w.heap.size)) (ht : (w.alloc (ent s false none none)).mapTurned w1 b) : Tk w1 lo bt (some b) (n + 1) (upd M s w.heap.size) L ∧ Below lo w w1 := by
  have hbl := (h.map1 b rfl).2
  have hblt := (h.map1 b rfl).1.lt
  have old : ∀ x, x < w.heap.size → x ≠ b → w1.heap[x]? = w.heap[x]? := fun x hx hne => by
    rw [turned_block ht (by simp; omega) hne, Below.heap_alloc w _ x hx]
  have hlt : ∀ {x : Nat} {o : Obj}, w.heap[x]? = some o → x < w.heap.size := fun hx => (Array.getElem?_eq_some_iff.1 hx).1
  have hnL : w.heap.size ∉ L := by
    intro hm
    obtain ⟨s', hs'⟩ := h.sub _ hm
    have := hlt (h.en s' _ hs').1
    omega
  refine ⟨⟨?_, h.tlo, (fun hh => by cases hh), ?_, ?_, ?_, h.nodup, ?_⟩, ?_⟩
  · rw [old bt (hlt h.t) (h.t_ne_m rfl)]; exact h.t
  · intro b' hb'
    obtain rfl := Option.some.inj hb'
    exact ⟨hm, hbl⟩
  · intro s' x hx
    unfold upd at hx
    by_cases e1 : s' = s
    · subst e1
      rw [if_pos rfl] at hx
      obtain rfl := Option.some.inj hx
      refine ⟨?_, hlo⟩
      rw [turned_block ht (by simp) (by omega), heap_alloc_new, decide_eq_false hnL, Pl.prv_not_mem _ _ hnL, Pl.nxt_not_mem _ _ hnL]
    · rw [if_neg e1] at hx
      obtain ⟨h1, h2⟩ := h.en s' x hx
      refine ⟨?_, h2⟩
      rw [old x (hlt h1) (h.ne_m rfl hx)]; exact h1
  · intro s1 s2 x h1 h2
    unfold upd at h1 h2
    have key : ∀ s', (if s' = s then some w.heap.size else M s') = some x → (s' = s ∧ x = w.heap.size) ∨ (M s' = some x ∧ x < w.heap.size) := by
      intro s' hh
      by_cases e1 : s' = s
      · rw [if_pos e1] at hh; exact .inl ⟨e1, (Option.some.inj hh).symm⟩
      · rw [if_neg e1] at hh; exact .inr ⟨hh, hlt (h.en s' x hh).1⟩
    rcases key s1 h1 with ⟨a1, a2⟩ | ⟨a1, a2⟩
    · rcases key s2 h2 with ⟨c1, c2⟩ | ⟨c1, c2⟩
      · rw [a1, c1]
      · omega
    · rcases key s2 h2 with ⟨c1, c2⟩ | ⟨c1, c2⟩
      · omega
      · exact h.inj s1 s2 x a1 c1
  · intro x hx
    obtain ⟨s', hs'⟩ := h.sub x hx
    refine ⟨s', ?_⟩
    unfold upd
    rw [if_neg (fun hh => by rw [hh, hs] at hs'; cases hs')]
    exact hs'
  · refine ((Below.refl lo w).alloc hlo _).grown ht.grown (by simp; omega) ?_
    intro k hk
    simp at hk
    omega

theorem tk_make {w : World} {lo bt n : Nat} {M : ByteArray → Option Nat} {L : List Nat} (h : Tk w lo bt none n M L) (hlo : lo ≤ w.heap.size) :
    Tk ((w.setCell ⟨bt, 0, none⟩ (.map (some w.heap.size))).alloc (.map #[] 0)) lo bt (some w.heap.size) 0 M L ∧ Below lo w ((w.setCell ⟨bt, 0, none⟩ (.map (some w.heap.size))).alloc (.map #[] 0)) := by
  have hM := h.map0 rfl
  have hL : L = [] := by
    cases L with
    | nil => rfl
    | cons a r => obtain ⟨s, hs⟩ := h.sub a (by simp); rw [hM] at hs; cases hs
  subst hL
  have hbt : bt < w.heap.size := (Array.getElem?_eq_some_iff.1 h.t).1
  have hz : (w.setCell ⟨bt, 0, none⟩ (.map (some w.heap.size))).heap.size = w.heap.size := by simp
  refine ⟨⟨?_, h.tlo, (fun hh => by cases hh), ?_, ?_, h.inj, h.nodup, h.sub⟩, ?_⟩
  · rw [Below.heap_alloc _ _ _ (by rw [hz]; exact hbt), blk_same _ _ _ _ _ _ h.t]
    rfl
  · intro b hb
    obtain rfl := Option.some.inj hb
    refine ⟨?_, hlo⟩
    have := TMap.made (w.setCell ⟨bt, 0, none⟩ (.map (some w.heap.size)))
    rw [hz] at this
    have e : M = fun _ => none := funext hM
    rw [e]
    exact this
  · intro s e he
    rw [hM] at he; cases he
  · exact ((Below.refl lo w).setCell h.tlo _).alloc (by rw [hz]; exact hlo) _

/-- the free list behind hold(s). -/
def holdL (L : List Nat) (o : Option Nat) : List Nat := match o with
  | none => L
  | some e => L.erase e

/-- what hold hands back. -/
def HoldPost (w : World) (lo bt : Nat) (mp : Option Nat) (n : Nat) (M : ByteArray → Option Nat) (L : List Nat) (s : ByteArray) (x : Ending) (w' : World) : Prop :=
  ∃ e mp' n', x = .returned (.pointer (some ⟨e, 0, none⟩)) ∧ (∀ e0, M s = some e0 → e = e0) ∧ n' ≤ n + 1 ∧ Tk w' lo bt mp' n' (upd M s e) (holdL L (M s)) ∧ Below lo w w' ∧ Fr bt mp M w w'

theorem hold29 {w : World} {lo bt n : Nat} {mp : Option Nat} {M : ByteArray → Option Nat} {L : List Nat} (h : Tk w lo bt mp n M L) (s : ByteArray) (hs : s.size ≤ maxLen) (hk : L.length ≤ 1048576) (hn : n < 1048576) (hlo : lo ≤ w.heap.size) :
    Calls Try.prog 29 #[.pointer (some ⟨bt, 0, none⟩), .string s] w (HoldPost w lo bt mp n M L s) := by
  have hl := h.look s hs
  have h0 : w.cell? ⟨bt, 0, none⟩ = some (.map mp) := cell_blk h.t rfl
  cases hM : M s with
  | none =>
    rw [hM] at hl
    have hmx : ∀ k, k < 1048577 → k < maxLen := fun k hk => by unfold maxLen; omega
    cases mp with
    | some b =>
      have hT := (h.map1 b rfl).1
      have hT' : TMap (w.alloc (ent s false none none)) b n M := hT.of_block (Below.heap_alloc _ _ _ hT.lt)
      obtain ⟨w1, hr, hm, ht⟩ := hT'.store s hs (hmx n (by omega)) w.heap.size
      obtain ⟨k1, k2⟩ := tk_new h hM hlo hm ht
      have hfr : Fr bt (some b) M w w1 := fun x hx _ x2 _ => by
        rw [turned_block ht (by simp; omega) (fun hh => x2 (by rw [hh])), Below.heap_alloc w _ x hx]
      refine (hold_new bt b s _ _ _ w h.t hl w1 hr).mono ?_
      rintro x w' ⟨rfl, rfl⟩
      exact ⟨w.heap.size, some b, n + 1, rfl, (fun e0 he => by rw [hM] at he; cases he), Nat.le_refl _, by rw [hM]; exact k1, k2, hfr⟩
    | none =>
      obtain ⟨t1, t2⟩ := tk_make h hlo
      have hz : ((w.setCell ⟨bt, 0, none⟩ (.map (some w.heap.size))).alloc (.map #[] 0)).heap.size = w.heap.size + 1 := by simp
      have ht0 := h.t
      generalize hW : (w.setCell ⟨bt, 0, none⟩ (.map (some w.heap.size))).alloc (.map #[] 0) = W at *
      have hT := (t1.map1 _ rfl).1
      have hT' : TMap (W.alloc (ent s false none none)) w.heap.size 0 M := hT.of_block (Below.heap_alloc _ _ _ hT.lt)
      obtain ⟨w1, hr, hm, ht⟩ := hT'.store s hs (hmx 0 (by omega)) W.heap.size
      obtain ⟨k1, k2⟩ := tk_new t1 hM (by omega) hm ht
      have hfr : Fr bt none M w w1 := fun x hx x1 _ _ => by
        rw [turned_block ht (by simp; omega) (by omega), Below.heap_alloc W _ x (by omega), ← hW, Below.heap_alloc _ _ x (by simpa using hx), blk_other _ _ _ _ _ x1]
      rw [hz] at hr k1
      refine (hold_make bt s _ _ _ w ht0 hl w1 (by rw [hW]; exact hr)).mono ?_
      rintro x w' ⟨rfl, rfl⟩
      exact ⟨w.heap.size + 1, some w.heap.size, 0 + 1, rfl, (fun e0 he => by rw [hM] at he; cases he), by omega, by rw [hM]; exact k1, t2.trans k2, hfr⟩
  | some e =>
    rw [hM] at hl
    have he := (h.en s e hM).1
    by_cases hL : e ∈ L
    · rw [decide_eq_true hL] at he
      obtain ⟨A, B, rfl, eA, eB⟩ := Pl.split_mem L e h.nodup hL
      have hu := unlink35 h (by simp at hk ⊢; omega)
      refine (hold_free bt e s mp w h0 hl (cell_blk he rfl) _ hu).mono ?_
      rintro x w' ⟨rfl, k1, k2⟩
      refine ⟨e, mp, n, rfl, (fun e0 he => by rw [hM] at he; exact Option.some.inj he), by omega, ?_, k2⟩
      rw [upd_same hM, hM]
      simp only [holdL]
      rw [List.erase_append_right _ eA, List.erase_cons_head]
      exact k1
    · rw [decide_eq_false hL] at he
      refine (hold_held bt e s mp w h0 hl (cell_blk he rfl)).mono ?_
      rintro x w' ⟨rfl, rfl⟩
      refine ⟨e, mp, n, rfl, (fun e0 he => by rw [hM] at he; exact Option.some.inj he), by omega, ?_, Below.refl _ _, Fr.refl _ _ _ _⟩
      rw [upd_same hM, hM]
      simp only [holdL]
      rw [List.erase_of_not_mem hL]
      exact h
end Go.Proofs.Qxb6001032a

import Derived.Test.Qxb6001032aUl
namespace Go.Proofs.Qxb6001032a
open Go.RowKit
set_option linter.unusedVariables false

theorem Tk.look {w : World} {lo bt n : Nat} {mp : Option Nat} {M : ByteArray → Option Nat} {L : List Nat} (h : Tk w lo bt mp n M L) (s : ByteArray) (hs : s.size ≤ maxLen) :
    (Instr.lookup 28 (.map mp) (.string s) true).run Try.prog w = .ok (.tuple #[ptr (M s), .bool (M s).isSome]) w := by
  cases mp with
  | none => rw [h.map0 rfl s]; exact look_nil w s hs
  | some b => exact (h.map1 b rfl).1.look s hs

theorem Tk.look1 {w : World} {lo bt n : Nat} {mp : Option Nat} {M : ByteArray → Option Nat} {L : List Nat} (h : Tk w lo bt mp n M L) (s : ByteArray) (hs : s.size ≤ maxLen) :
    (Instr.lookup 28 (.map mp) (.string s) false).run Try.prog w = .ok (ptr (M s)) w := by
  cases mp with
  | none => rw [h.map0 rfl s]; exact look_nil1 w s hs
  | some b => exact (h.map1 b rfl).1.look1 s hs

def fr1 (w : World) (bt e : Nat) (la : Option Nat) : World := match la with
  | none => w.setCell ⟨bt, 1, none⟩ (.pointer (some ⟨e, 0, none⟩))
  | some q => w.setCell ⟨q, 5, none⟩ (.pointer (some ⟨e, 0, none⟩))
def frW (w : World) (bt e k : Nat) (la : Option Nat) : World :=
  ((fr1 (((w.setCell ⟨e, 3, none⟩ (.bool true)).setCell ⟨e, 4, none⟩ (ptr la)).setCell ⟨e, 5, none⟩ (.pointer none)) bt e la).setCell ⟨bt, 2, none⟩ (.pointer (some ⟨e, 0, none⟩))).setCell ⟨bt, 3, none⟩ (.int .i64 ((k : Int) + 1))

set_option maxHeartbeats 400000 in
theorem free_no (bt : Nat) (s : ByteArray) (mp : Option Nat) (w : World) (h0 : w.cell? ⟨bt, 0, none⟩ = some (.map mp))
    (hl : (Instr.lookup 28 (.map mp) (.string s) true).run Try.prog w = .ok (.tuple #[.pointer none, .bool false]) w) :
    Calls Try.prog 30 #[.pointer (some ⟨bt, 0, none⟩), .string s] w fun x w' => x = .returned (.tuple #[]) ∧ w = w' := by
  go_enter Try.func30, Try.ntmps30
  go_wp2
  go_returns
  exact ⟨rfl, rfl⟩

set_option maxHeartbeats 400000 in
theorem free_is (bt e : Nat) (s : ByteArray) (mp : Option Nat) (w : World) (h0 : w.cell? ⟨bt, 0, none⟩ = some (.map mp))
    (hl : (Instr.lookup 28 (.map mp) (.string s) true).run Try.prog w = .ok (.tuple #[.pointer (some ⟨e, 0, none⟩), .bool true]) w) (he : w.cell? ⟨e, 3, none⟩ = some (.bool true)) :
    Calls Try.prog 30 #[.pointer (some ⟨bt, 0, none⟩), .string s] w fun x w' => x = .returned (.tuple #[]) ∧ w = w' := by
  go_enter Try.func30, Try.ntmps30
  go_wp2
  go_returns
  exact ⟨rfl, rfl⟩

set_option maxHeartbeats 400000 in
theorem free_0 (bt e : Nat) (s : ByteArray) (mp hd : Option Nat) (k : Nat) (w : World) (hb : w.heap[bt]? = some (tok mp hd none k)) (he : w.heap[e]? = some (ent s false none none)) (d0 : bt ≠ e) (hk : k ≤ 1048576)
    (hl : (Instr.lookup 28 (.map mp) (.string s) true).run Try.prog w = .ok (.tuple #[.pointer (some ⟨e, 0, none⟩), .bool true]) w) :
    Calls Try.prog 30 #[.pointer (some ⟨bt, 0, none⟩), .string s] w fun x w' => x = .returned (.tuple #[]) ∧ frW w bt e k none = w' := by
  have b0 : w.cell? ⟨bt, 0, none⟩ = some (.map mp) := cell_blk hb rfl
  have b1 : w.cell? ⟨bt, 1, none⟩ = some (ptr hd) := cell_blk hb rfl
  have b2 : w.cell? ⟨bt, 2, none⟩ = some (.pointer none) := cell_blk hb rfl
  have b3 : w.cell? ⟨bt, 3, none⟩ = some (.int .i64 (k : Int)) := cell_blk hb rfl
  have fb1 : w.frozen? ⟨bt, 1, none⟩ = false := froz_blk hb
  have fb2 : w.frozen? ⟨bt, 2, none⟩ = false := froz_blk hb
  have fb3 : w.frozen? ⟨bt, 3, none⟩ = false := froz_blk hb
  have e3 : w.cell? ⟨e, 3, none⟩ = some (.bool false) := cell_blk he rfl
  have e4 : w.cell? ⟨e, 4, none⟩ = some (.pointer none) := cell_blk he rfl
  have e5 : w.cell? ⟨e, 5, none⟩ = some (.pointer none) := cell_blk he rfl
  have fe3 : w.frozen? ⟨e, 3, none⟩ = false := froz_blk he
  have fe4 : w.frozen? ⟨e, 4, none⟩ = false := froz_blk he
  have fe5 : w.frozen? ⟨e, 5, none⟩ = false := froz_blk he
  have g0 := d0.symm
  clear hb he
  go_enter Try.func30, Try.ntmps30
  go_wp2
  go_end0
  refine ⟨rfl, ?_⟩
  simp only [frW, fr1, ptr]

set_option maxHeartbeats 400000 in
theorem free_q (bt e q : Nat) (s sq : ByteArray) (mp hd pq : Option Nat) (k : Nat) (w : World) (hb : w.heap[bt]? = some (tok mp hd (some q) k)) (he : w.heap[e]? = some (ent s false none none)) (hq : w.heap[q]? = some (ent sq true pq none))
    (d0 : bt ≠ e) (d1 : bt ≠ q) (d2 : e ≠ q) (hk : k ≤ 1048576)
    (hl : (Instr.lookup 28 (.map mp) (.string s) true).run Try.prog w = .ok (.tuple #[.pointer (some ⟨e, 0, none⟩), .bool true]) w) :
    Calls Try.prog 30 #[.pointer (some ⟨bt, 0, none⟩), .string s] w fun x w' => x = .returned (.tuple #[]) ∧ frW w bt e k (some q) = w' := by
  have b0 : w.cell? ⟨bt, 0, none⟩ = some (.map mp) := cell_blk hb rfl
  have b1 : w.cell? ⟨bt, 1, none⟩ = some (ptr hd) := cell_blk hb rfl
  have b2 : w.cell? ⟨bt, 2, none⟩ = some (.pointer (some ⟨q, 0, none⟩)) := cell_blk hb rfl
  have b3 : w.cell? ⟨bt, 3, none⟩ = some (.int .i64 (k : Int)) := cell_blk hb rfl
  have fb1 : w.frozen? ⟨bt, 1, none⟩ = false := froz_blk hb
  have fb2 : w.frozen? ⟨bt, 2, none⟩ = false := froz_blk hb
  have fb3 : w.frozen? ⟨bt, 3, none⟩ = false := froz_blk hb
  have e3 : w.cell? ⟨e, 3, none⟩ = some (.bool false) := cell_blk he rfl
  have e4 : w.cell? ⟨e, 4, none⟩ = some (.pointer none) := cell_blk he rfl
  have e5 : w.cell? ⟨e, 5, none⟩ = some (.pointer none) := cell_blk he rfl
  have fe3 : w.frozen? ⟨e, 3, none⟩ = false := froz_blk he
  have fe4 : w.frozen? ⟨e, 4, none⟩ = false := froz_blk he
  have fe5 : w.frozen? ⟨e, 5, none⟩ = false := froz_blk he
  have q5 : w.cell? ⟨q, 5, none⟩ = some (.pointer none) := cell_blk hq rfl
  have fq : w.frozen? ⟨q, 5, none⟩ = false := froz_blk hq
  have g0 := d0.symm
  have g1 := d1.symm
  have g2 := d2.symm
  clear hb he hq
  go_enter Try.func30, Try.ntmps30
  go_wp2
  go_end0
  refine ⟨rfl, ?_⟩
  simp only [frW, fr1, ptr]

section
variable {w : World} {bt e k : Nat} {la : Option Nat}

theorem fr_other {x : Nat} (h1 : x ≠ bt) (h2 : x ≠ e) (h3 : la ≠ some x) : (frW w bt e k la).heap[x]? = w.heap[x]? := by
  unfold frW
  rw [blk_other _ _ _ _ _ h1, blk_other _ _ _ _ _ h1]
  have a1 : ∀ u : World, (fr1 u bt e la).heap[x]? = u.heap[x]? := by
    intro u
    unfold fr1
    cases la with
    | none => exact blk_other _ _ _ _ _ h1
    | some q => exact blk_other _ _ _ _ _ (fun hh => h3 (by rw [hh]))
  rw [a1, blk_other _ _ _ _ _ h2, blk_other _ _ _ _ _ h2, blk_other _ _ _ _ _ h2]

theorem fr_e {s : ByteArray} {f : Bool} {a b : Option Nat} (he : w.heap[e]? = some (ent s f a b)) (h1 : e ≠ bt) (h3 : la ≠ some e) : (frW w bt e k la).heap[e]? = some (ent s true la none) := by
  unfold frW
  rw [blk_other _ _ _ _ _ h1, blk_other _ _ _ _ _ h1]
  have a1 : ∀ u : World, (fr1 u bt e la).heap[e]? = u.heap[e]? := by
    intro u
    unfold fr1
    cases la with
    | none => exact blk_other _ _ _ _ _ h1
    | some q => exact blk_other _ _ _ _ _ (fun hh => h3 (by rw [hh]))
  rw [a1, blk_same _ _ _ _ _ _ (blk_same _ _ _ _ _ _ (blk_same _ _ _ _ _ _ he))]
  rfl

theorem fr_q {q : Nat} {s : ByteArray} {f : Bool} {a b : Option Nat} (hla : la = some q) (hq : w.heap[q]? = some (ent s f a b)) (h1 : q ≠ bt) (h2 : q ≠ e) : (frW w bt e k la).heap[q]? = some (ent s f a (some e)) := by
  subst hla
  unfold frW
  rw [blk_other _ _ _ _ _ h1, blk_other _ _ _ _ _ h1]
  unfold fr1
  simp only
  rw [blk_same _ _ _ _ _ _ ((blk_other _ _ _ _ _ h2).trans ((blk_other _ _ _ _ _ h2).trans ((blk_other _ _ _ _ _ h2).trans hq)))]
  rfl

theorem fr_t {mp hd la0 : Option Nat} {k0 : Nat} (hb : w.heap[bt]? = some (tok mp hd la0 k0)) (h1 : bt ≠ e) (h3 : la ≠ some bt) : (frW w bt e k la).heap[bt]? = some (tok mp (alt la (some e) hd) (some e) (k + 1)) := by
  unfold frW
  have a0 : (((w.setCell ⟨e, 3, none⟩ (.bool true)).setCell ⟨e, 4, none⟩ (ptr la)).setCell ⟨e, 5, none⟩ (.pointer none)).heap[bt]? = some (tok mp hd la0 k0) := by
    rw [blk_other _ _ _ _ _ h1, blk_other _ _ _ _ _ h1, blk_other _ _ _ _ _ h1]; exact hb
  have a1 : (fr1 (((w.setCell ⟨e, 3, none⟩ (.bool true)).setCell ⟨e, 4, none⟩ (ptr la)).setCell ⟨e, 5, none⟩ (.pointer none)) bt e la).heap[bt]? = some (tok mp (alt la (some e) hd) la0 k0) := by
    generalize ((w.setCell ⟨e, 3, none⟩ (.bool true)).setCell ⟨e, 4, none⟩ (ptr la)).setCell ⟨e, 5, none⟩ (.pointer none) = u at a0 ⊢
    unfold fr1
    cases la with
    | none => simp only; rw [blk_same _ _ _ _ _ _ a0]; rfl
    | some q => simp only; rw [blk_other _ _ _ _ _ (fun hh => h3 (by rw [hh]))]; exact a0
  rw [blk_same _ _ _ _ _ _ (blk_same _ _ _ _ _ _ a1)]
  rfl

theorem fr_below {lo : Nat} (h1 : lo ≤ bt) (h2 : lo ≤ e) (h3 : ∀ p, la = some p → lo ≤ p) : Below lo w (frW w bt e k la) := by
  have a0 : Below lo w (((w.setCell ⟨e, 3, none⟩ (.bool true)).setCell ⟨e, 4, none⟩ (ptr la)).setCell ⟨e, 5, none⟩ (.pointer none)) := (((Below.refl _ _).setCell h2 _).setCell h2 _).setCell h2 _
  unfold frW
  have a1 : Below lo w (fr1 (((w.setCell ⟨e, 3, none⟩ (.bool true)).setCell ⟨e, 4, none⟩ (ptr la)).setCell ⟨e, 5, none⟩ (.pointer none)) bt e la) := by
    unfold fr1
    cases la with
    | none => exact a0.setCell h1 _
    | some q => exact a0.setCell (h3 q rfl) _
  exact (a1.setCell h1 _).setCell h1 _
end

theorem head_push (L : List Nat) (e : Nat) : alt L.getLast? (some e) L.head? = (L ++ [e]).head? := by
  cases L with
  | nil => rfl
  | cons a r => rw [List.getLast?_cons]; rfl

theorem tk_free {w : World} {lo bt n : Nat} {mp : Option Nat} {M : ByteArray → Option Nat} {L : List Nat} {s : ByteArray} {e : Nat} (h : Tk w lo bt mp n M L) (hs : M s = some e) (hL : e ∉ L) :
    Tk (frW w bt e L.length L.getLast?) lo bt mp n M (L ++ [e]) ∧ Below lo w (frW w bt e L.length L.getLast?) := by
  have hn : (L ++ [e]).Nodup := by
    rw [List.nodup_append]
    exact ⟨h.nodup, by simp, fun a ha b hb => by simp at hb; subst hb; exact fun hh => hL (hh ▸ ha)⟩
  have het : e ≠ bt := h.ne_t hs
  have hnt : ∀ x, x ∈ L → x ≠ bt := fun x hx => by obtain ⟨s, hs⟩ := h.sub x hx; exact h.ne_t hs
  have hlo : ∀ x, x ∈ L → lo ≤ x := fun x hx => by obtain ⟨s, hs⟩ := h.sub x hx; exact (h.en s x hs).2
  have hqe : L.getLast? ≠ some e := fun hh => hL (getLast_mem hh)
  have hqt : L.getLast? ≠ some bt := fun hh => hnt bt (getLast_mem hh) rfl
  refine ⟨⟨?_, h.tlo, h.map0, ?_, ?_, h.inj, hn, ?_⟩, fr_below h.tlo (h.en s e hs).2 (fun p hp => hlo p (getLast_mem hp))⟩
  · rw [fr_t h.t (Ne.symm het) hqt, head_push]
    simp
  · intro b hb
    obtain ⟨hT, hl⟩ := h.map1 b hb
    refine ⟨hT.of_block ?_, hl⟩
    refine fr_other (Ne.symm (h.t_ne_m hb)) (fun hh => h.ne_m hb hs hh.symm) (fun hh => ?_)
    obtain ⟨s', hs'⟩ := h.sub b (getLast_mem hh)
    exact h.ne_m hb hs' rfl
  · intro s' x hx
    obtain ⟨h1, h2⟩ := h.en s' x hx
    refine ⟨?_, h2⟩
    by_cases x1 : x = e
    · subst x1
      rw [fr_e h1 het hqe, decide_eq_true (by simp), Pl.prv_split L [] x (by simp), Pl.nxt_split L [] x hL]
      rfl
    · have hmem : (x ∈ L ++ [e]) ↔ (x ∈ L) := by simp [x1]
      rw [show decide (x ∈ L ++ [e]) = decide (x ∈ L) from decide_eq_decide.2 hmem, Pl.prv_push L e x x1, Pl.nxt_push L e x hn x1]
      by_cases x2 : L.getLast? = some x
      · rw [if_pos x2, fr_q x2 h1 (h.ne_t hx) x1]
      · rw [if_neg x2, fr_other (h.ne_t hx) x1 x2, h1]
  · intro x hx
    simp at hx
    rcases hx with hx | rfl
    · exact h.sub x hx
    · exact ⟨s, hs⟩

/-- the free list behind free(s). -/
def freeL (L : List Nat) (o : Option Nat) : List Nat := match o with
  | none => L
  | some e => if e ∈ L then L else L ++ [e]

theorem free30 {w : World} {lo bt n : Nat} {mp : Option Nat} {M : ByteArray → Option Nat} {L : List Nat} (h : Tk w lo bt mp n M L) (s : ByteArray) (hs : s.size ≤ maxLen) (hk : L.length ≤ 1048576) :
    Calls Try.prog 30 #[.pointer (some ⟨bt, 0, none⟩), .string s] w fun x w' => x = .returned (.tuple #[]) ∧ TkPost lo bt mp n M (freeL L (M s)) w w' := by
  have hl := h.look s hs
  have h0 : w.cell? ⟨bt, 0, none⟩ = some (.map mp) := cell_blk h.t rfl
  cases hM : M s with
  | none =>
    rw [hM] at hl
    refine (free_no bt s mp w h0 hl).mono ?_
    rintro x w' ⟨rfl, rfl⟩
    exact ⟨rfl, h, Below.refl _ _, Fr.refl _ _ _ _⟩
  | some e =>
    rw [hM] at hl
    have he := (h.en s e hM).1
    by_cases hL : e ∈ L
    · rw [decide_eq_true hL] at he
      refine (free_is bt e s mp w h0 hl (cell_blk he rfl)).mono ?_
      rintro x w' ⟨rfl, rfl⟩
      refine ⟨rfl, ?_, Below.refl _ _, Fr.refl _ _ _ _⟩
      simp only [freeL, if_pos hL]
      exact h
    · rw [decide_eq_false hL, Pl.prv_not_mem _ _ hL, Pl.nxt_not_mem _ _ hL] at he
      have het : bt ≠ e := Ne.symm (h.ne_t hM)
      obtain ⟨k1, k2⟩ := tk_free h hM hL
      have hfr : Fr bt mp M w (frW w bt e L.length L.getLast?) := fun x _ x1 _ x3 => by
        refine fr_other x1 (fun hh => x3 s (by rw [hM, hh])) (fun hh => ?_)
        obtain ⟨sy, hsy⟩ := h.sub x (getLast_mem hh)
        exact x3 sy hsy
      have fin : ∀ (x : Ending) (w' : World), (x = .returned (.tuple #[]) ∧ frW w bt e L.length L.getLast? = w') → x = .returned (.tuple #[]) ∧ TkPost lo bt mp n M (freeL L (some e)) w w' := by
        rintro x w' ⟨rfl, rfl⟩
        refine ⟨rfl, ?_, k2, hfr⟩
        simp only [freeL, if_neg hL]
        exact k1
      have ht := h.t
      cases hla : L.getLast? with
      | none =>
        rw [hla] at ht fin
        exact (free_0 bt e s mp _ _ w ht he het hk hl).mono fin
      | some q =>
        rw [hla] at ht fin
        have hqL := getLast_mem hla
        obtain ⟨sq, hsq⟩ := h.sub q hqL
        have hq := (h.en sq q hsq).1
        obtain ⟨A, hA⟩ : ∃ A, L = A ++ [q] := by
          cases hr : L.reverse with
          | nil => simp at hr; subst hr; simp at hla
          | cons y r =>
            have e3 : L = r.reverse ++ [y] := by have := congrArg List.reverse hr; simpa using this
            rw [e3] at hla
            simp at hla
            exact ⟨r.reverse, by rw [e3, hla]⟩
        have hqA : q ∉ A := by
          intro hm
          have hn := h.nodup
          rw [hA, List.nodup_append] at hn
          exact hn.2.2 q hm q (by simp) rfl
        rw [decide_eq_true hqL, hA, Pl.nxt_split A [] q hqA] at hq
        exact (free_q bt e q s sq mp _ _ _ w ht he hq het (Ne.symm (h.ne_t hsq)) (fun hh => hL (hh ▸ hqL)) hk hl).mono fin
end Go.Proofs.Qxb6001032a

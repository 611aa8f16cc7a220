import Derived.Test.Qxb6001032aUnlink
namespace Go.Proofs.Qxb6001032a
open Go.RowKit
set_option linter.unusedVariables false

theorem blk_same (w : World) (b i : Nat) (c : Array Value) (t : TypeId) (v : Value) (h : w.heap[b]? = some (.cells c t (0, 0))) : (w.setCell ⟨b, i, none⟩ v).heap[b]? = some (.cells (c.setIfInBounds i v) t (0, 0)) :=
  heap_setCell_same w b i c t v h
theorem blk_other (w : World) (b b' i : Nat) (v : Value) (h : b' ≠ b) : (w.setCell ⟨b, i, none⟩ v).heap[b']? = w.heap[b']? := Below.heap_setCell w ⟨b, i, none⟩ v b' h

/-- a where o is nil, else b. -/
def alt (o a b : Option Nat) : Option Nat := match o with
  | none => a
  | some _ => b

section
variable {w : World} {bt e k : Nat} {po pn : Option Nat}

theorem ul_other {x : Nat} (h1 : x ≠ bt) (h2 : x ≠ e) (h3 : po ≠ some x) (h4 : pn ≠ some x) : (ulW w bt e k po pn).heap[x]? = w.heap[x]? := by
  unfold ulW
  rw [blk_other _ _ _ _ _ h1, blk_other _ _ _ _ _ h2, blk_other _ _ _ _ _ h2, blk_other _ _ _ _ _ h2]
  have a2 : ∀ u : World, (ul2 u bt po pn).heap[x]? = u.heap[x]? := by
    intro u
    unfold ul2
    cases pn with
    | none => exact blk_other _ _ _ _ _ h1
    | some q => exact blk_other _ _ _ _ _ (fun hh => h4 (by rw [hh]))
  rw [a2]
  unfold ul1
  cases po with
  | none => exact blk_other _ _ _ _ _ h1
  | some p => exact blk_other _ _ _ _ _ (fun hh => h3 (by rw [hh]))

theorem ul_e {s : ByteArray} {f : Bool} {a b : Option Nat} (he : w.heap[e]? = some (ent s f a b)) (h1 : e ≠ bt) (h3 : po ≠ some e) (h4 : pn ≠ some e) : (ulW w bt e k po pn).heap[e]? = some (ent s false none none) := by
  unfold ulW
  have a2 : (ul2 (ul1 w bt po pn) bt po pn).heap[e]? = w.heap[e]? := by
    have b2 : ∀ u : World, (ul2 u bt po pn).heap[e]? = u.heap[e]? := by
      intro u
      unfold ul2
      cases pn with
      | none => exact blk_other _ _ _ _ _ h1
      | some q => exact blk_other _ _ _ _ _ (fun hh => h4 (by rw [hh]))
    rw [b2]
    unfold ul1
    cases po with
    | none => exact blk_other _ _ _ _ _ h1
    | some p => exact blk_other _ _ _ _ _ (fun hh => h3 (by rw [hh]))
  rw [blk_other _ _ _ _ _ h1, blk_same _ _ _ _ _ _ (blk_same _ _ _ _ _ _ (blk_same _ _ _ _ _ _ (a2.trans he)))]
  rfl

theorem ul_p {p : Nat} {s : ByteArray} {f : Bool} {a b : Option Nat} (hpo : po = some p) (hp : w.heap[p]? = some (ent s f a b)) (h1 : p ≠ bt) (h2 : p ≠ e) (h4 : pn ≠ some p) : (ulW w bt e k po pn).heap[p]? = some (ent s f a pn) := by
  subst hpo
  unfold ulW
  rw [blk_other _ _ _ _ _ h1, blk_other _ _ _ _ _ h2, blk_other _ _ _ _ _ h2, blk_other _ _ _ _ _ h2]
  have b2 : ∀ u : World, (ul2 u bt (some p) pn).heap[p]? = u.heap[p]? := by
    intro u
    unfold ul2
    cases pn with
    | none => exact blk_other _ _ _ _ _ h1
    | some q => exact blk_other _ _ _ _ _ (fun hh => h4 (by rw [hh]))
  rw [b2]
  unfold ul1
  simp only
  rw [blk_same _ _ _ _ _ _ hp]
  rfl

theorem ul_q {q : Nat} {s : ByteArray} {f : Bool} {a b : Option Nat} (hpn : pn = some q) (hq : w.heap[q]? = some (ent s f a b)) (h1 : q ≠ bt) (h2 : q ≠ e) (h3 : po ≠ some q) : (ulW w bt e k po pn).heap[q]? = some (ent s f po b) := by
  subst hpn
  unfold ulW
  rw [blk_other _ _ _ _ _ h1, blk_other _ _ _ _ _ h2, blk_other _ _ _ _ _ h2, blk_other _ _ _ _ _ h2]
  have b1 : (ul1 w bt po (some q)).heap[q]? = w.heap[q]? := by
    unfold ul1
    cases po with
    | none => exact blk_other _ _ _ _ _ h1
    | some p => exact blk_other _ _ _ _ _ (fun hh => h3 (by rw [hh]))
  unfold ul2
  simp only
  rw [blk_same _ _ _ _ _ _ (b1.trans hq)]
  rfl

theorem ul_t {mp hd la : Option Nat} {k0 : Nat} (hb : w.heap[bt]? = some (tok mp hd la k0)) (h1 : bt ≠ e) (h3 : po ≠ some bt) (h4 : pn ≠ some bt) :
    (ulW w bt e k po pn).heap[bt]? = some (tok mp (alt po pn hd) (alt pn po la) k) := by
  unfold ulW
  have a1 : (ul1 w bt po pn).heap[bt]? = some (tok mp (alt po pn hd) la k0) := by
    unfold ul1
    cases po with
    | none => simp only; rw [blk_same _ _ _ _ _ _ hb]; rfl
    | some p => simp only; rw [blk_other _ _ _ _ _ (fun hh => h3 (by rw [hh]))]; exact hb
  have a2 : (ul2 (ul1 w bt po pn) bt po pn).heap[bt]? = some (tok mp (alt po pn hd) (alt pn po la) k0) := by
    unfold ul2
    cases pn with
    | none => simp only; rw [blk_same _ _ _ _ _ _ a1]; rfl
    | some q => simp only; rw [blk_other _ _ _ _ _ (fun hh => h4 (by rw [hh]))]; exact a1
  rw [blk_same _ _ _ _ _ _ ((blk_other _ _ _ _ _ h1).trans ((blk_other _ _ _ _ _ h1).trans ((blk_other _ _ _ _ _ h1).trans a2)))]
  rfl

theorem ul_size : (ulW w bt e k po pn).heap.size = w.heap.size := by
  unfold ulW ul2 ul1
  cases po <;> cases pn <;> simp

theorem ul_below {lo : Nat} (h1 : lo ≤ bt) (h2 : lo ≤ e) (h3 : ∀ p, po = some p → lo ≤ p) (h4 : ∀ p, pn = some p → lo ≤ p) : Below lo w (ulW w bt e k po pn) := by
  have a1 : Below lo w (ul1 w bt po pn) := by
    unfold ul1
    cases po with
    | none => exact (Below.refl _ _).setCell h1 _
    | some p => exact (Below.refl _ _).setCell (h3 p rfl) _
  have a2 : Below lo w (ul2 (ul1 w bt po pn) bt po pn) := by
    unfold ul2
    cases pn with
    | none => exact a1.setCell h1 _
    | some q => exact a1.setCell (h4 q rfl) _
  unfold ulW
  exact (((a2.setCell h2 _).setCell h2 _).setCell h2 _).setCell h1 _
end

theorem getLast_mem {A : List Nat} {p : Nat} (h : A.getLast? = some p) : p ∈ A := List.mem_of_getLast? h
theorem head_mem {A : List Nat} {p : Nat} (h : A.head? = some p) : p ∈ A := List.mem_of_head? h

/-- the entries' blocks are not the struct's, nor the map's. -/
theorem Tk.ne_t {w : World} {lo bt n : Nat} {mp : Option Nat} {M : ByteArray → Option Nat} {L : List Nat} (h : Tk w lo bt mp n M L) {s : ByteArray} {e : Nat} (hs : M s = some e) : e ≠ bt := by
  intro he
  subst he
  have := (h.en s e hs).1
  rw [h.t] at this
  simp [tok, ent] at this

theorem Tk.ne_m {w : World} {lo bt n b : Nat} {mp : Option Nat} {M : ByteArray → Option Nat} {L : List Nat} (h : Tk w lo bt mp n M L) (hb : mp = some b) {s : ByteArray} {e : Nat} (hs : M s = some e) : e ≠ b := by
  intro he
  subst he
  have := (h.en s e hs).1
  obtain ⟨⟨D, ⟨es, cl, hm, _⟩, _⟩, _⟩ := h.map1 e hb
  rw [hm] at this
  simp [ent] at this

theorem Tk.t_ne_m {w : World} {lo bt n b : Nat} {mp : Option Nat} {M : ByteArray → Option Nat} {L : List Nat} (h : Tk w lo bt mp n M L) (hb : mp = some b) : bt ≠ b := by
  intro he
  subst he
  obtain ⟨⟨D, ⟨es, cl, hm, _⟩, _⟩, _⟩ := h.map1 bt hb
  rw [h.t] at hm
  simp [tok] at hm

theorem head_drop (A B : List Nat) (e : Nat) : alt A.getLast? B.head? (A ++ e :: B).head? = (A ++ B).head? := by
  cases A with
  | nil => rfl
  | cons a r =>
    rw [List.getLast?_cons]
    rfl
theorem last_drop (A B : List Nat) (e : Nat) : alt B.head? A.getLast? (A ++ e :: B).getLast? = (A ++ B).getLast? := by
  cases B with
  | nil => simp [alt]
  | cons b r => simp [alt, List.getLast?_append]

theorem tk_unlink {w : World} {lo bt n : Nat} {mp : Option Nat} {M : ByteArray → Option Nat} {A B : List Nat} {e : Nat} (h : Tk w lo bt mp n M (A ++ e :: B)) :
    Tk (ulW w bt e (A ++ B).length A.getLast? B.head?) lo bt mp n M (A ++ B) ∧ Below lo w (ulW w bt e (A ++ B).length A.getLast? B.head?) := by
  have hn := h.nodup
  have eA : e ∉ A := by intro hm; rw [List.nodup_append] at hn; exact hn.2.2 e hm e (by simp) rfl
  have eB : e ∉ B := by intro hm; rw [List.nodup_append] at hn; exact (List.nodup_cons.1 hn.2.1).1 hm
  have AB : ∀ x, x ∈ A → x ∈ B → False := by intro x hA hB; rw [List.nodup_append] at hn; exact hn.2.2 x hA x (by simp [hB]) rfl
  have hpe : A.getLast? ≠ some e := fun hh => eA (getLast_mem hh)
  have hqe : B.head? ≠ some e := fun hh => eB (head_mem hh)
  have hin : ∀ x, x ∈ A ++ e :: B → ∃ s, M s = some x := h.sub
  have hnt : ∀ x, x ∈ A ++ e :: B → x ≠ bt := fun x hx => by obtain ⟨s, hs⟩ := hin x hx; exact h.ne_t hs
  have hlo : ∀ x, x ∈ A ++ e :: B → lo ≤ x := fun x hx => by obtain ⟨s, hs⟩ := hin x hx; exact (h.en s x hs).2
  have hpt : A.getLast? ≠ some bt := fun hh => hnt bt (by simp [getLast_mem hh]) rfl
  have hqt : B.head? ≠ some bt := fun hh => hnt bt (by simp [head_mem hh]) rfl
  have het : e ≠ bt := hnt e (by simp)
  refine ⟨⟨?_, h.tlo, h.map0, ?_, ?_, h.inj, ?_, ?_⟩, ul_below h.tlo (hlo e (by simp)) (fun p hp => hlo p (by simp [getLast_mem hp])) (fun q hq => hlo q (by simp [head_mem hq]))⟩
  · rw [ul_t h.t (Ne.symm het) hpt hqt, head_drop, last_drop]
  · intro b hb
    obtain ⟨hT, hl⟩ := h.map1 b hb
    refine ⟨hT.of_block ?_, hl⟩
    have hne : ∀ x, x ∈ A ++ e :: B → x ≠ b := fun x hx => by obtain ⟨s, hs⟩ := hin x hx; exact h.ne_m hb hs
    exact ul_other (Ne.symm (h.t_ne_m hb)) (fun hh => hne e (by simp) hh.symm) (fun hh => hne b (by simp [getLast_mem hh]) rfl) (fun hh => hne b (by simp [head_mem hh]) rfl)
  · intro s x hs
    obtain ⟨hx, hlx⟩ := h.en s x hs
    refine ⟨?_, hlx⟩
    by_cases x1 : x = e
    · subst x1
      rw [ul_e hx het hpe hqe, decide_eq_false (by simp [eA, eB]), Pl.prv_not_mem _ _ (by simp [eA, eB]), Pl.nxt_not_mem _ _ (by simp [eA, eB])]
    · have hmem : (x ∈ A ++ B) ↔ (x ∈ A ++ e :: B) := by simp [x1]
      have hd : decide (x ∈ A ++ B) = decide (x ∈ A ++ e :: B) := decide_eq_decide.2 hmem
      rw [hd, Pl.nxt_drop A B e x hn x1, Pl.prv_drop A B e x hn x1]
      by_cases x2 : A.getLast? = some x
      · have x3 : B.head? ≠ some x := fun hh => AB x (getLast_mem x2) (head_mem hh)
        rw [if_pos x2, if_neg x3, ul_p x2 hx (h.ne_t hs) x1 x3]
      · by_cases x3 : B.head? = some x
        · rw [if_neg x2, if_pos x3, ul_q x3 hx (h.ne_t hs) x1 x2]
        · rw [if_neg x2, if_neg x3, ul_other (h.ne_t hs) x1 x2 x3, hx]
  · rw [List.nodup_append] at hn ⊢
    exact ⟨hn.1, (List.nodup_cons.1 hn.2.1).2, fun a ha b hb => hn.2.2 a ha b (by simp [hb])⟩
  · intro x hx
    exact hin x (by simp at hx ⊢; rcases hx with h | h <;> simp [h])

/-- the blocks that are none of the Tokens' own are as they were. -/
def Fr (bt : Nat) (mp : Option Nat) (M : ByteArray → Option Nat) (w w' : World) : Prop := ∀ x, x < w.heap.size → x ≠ bt → mp ≠ some x → (∀ s, M s ≠ some x) → w'.heap[x]? = w.heap[x]?

theorem Fr.refl (bt : Nat) (mp : Option Nat) (M : ByteArray → Option Nat) (w : World) : Fr bt mp M w w := fun _ _ _ _ _ => rfl

/-- the frame of a call: nothing below lo has turned; no block has gone. -/
def TkPost (lo bt : Nat) (mp : Option Nat) (n : Nat) (M : ByteArray → Option Nat) (L : List Nat) (w : World) (w' : World) : Prop := Tk w' lo bt mp n M L ∧ Below lo w w' ∧ Fr bt mp M w w'

theorem Tk.drewN {w : World} {lo bt n : Nat} {mp : Option Nat} {M : ByteArray → Option Nat} {L : List Nat} (h : Tk w lo bt mp n M L) (q : Nat) : Tk (w.drewN q) lo bt mp n M L :=
  ⟨h.t, h.tlo, h.map0, fun b hb => ⟨(h.map1 b hb).1.of_block rfl, (h.map1 b hb).2⟩, h.en, h.inj, h.nodup, h.sub⟩

theorem unlink35 {w : World} {lo bt n : Nat} {mp : Option Nat} {M : ByteArray → Option Nat} {A B : List Nat} {e : Nat} (h : Tk w lo bt mp n M (A ++ e :: B)) (hk : (A ++ B).length ≤ 1048576) :
    Calls Try.prog 35 #[.pointer (some ⟨bt, 0, none⟩), .pointer (some ⟨e, 0, none⟩)] w fun x w' => x = .returned (.tuple #[]) ∧ TkPost lo bt mp n M (A ++ B) w w' := by
  have hn := h.nodup
  have eA : e ∉ A := by intro hm; rw [List.nodup_append] at hn; exact hn.2.2 e hm e (by simp) rfl
  have eB : e ∉ B := by intro hm; rw [List.nodup_append] at hn; exact (List.nodup_cons.1 hn.2.1).1 hm
  obtain ⟨s, hs⟩ := h.sub e (by simp)
  have he := (h.en s e hs).1
  rw [decide_eq_true (show e ∈ A ++ e :: B by simp), Pl.prv_split A B e eB, Pl.nxt_split A B e eA] at he
  have ht := h.t
  have hl : (A ++ e :: B).length = (A ++ B).length + 1 := by simp; omega
  rw [hl] at ht
  have het : bt ≠ e := Ne.symm (h.ne_t hs)
  obtain ⟨h1, h2⟩ := tk_unlink h
  have hfr : Fr bt mp M w (ulW w bt e (A ++ B).length A.getLast? B.head?) := fun x _ x1 _ x3 => by
    have hne : ∀ y, y ∈ A ++ e :: B → y ≠ x := fun y hy hh => by
      obtain ⟨sy, hsy⟩ := h.sub y hy
      exact x3 sy (by rw [← hh]; exact hsy)
    exact ul_other x1 (Ne.symm (hne e (by simp))) (fun hh => hne x (by simp [getLast_mem hh]) rfl) (fun hh => hne x (by simp [head_mem hh]) rfl)
  have fin : ∀ x w', UlPost w bt e (A ++ B).length A.getLast? B.head? x w' → x = .returned (.tuple #[]) ∧ TkPost lo bt mp n M (A ++ B) w w' := by
    rintro x w' ⟨rfl, q, rfl⟩
    exact ⟨rfl, h1.drewN q, below_drewN h2 q, hfr⟩
  have hp : ∀ p, A.getLast? = some p → ∃ sp pp, w.heap[p]? = some (ent sp true pp (some e)) ∧ bt ≠ p ∧ e ≠ p := by
    intro p hp
    obtain ⟨A', rfl⟩ : ∃ A', A = A' ++ [p] := by
      cases hr : A.reverse with
      | nil => simp at hr; subst hr; simp at hp
      | cons y r =>
        have e3 : A = r.reverse ++ [y] := by have := congrArg List.reverse hr; simpa using this
        rw [e3] at hp
        simp at hp
        exact ⟨r.reverse, by rw [e3, hp]⟩
    obtain ⟨sp, hsp⟩ := h.sub p (by simp)
    have := (h.en sp p hsp).1
    have hpA : p ∉ A' := by
      intro hm
      rw [List.nodup_append] at hn
      have := (List.nodup_append.1 hn.1).2.2 p hm p (by simp)
      exact this rfl
    rw [decide_eq_true (show p ∈ A' ++ [p] ++ e :: B by simp), List.append_assoc, List.singleton_append, Pl.nxt_split A' (e :: B) p hpA] at this
    exact ⟨sp, _, this, Ne.symm (h.ne_t hsp), fun hh => eA (by simp [hh])⟩
  have hq : ∀ q, B.head? = some q → ∃ sq nq, w.heap[q]? = some (ent sq true (some e) nq) ∧ bt ≠ q ∧ e ≠ q := by
    intro q hq
    obtain ⟨B', rfl⟩ : ∃ B', B = q :: B' := by
      cases B with
      | nil => simp at hq
      | cons y r => simp at hq; exact ⟨r, by rw [hq]⟩
    obtain ⟨sq, hsq⟩ := h.sub q (by simp)
    have := (h.en sq q hsq).1
    have hqB : q ∉ B' := by
      intro hm
      rw [List.nodup_append] at hn
      have := (List.nodup_cons.1 (List.nodup_cons.1 hn.2.1).2).1
      exact this hm
    have e2 : A ++ e :: q :: B' = (A ++ [e]) ++ q :: B' := by simp
    rw [decide_eq_true (show q ∈ A ++ e :: q :: B' by simp), e2, Pl.prv_split (A ++ [e]) B' q hqB] at this
    simp at this
    exact ⟨sq, _, this, Ne.symm (h.ne_t hsq), fun hh => eB (by simp [hh])⟩
  generalize hpo : A.getLast? = po at *
  generalize hpn : B.head? = pn at *
  cases po with
  | none =>
    cases pn with
    | none => exact (unlink_0 bt e s mp _ _ _ w ht he het hk).mono fin
    | some q =>
      obtain ⟨sq, nq, q1, q2, q3⟩ := hq q rfl
      exact (unlink_q bt e q s sq mp _ _ nq _ w ht he q1 het q2 q3 hk).mono fin
  | some p =>
    obtain ⟨sp, pp, p1, p2, p3⟩ := hp p rfl
    cases pn with
    | none => exact (unlink_p bt e p s sp mp _ _ pp _ w ht he p1 het p2 p3 hk).mono fin
    | some q =>
      obtain ⟨sq, nq, q1, q2, q3⟩ := hq q rfl
      have hne : p ≠ q := by
        intro hh
        subst hh
        rw [List.nodup_append] at hn
        exact hn.2.2 p (getLast_mem hpo) p (by simp [head_mem hpn]) rfl
      exact (unlink_pq bt e p q s sp sq mp _ _ pp nq _ w ht he p1 q1 het p2 p3 q2 q3 hne hk).mono fin
end Go.Proofs.Qxb6001032a

/- Seat b6001032a, the plain mathematics: a list of different numbers, its successors and predecessors. No Go in sight. -/
namespace Go.Proofs.Qxb6001032a.Pl

/-- what comes behind e. -/
def nxt : List Nat → Nat → Option Nat
  | [], _ => none
  | a :: r, e => if a = e then r.head? else nxt r e

/-- what stands ahead of e. -/
def prv (l : List Nat) (e : Nat) : Option Nat := nxt l.reverse e

theorem nxt_not_mem (l : List Nat) (e : Nat) (h : e ∉ l) : nxt l e = none := by
  induction l with
  | nil => rfl
  | cons a r ih =>
    simp at h
    rw [nxt, if_neg (fun x => h.1 x.symm)]
    exact ih h.2

theorem prv_not_mem (l : List Nat) (e : Nat) (h : e ∉ l) : prv l e = none := nxt_not_mem _ _ (by simpa using h)

theorem nxt_split (A B : List Nat) (e : Nat) (h : e ∉ A) : nxt (A ++ e :: B) e = B.head? := by
  induction A with
  | nil => simp [nxt]
  | cons a r ih =>
    simp at h
    rw [List.cons_append, nxt, if_neg (fun x => h.1 x.symm)]
    exact ih h.2

theorem prv_split (A B : List Nat) (e : Nat) (h : e ∉ B) : prv (A ++ e :: B) e = A.getLast? := by
  unfold prv
  have : (A ++ e :: B).reverse = B.reverse ++ e :: A.reverse := by simp
  rw [this, nxt_split _ _ _ (by simpa using h), List.head?_reverse]

/-- the successors in A ++ B, told by those in A ++ e :: B. -/
theorem nxt_drop (A B : List Nat) (e x : Nat) (hn : (A ++ e :: B).Nodup) (hx : x ≠ e) : nxt (A ++ B) x = if A.getLast? = some x then B.head? else nxt (A ++ e :: B) x := by
  induction A with
  | nil =>
    rw [if_neg (by simp)]
    simp only [List.nil_append, nxt]
    rw [if_neg (fun h => hx h.symm)]
  | cons a r ih =>
    have hn' : (r ++ e :: B).Nodup := by simp only [List.cons_append, List.nodup_cons] at hn; exact hn.2
    have ha : a ∉ r ++ e :: B := by simp only [List.cons_append, List.nodup_cons] at hn; exact hn.1
    have ih := ih hn'
    simp only [List.cons_append, nxt]
    by_cases e1 : a = x
    · subst e1
      rw [if_pos rfl, if_pos rfl]
      cases r with
      | nil => simp
      | cons b r' =>
        have hb : (b :: r').getLast? ≠ some a := by
          intro h
          have := List.mem_of_getLast? h
          exact ha (by simp at this ⊢; rcases this with h | h <;> simp [h])
        rw [List.getLast?_cons_cons, if_neg hb]
        simp
    · rw [if_neg e1, if_neg e1, ih]
      cases r with
      | nil => simp [e1]
      | cons b r' => rw [List.getLast?_cons_cons]

theorem prv_drop (A B : List Nat) (e x : Nat) (hn : (A ++ e :: B).Nodup) (hx : x ≠ e) : prv (A ++ B) x = if B.head? = some x then A.getLast? else prv (A ++ e :: B) x := by
  unfold prv
  have e1 : (A ++ B).reverse = B.reverse ++ A.reverse := by simp
  have e2 : (A ++ e :: B).reverse = B.reverse ++ e :: A.reverse := by simp
  have hn' : (B.reverse ++ e :: A.reverse).Nodup := by rw [← e2]; exact (List.reverse_perm _).nodup_iff.2 hn
  rw [e1, e2, nxt_drop _ _ _ _ hn' hx, List.getLast?_reverse, List.head?_reverse]

/-- pushing e at the end. -/
theorem nxt_push (L : List Nat) (e x : Nat) (hn : (L ++ [e]).Nodup) (hx : x ≠ e) : nxt (L ++ [e]) x = if L.getLast? = some x then some e else nxt L x := by
  have := nxt_drop L [] e x hn hx
  simp only [List.append_nil, List.head?_nil] at this
  rw [this]
  by_cases h : L.getLast? = some x
  · rw [if_pos h]
    obtain ⟨A, rfl⟩ : ∃ A, L = A ++ [x] := by
      cases hl : L.reverse with
      | nil => simp at hl; subst hl; simp at h
      | cons y r =>
        have e3 : L = r.reverse ++ [y] := by have := congrArg List.reverse hl; simpa using this
        rw [e3] at h
        simp at h
        exact ⟨r.reverse, by rw [e3, h]⟩
    have hx2 : x ∉ A := by
      intro hm
      have h1 := (List.nodup_append.1 hn).1
      exact (List.nodup_append.1 h1).2.2 x hm x (by simp) rfl
    rw [List.append_assoc, List.singleton_append, nxt_split _ _ _ hx2]
    rfl
  · rw [if_neg h, if_neg h]

theorem prv_push (L : List Nat) (e x : Nat) (hx : x ≠ e) : prv (L ++ [e]) x = prv L x := by
  unfold prv
  rw [List.reverse_append]
  simp only [List.reverse_cons, List.reverse_nil, List.nil_append, List.singleton_append, nxt]
  rw [if_neg (fun h => hx h.symm)]

theorem split_mem (L : List Nat) (e : Nat) (hn : L.Nodup) (h : e ∈ L) : ∃ A B, L = A ++ e :: B ∧ e ∉ A ∧ e ∉ B := by
  obtain ⟨A, B, rfl⟩ := List.append_of_mem h
  refine ⟨A, B, rfl, ?_, ?_⟩
  · intro hm
    rw [List.nodup_append] at hn
    exact hn.2.2 e hm e (by simp) rfl
  · intro hm
    rw [List.nodup_append] at hn
    have := hn.2.1
    simp at this
    exact this.1 hm

/-- a list without repeats whose image under an injection lies in a list is no longer than that. -/
theorem length_le_of_inj {α : Type} [DecidableEq α] (L : List Nat) (S : List α) (f : Nat → α) (hn : L.Nodup) (hm : ∀ e ∈ L, f e ∈ S) (hi : ∀ a ∈ L, ∀ b ∈ L, f a = f b → a = b) : L.length ≤ S.length := by
  induction L generalizing S with
  | nil => simp
  | cons a r ih =>
    have ha : f a ∈ S := hm a (by simp)
    have hlen : (S.erase (f a)).length + 1 = S.length := by
      rw [List.length_erase_of_mem ha]
      have := List.length_pos_of_mem ha
      omega
    have hn' := List.nodup_cons.1 hn
    have := ih (S.erase (f a)) hn'.2 (fun e he => by
      have h1 := hm e (by simp [he])
      have h2 : f e ≠ f a := fun h => by
        have := hi e (by simp [he]) a (by simp) h
        subst this
        exact hn'.1 he
      exact (List.mem_erase_of_ne h2).2 h1) (fun x hx y hy => hi x (by simp [hx]) y (by simp [hy]))
    simp
    omega

end Go.Proofs.Qxb6001032a.Pl

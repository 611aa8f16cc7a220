/- The plain mathematics of seat b6000858a: byte strings compared, no Go in sight. -/
namespace Go.Proofs.Qxb6000858a.Pl

/-- bytewise comparison: -1, 0, 1. -/
def cmpL : List Int → List Int → Int
  | [], [] => 0
  | [], _ :: _ => -1
  | _ :: _, [] => 1
  | a :: as, b :: bs => if a < b then -1 else if b < a then 1 else cmpL as bs

theorem cmpL_self (l : List Int) : cmpL l l = 0 := by
  induction l with
  | nil => rfl
  | cons a as ih => simp [cmpL, ih]

theorem cmpL_vals (l m : List Int) : cmpL l m = -1 ∨ cmpL l m = 0 ∨ cmpL l m = 1 := by
  induction l generalizing m with
  | nil => cases m <;> simp [cmpL]
  | cons a as ih =>
    cases m with
    | nil => simp [cmpL]
    | cons b bs =>
      simp only [cmpL]
      split
      · exact .inl rfl
      · split
        · exact .inr (.inr rfl)
        · exact ih bs

theorem cmpL_flip (l m : List Int) : cmpL m l = - cmpL l m := by
  induction l generalizing m with
  | nil => cases m <;> simp [cmpL]
  | cons a as ih =>
    cases m with
    | nil => simp [cmpL]
    | cons b bs =>
      simp only [cmpL]
      by_cases h1 : a < b
      · have h2 : ¬ b < a := by omega
        simp [h1, h2]
      · by_cases h2 : b < a
        · simp [h1, h2]
        · simp [h1, h2, ih bs]

theorem cmpL_trans (l m n : List Int) (h1 : cmpL l m < 0) (h2 : cmpL m n < 0) : cmpL l n < 0 := by
  induction l generalizing m n with
  | nil =>
    cases n with
    | nil => cases m <;> simp [cmpL] at h1 h2
    | cons c cs => simp [cmpL]
  | cons a as ih =>
    cases m with
    | nil => simp [cmpL] at h1
    | cons b bs =>
      cases n with
      | nil => simp [cmpL] at h2
      | cons c cs =>
        simp only [cmpL] at h1 h2 ⊢
        by_cases ab : a < b
        · by_cases bc : b < c
          · rw [if_pos (by omega)]; omega
          · rw [if_neg bc] at h2
            by_cases cb : c < b
            · rw [if_pos cb] at h2; omega
            · rw [if_pos (by omega)]; omega
        · rw [if_neg ab] at h1
          by_cases ba : b < a
          · rw [if_pos ba] at h1; omega
          · rw [if_neg ba] at h1
            by_cases bc : b < c
            · rw [if_pos (by omega)]; omega
            · rw [if_neg bc] at h2
              by_cases cb : c < b
              · rw [if_pos cb] at h2; omega
              · rw [if_neg cb] at h2
                rw [if_neg (by omega), if_neg (by omega)]
                exact ih bs cs h1 h2

/-- what the loop of bytesCmpB1 knows: the first i bytes are alike. -/
theorem cmpL_lt (l m : List Int) (i : Nat) (hl : i < l.length) (hm : i < m.length) (ht : l.take i = m.take i) (h : l.getD i 0 < m.getD i 0) : cmpL l m = -1 := by
  induction i generalizing l m with
  | zero =>
    cases l with
    | nil => simp at hl
    | cons a as => cases m with
      | nil => simp at hm
      | cons b bs => simp at h; simp [cmpL, h]
  | succ i ih =>
    cases l with
    | nil => simp at hl
    | cons a as => cases m with
      | nil => simp at hm
      | cons b bs =>
        simp at ht hl hm h
        obtain ⟨rfl, ht⟩ := ht
        have := ih as bs hl hm ht (by simpa using h)
        simp [cmpL, this]

theorem cmpL_gt (l m : List Int) (i : Nat) (hl : i < l.length) (hm : i < m.length) (ht : l.take i = m.take i) (h : m.getD i 0 < l.getD i 0) : cmpL l m = 1 := by
  have := cmpL_lt m l i hm hl ht.symm h
  rw [cmpL_flip m l, this]; rfl

theorem take_step (l m : List Int) (i : Nat) (hl : i < l.length) (hm : i < m.length) (ht : l.take i = m.take i) (h : l.getD i 0 = m.getD i 0) : l.take (i + 1) = m.take (i + 1) := by
  rw [List.take_succ_eq_append_getElem hl, List.take_succ_eq_append_getElem hm, ht]
  simp [List.getD, List.getElem?_eq_getElem hl, List.getElem?_eq_getElem hm] at h
  rw [h]

theorem cmpL_end (l m : List Int) (n : Nat) (hn : n = min l.length m.length) (ht : l.take n = m.take n) :
    cmpL l m = if l.length < m.length then -1 else if m.length < l.length then 1 else 0 := by
  subst hn
  induction l generalizing m with
  | nil => cases m <;> simp [cmpL]
  | cons a as ih =>
    cases m with
    | nil => simp [cmpL]
    | cons b bs =>
      have e : min (a :: as).length (b :: bs).length = min as.length bs.length + 1 := by simp
      rw [e] at ht
      simp at ht
      obtain ⟨rfl, ht⟩ := ht
      have := ih bs ht
      simp [cmpL, this]

/-- strictly increasing keys. -/
def Inc (K : Nat) (key : Nat → List Int) : Prop := ∀ i, i + 1 < K → cmpL (key i) (key (i + 1)) < 0

theorem Inc.lt {K : Nat} {key : Nat → List Int} (h : Inc K key) : ∀ d i, i + d + 1 < K → cmpL (key i) (key (i + d + 1)) < 0 := by
  intro d
  induction d with
  | zero => intro i hi; exact h i hi
  | succ d ih =>
    intro i hi
    exact cmpL_trans _ _ _ (ih i (by omega)) (h (i + d + 1) (by omega))

theorem Inc.lt' {K : Nat} {key : Nat → List Int} (h : Inc K key) {i j : Nat} (hij : i < j) (hj : j < K) : cmpL (key i) (key j) < 0 := by
  have := h.lt (j - i - 1) i (by omega)
  rwa [show i + (j - i - 1) + 1 = j from by omega] at this

theorem Inc.iff {K : Nat} {key : Nat → List Int} (h : Inc K key) {i j : Nat} (hi : i < K) (hj : j < K) : cmpL (key i) (key j) < 0 ↔ i < j := by
  constructor
  · intro hc
    by_cases e : i = j
    · subst e; rw [cmpL_self] at hc; omega
    · by_cases l : i < j
      · exact l
      · have := h.lt' (show j < i by omega) hi
        rw [cmpL_flip (key i) (key j)] at this; omega
  · intro l; exact h.lt' l hj

theorem Inc.pos {K : Nat} {key : Nat → List Int} (h : Inc K key) {i : Nat} (h0 : 0 < i) (hi : i < K) : (key i) ≠ [] := by
  intro e
  have := h.lt' h0 hi
  rw [e] at this
  cases hk : key 0 <;> rw [hk] at this <;> simp [cmpL] at this

def inR (k lo hi : List Int) : Bool := decide (¬ 0 < cmpL lo k) && (hi.isEmpty || decide (cmpL k hi < 0))

def hiOf (K : Nat) (key : Nat → List Int) (h : Nat) : List Int := if h < K then key h else []

theorem inR_iff {K : Nat} {key : Nat → List Int} (h : Inc K key) {lo hi j : Nat} (hl : lo < hi) (hh : hi ≤ K) (hj : j < K) :
    inR (key j) (key lo) (hiOf K key hi) = (decide (lo ≤ j) && decide (j < hi)) := by
  unfold inR hiOf
  have e1 : (¬ 0 < cmpL (key lo) (key j)) ↔ lo ≤ j := by
    rw [cmpL_flip (key j) (key lo)]
    have := h.iff hj (show lo < K by omega)
    constructor
    · intro hc; have : ¬ cmpL (key j) (key lo) < 0 := by omega
      omega
    · intro hc; have : ¬ cmpL (key j) (key lo) < 0 := by omega
      omega
  rw [show decide (¬ 0 < cmpL (key lo) (key j)) = decide (lo ≤ j) from decide_eq_decide.2 e1]
  by_cases hk : hi < K
  · have hp := h.pos (show 0 < hi by omega) hk
    rw [if_pos hk]
    have : (key hi).isEmpty = false := by cases hq : key hi <;> simp_all
    rw [this, show decide (cmpL (key j) (key hi) < 0) = decide (j < hi) from decide_eq_decide.2 (h.iff hj hk)]
    simp
  · rw [if_neg hk]
    have : j < hi := by omega
    simp [this]

end Go.Proofs.Qxb6000858a.Pl

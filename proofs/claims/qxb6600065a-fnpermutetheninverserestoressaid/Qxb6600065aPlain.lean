import Derived.KernelRfl
/-! THE PLAIN LAW: what 'permute' does to a permutation of 0 .. n-1, with no Go in sight. -/
namespace Go.Proofs.Qxb6600065a.Plain

/-- p is a permutation of 0 .. n-1. -/
def IsP (n : Nat) (p : Nat → Nat) : Prop := (∀ i, i < n → p i < n) ∧ ∀ i j, i < n → j < n → p i = p j → i = j

theorem no_inj : ∀ (n : Nat) (q : Nat → Nat), (∀ i, i ≤ n → q i < n) → (∀ i j, i ≤ n → j ≤ n → q i = q j → i = j) → False
  | 0, q, h, _ => by have := h 0 (Nat.le_refl _); omega
  | n + 1, q, h, inj => by
    refine no_inj n (fun i => if q i = n then q (n + 1) else q i) ?_ ?_
    · intro i hi
      have h1 := h i (by omega)
      have h2 := h (n + 1) (by omega)
      have h3 := inj i (n + 1) (by omega) (by omega)
      show (if q i = n then q (n + 1) else q i) < n
      by_cases e : q i = n
      · rw [if_pos e]
        by_cases e2 : q (n + 1) = n
        · have := h3 (by omega); omega
        · omega
      · rw [if_neg e]; omega
    · intro i j hi hj hq
      have hij := inj i j (by omega) (by omega)
      have hi1 := inj i (n + 1) (by omega) (by omega)
      have hj1 := inj j (n + 1) (by omega) (by omega)
      have hq' : (if q i = n then q (n + 1) else q i) = (if q j = n then q (n + 1) else q j) := hq
      by_cases e : q i = n <;> by_cases f : q j = n
      · exact hij (by omega)
      · rw [if_pos e, if_neg f] at hq'; have := hj1 hq'.symm; omega
      · rw [if_neg e, if_pos f] at hq'; have := hi1 hq'; omega
      · rw [if_neg e, if_neg f] at hq'; exact hij hq'

/-- A permutation meets every number. -/
theorem surj {n : Nat} {p : Nat → Nat} (h : IsP n p) (j : Nat) (hj : j < n) : ∃ i, i < n ∧ p i = j := by
  refine Classical.byContradiction fun hno => ?_
  have hne : ∀ i, i < n → p i ≠ j := fun i hi e => hno ⟨i, hi, e⟩
  obtain ⟨m, rfl⟩ : ∃ m, n = m + 1 := ⟨n - 1, by omega⟩
  refine no_inj m (fun i => if p i = m then j else p i) ?_ ?_
  · intro i hi
    have h1 := h.1 i (by omega)
    have h2 := hne i (by omega)
    show (if p i = m then j else p i) < m
    by_cases e : p i = m
    · rw [if_pos e]; omega
    · rw [if_neg e]; omega
  · intro i k hi hk hq
    have hik := h.2 i k (by omega) (by omega)
    have hi2 := hne i (by omega)
    have hk2 := hne k (by omega)
    have hq' : (if p i = m then j else p i) = (if p k = m then j else p k) := hq
    by_cases e : p i = m <;> by_cases f : p k = m
    · exact hik (by omega)
    · rw [if_pos e, if_neg f] at hq'; exact absurd hq'.symm hk2
    · rw [if_neg e, if_pos f] at hq'; exact absurd hq' hi2
    · rw [if_neg e, if_neg f] at hq'; exact hik hq'

/-- What is its inverse is a permutation too, and undoes it from the other side. -/
theorem inverse {n : Nat} {p f : Nat → Nat} (h : IsP n p) (hf : ∀ i, i < n → f (p i) = i) : IsP n f ∧ ∀ j, j < n → p (f j) = j := by
  refine ⟨⟨?_, ?_⟩, ?_⟩
  · intro j hj
    obtain ⟨i, hi, rfl⟩ := surj h j hj
    rw [hf i hi]; exact hi
  · intro j k hj hk e
    obtain ⟨i, hi, rfl⟩ := surj h j hj
    obtain ⟨l, hl, rfl⟩ := surj h k hk
    rw [hf i hi, hf l hl] at e
    rw [e]
  · intro j hj
    obtain ⟨i, hi, rfl⟩ := surj h j hj
    rw [hf i hi]

/-- A store. -/
def upd (f : Nat → Nat) (i v : Nat) : Nat → Nat := fun j => if j = i then v else f j
theorem upd_self (f : Nat → Nat) (i v : Nat) : upd f i v i = v := by simp [upd]
theorem upd_other (f : Nat → Nat) {i j : Nat} (v : Nat) (h : j ≠ i) : upd f i v j = f j := by simp [upd, h]

/-- How many places of the first n are not yet their own. -/
def open_ (p : Nat → Nat) : Nat → Nat
  | 0 => 0
  | n + 1 => open_ p n + if p n = n then 0 else 1
theorem open_upd_out (p : Nat → Nat) (t v : Nat) : ∀ n, n ≤ t → open_ (upd p t v) n = open_ p n
  | 0, _ => rfl
  | n + 1, h => by
    show open_ (upd p t v) n + (if upd p t v n = n then 0 else 1) = open_ p n + if p n = n then 0 else 1
    rw [open_upd_out p t v n (by omega), upd_other p v (by omega)]
theorem open_upd (p : Nat → Nat) (t : Nat) (ht : p t ≠ t) : ∀ n, t < n → open_ (upd p t t) n + 1 = open_ p n
  | 0, h => by omega
  | n + 1, h => by
    show open_ (upd p t t) n + (if upd p t t n = n then 0 else 1) + 1 = open_ p n + if p n = n then 0 else 1
    by_cases e : n = t
    · subst e
      rw [open_upd_out p n n n (Nat.le_refl _), upd_self, if_pos rfl, if_neg ht]
    · have := open_upd p t ht n (by omega)
      rw [upd_other p t e]
      omega

/-- THE OUTER LOOP at 'start': p's first places are their own; what is to come to place i lies at p i. D: what is to come. -/
structure Outer (n : Nat) (D : Nat → Nat) (start : Nat) (p h : Nat → Nat) : Prop where
  perm : IsP n p
  done : ∀ i, i < start → i < n → p i = i
  goal : ∀ i, i < n → h (p i) = D i

/-- THE INNER LOOP: 'to' is the place to fill; A: what lay at 'start'. -/
structure Inner (n : Nat) (D : Nat → Nat) (start A to : Nat) (p h : Nat → Nat) : Prop where
  lt : ∀ i, i < n → p i < n
  to_lt : to < n
  moves : p to ≠ to
  inj : ∀ i j, i < n → j < n → i ≠ start → j ≠ start → p i = p j → i = j
  done : ∀ i, i < start → i < n → p i = i
  goal : ∀ i, i < n → i ≠ start → D i = if p i = start then A else h (p i)
  first : (to = start ∧ p start ≠ start ∧ (∀ i, i < n → i ≠ start → p i ≠ p start) ∧ D start = h (p start)) ∨
    (to ≠ start ∧ p start = start ∧ (∀ i, i < n → i ≠ start → p i ≠ to) ∧ D start = h start)

theorem inner_start {n : Nat} {D p h : Nat → Nat} {start : Nat} (O : Outer n D start p h) (hs : start < n) (hne : p start ≠ start) : Inner n D start (h start) start p h where
  lt := O.perm.1
  to_lt := hs
  moves := hne
  inj := fun i j hi hj _ _ e => O.perm.2 i j hi hj e
  done := O.done
  goal := fun i hi _ => by
    by_cases e : p i = start
    · rw [if_pos e, ← O.goal i hi, e]
    · rw [if_neg e, O.goal i hi]
  first := .inl ⟨rfl, hne, fun i hi hi2 e => hi2 (O.perm.2 i start hi hs e), (O.goal start hs).symm⟩

/-- One round that goes on: from ≠ start. -/
theorem inner_step {n : Nat} {D p h : Nat → Nat} {start A to : Nat} (I : Inner n D start A to p h) (hs : start < n) (hf : p to ≠ start) :
    Inner n D start A (p to) (upd p to to) (upd h to (h (p to))) := by
  obtain ⟨lt, tl, mv, inj, dn, gl, fi⟩ := I
  have hpt := lt to tl
  rcases fi with ⟨rfl, h1, h2, h3⟩ | ⟨h0, h1, h2, h3⟩
  · -- the first round: to = start
    have hmap : ∀ i, i < n → i ≠ to → p i ≠ p to := h2
    refine ⟨?_, hpt, ?_, ?_, ?_, ?_, .inr ⟨hf, upd_self _ _ _, ?_, ?_⟩⟩
    · intro i hi
      by_cases e : i = to
      · subst e; rw [upd_self]; exact hi
      · rw [upd_other _ _ e]; exact lt i hi
    · rw [upd_other _ _ hf]; exact hmap _ hpt hf
    · intro i j hi hj hi2 hj2 e
      rw [upd_other _ _ hi2, upd_other _ _ hj2] at e
      exact inj i j hi hj hi2 hj2 e
    · intro i hi hin
      rw [upd_other _ _ (by omega)]; exact dn i hi hin
    · intro i hi hi2
      rw [upd_other _ _ hi2, gl i hi hi2]
      by_cases e : p i = to
      · rw [if_pos e, if_pos e]
      · rw [if_neg e, if_neg e, upd_other _ _ e]
    · intro i hi hi2
      rw [upd_other _ _ hi2]; exact hmap i hi hi2
    · rw [upd_self]; exact h3
  · have hmap : ∀ i, i < n → i ≠ start → i ≠ to → p i ≠ p to := fun i hi hi2 hi3 e => hi3 (inj i to hi tl hi2 h0 e)
    refine ⟨?_, hpt, ?_, ?_, ?_, ?_, .inr ⟨hf, ?_, ?_, ?_⟩⟩
    · intro i hi
      by_cases e : i = to
      · subst e; rw [upd_self]; exact hi
      · rw [upd_other _ _ e]; exact lt i hi
    · rw [upd_other _ _ mv]
      exact fun e => mv (inj _ _ hpt tl hf h0 e)
    · intro i j hi hj hi2 hj2 e
      by_cases ei : i = to <;> by_cases ej : j = to
      · omega
      · subst ei; rw [upd_self, upd_other _ _ ej] at e; exact absurd e.symm (h2 j hj hj2)
      · subst ej; rw [upd_self, upd_other _ _ ei] at e; exact absurd e (h2 i hi hi2)
      · rw [upd_other _ _ ei, upd_other _ _ ej] at e; exact inj i j hi hj hi2 hj2 e
    · intro i hi hin
      by_cases e : i = to
      · subst e; exact upd_self _ _ _
      · rw [upd_other _ _ e]; exact dn i hi hin
    · intro i hi hi2
      by_cases e : i = to
      · subst e
        rw [upd_self, if_neg h0, upd_self, gl i hi hi2, if_neg hf]
      · rw [upd_other _ _ e, gl i hi hi2]
        by_cases e2 : p i = start
        · rw [if_pos e2, if_pos e2]
        · rw [if_neg e2, if_neg e2, upd_other _ _ (h2 i hi hi2)]
    · rw [upd_other _ _ (Ne.symm h0)]; exact h1
    · intro i hi hi2
      by_cases e : i = to
      · subst e; rw [upd_self]; exact fun e2 => mv e2.symm
      · rw [upd_other _ _ e]; exact hmap i hi hi2 e
    · rw [upd_other _ _ (Ne.symm h0)]; exact h3

/-- The round that closes the cycle: from = start. -/
theorem inner_end {n : Nat} {D p h : Nat → Nat} {start A to : Nat} (I : Inner n D start A to p h) (hs : start < n) (hf : p to = start) :
    Outer n D (start + 1) (upd p to to) (upd h to A) := by
  obtain ⟨lt, tl, mv, inj, dn, gl, fi⟩ := I
  rcases fi with ⟨rfl, h1, h2, h3⟩ | ⟨h0, h1, h2, h3⟩
  · exact absurd hf h1
  · have hmap : ∀ i, i < n → i ≠ start → i ≠ to → p i ≠ start := fun i hi hi2 hi3 e => hi3 (inj i to hi tl hi2 h0 (by rw [e, hf]))
    have hst : upd p to to start = start := by rw [upd_other _ _ (Ne.symm h0)]; exact h1
    refine ⟨⟨?_, ?_⟩, ?_, ?_⟩
    · intro i hi
      by_cases e : i = to
      · subst e; rw [upd_self]; exact hi
      · rw [upd_other _ _ e]; exact lt i hi
    · intro i j hi hj e
      by_cases ei : i = to <;> by_cases ej : j = to
      · omega
      · subst ei
        rw [upd_self, upd_other _ _ ej] at e
        by_cases ej2 : j = start
        · subst ej2; omega
        · exact absurd e.symm (h2 j hj ej2)
      · subst ej
        rw [upd_self, upd_other _ _ ei] at e
        by_cases ei2 : i = start
        · subst ei2; omega
        · exact absurd e (h2 i hi ei2)
      · rw [upd_other _ _ ei, upd_other _ _ ej] at e
        by_cases ei2 : i = start <;> by_cases ej2 : j = start
        · omega
        · subst ei2; rw [h1] at e; exact absurd e.symm (hmap j hj ej2 ej)
        · subst ej2; rw [h1] at e; exact absurd e (hmap i hi ei2 ei)
        · exact inj i j hi hj ei2 ej2 e
    · intro i hi hin
      by_cases e : i = to
      · subst e; exact upd_self _ _ _
      · by_cases e2 : i = start
        · subst e2; exact hst
        · rw [upd_other _ _ e]; exact dn i (by omega) hin
    · intro i hi
      by_cases e : i = to
      · subst e; rw [upd_self, upd_self, gl i hi h0, if_pos hf]
      · rw [upd_other _ _ e]
        by_cases e2 : i = start
        · subst e2; rw [h1, upd_other _ _ (Ne.symm h0)]; exact h3.symm
        · rw [upd_other _ _ (h2 i hi e2), gl i hi e2, if_neg (hmap i hi e2 e)]

/-- A place that is its own is passed over. -/
theorem outer_skip {n : Nat} {D p h : Nat → Nat} {start : Nat} (O : Outer n D start p h) (he : p start = start) : Outer n D (start + 1) p h :=
  ⟨O.perm, fun i hi hin => by by_cases e : i = start; · subst e; exact he
                              · exact O.done i (by omega) hin, O.goal⟩

theorem outer_first {n : Nat} {p h : Nat → Nat} (hp : IsP n p) : Outer n (fun i => h (p i)) 0 p h :=
  ⟨hp, fun i hi => absurd hi (Nat.not_lt_zero i), fun _ _ => rfl⟩

/-- At the end every place holds what was to come. -/
theorem outer_last {n : Nat} {D p h : Nat → Nat} (O : Outer n D n p h) (i : Nat) (hi : i < n) : p i = i ∧ h i = D i := by
  have e := O.done i hi hi
  have := O.goal i hi
  rw [e] at this
  exact ⟨e, this⟩

end Go.Proofs.Qxb6600065a.Plain

import Derived.KernelRfl
/-! THE PLAIN LAW OF A GROWN FOREST, with no Go in sight: the sizes, the layout tree by tree, the tree that a recursion lays. -/
namespace Go.Proofs.Qxb6609507a.Plain

section
variable (fan : Nat → Nat)

/-- GPUs of a cell of level l. -/
def sz : Nat → Nat
  | 0 => 1
  | l + 1 => sz l * fan (l + 1)
/-- Cells of level l in a tree of level t. -/
def cn (t l : Nat) : Nat := if l ≤ t then sz fan t / sz fan l else 0
def Pos (t : Nat) : Prop := ∀ l, 1 ≤ l → l ≤ t → 0 < fan l
def pr (l : Nat) : Nat → Nat
  | 0 => 1
  | d + 1 => pr l d * fan (l + d + 1)
variable {fan}

theorem Pos.mono {t t' : Nat} (h : Pos fan t) (ht : t' ≤ t) : Pos fan t' := fun l h1 h2 => h l h1 (by omega)
theorem sz_pos : ∀ (t : Nat), Pos fan t → 0 < sz fan t
  | 0, _ => Nat.one_pos
  | t + 1, h => Nat.mul_pos (sz_pos t (h.mono (by omega))) (h (t + 1) (by omega) (Nat.le_refl _))
theorem sz_pr (l : Nat) : ∀ d, sz fan (l + d) = pr fan l d * sz fan l
  | 0 => by show sz fan l = 1 * _; rw [Nat.one_mul]
  | d + 1 => by
    show sz fan (l + d) * fan (l + d + 1) = pr fan l d * fan (l + d + 1) * sz fan l
    rw [sz_pr l d, Nat.mul_right_comm]
theorem cn_pr {l : Nat} (h : 0 < sz fan l) (d : Nat) : cn fan (l + d) l = pr fan l d := by
  unfold cn
  rw [if_pos (by omega), sz_pr, Nat.mul_div_cancel _ h]
theorem pr_front (l : Nat) : ∀ d, pr fan l (d + 1) = fan (l + 1) * pr fan (l + 1) d
  | 0 => by show 1 * fan (l + 0 + 1) = fan (l + 1) * 1; rw [Nat.one_mul, Nat.mul_one]
  | d + 1 => by
    show pr fan l (d + 1) * fan (l + (d + 1) + 1) = fan (l + 1) * (pr fan (l + 1) d * fan (l + 1 + d + 1))
    rw [pr_front l d, Nat.mul_assoc, show l + (d + 1) + 1 = l + 1 + d + 1 by omega]
theorem cn_self {t : Nat} (h : Pos fan t) : cn fan t t = 1 := cn_pr (sz_pos t h) 0
theorem cn_out {t l : Nat} (h : t < l) : cn fan t l = 0 := by unfold cn; rw [if_neg (by omega)]
theorem cn_mul {t l : Nat} (h : Pos fan t) (hl : l < t) : cn fan t l = cn fan t (l + 1) * fan (l + 1) := by
  obtain ⟨d, rfl⟩ : ∃ d, t = l + (d + 1) := ⟨t - l - 1, by omega⟩
  rw [cn_pr (sz_pos l (h.mono (by omega))), pr_front, show l + (d + 1) = l + 1 + d by omega, cn_pr (sz_pos (l + 1) (h.mono (by omega))), Nat.mul_comm]
theorem cn_top {t l : Nat} (h : Pos fan t) (hl : l ≤ t) : cn fan (t + 1) l = fan (t + 1) * cn fan t l := by
  obtain ⟨d, rfl⟩ : ∃ d, t = l + d := ⟨t - l, by omega⟩
  rw [show l + d + 1 = l + (d + 1) by omega, cn_pr (sz_pos l (h.mono (by omega))), cn_pr (sz_pos l (h.mono (by omega)))]
  show pr fan l d * fan (l + d + 1) = _
  rw [Nat.mul_comm]; rfl
theorem cn_sz {t l : Nat} (h : Pos fan t) (hl : l ≤ t) : cn fan t l * sz fan l = sz fan t := by
  obtain ⟨d, rfl⟩ : ∃ d, t = l + d := ⟨t - l, by omega⟩
  rw [cn_pr (sz_pos l (h.mono (by omega))), sz_pr]
theorem cn_le {t l : Nat} : cn fan t l ≤ sz fan t := by
  unfold cn
  split
  · exact Nat.div_le_self _ _
  · omega

variable (fan) (t : Nat → Nat)
/-- Cells of level l in the first j trees. -/
def bs : Nat → Nat → Nat
  | 0, _ => 0
  | j + 1, l => bs j l + cn fan (t j) l
/-- GPUs in the first j trees. -/
def off : Nat → Nat
  | 0 => 0
  | j + 1 => off j + sz fan (t j)
/-- The tree in which the i-th cell of level l lies, among the first m. -/
def tr (l i : Nat) : Nat → Nat
  | 0 => 0
  | m + 1 => if bs fan t m l ≤ i then m else tr l i m
variable {fan t}
theorem bs_mono {j j' : Nat} (h : j ≤ j') (l : Nat) : bs fan t j l ≤ bs fan t j' l := by
  induction j' with
  | zero => obtain rfl : j = 0 := by omega
            exact Nat.le_refl _
  | succ n ih =>
    by_cases e : j = n + 1
    · subst e; exact Nat.le_refl _
    · exact Nat.le_trans (ih (by omega)) (Nat.le_add_right _ _)
theorem off_mono {j j' : Nat} (h : j ≤ j') : off fan t j ≤ off fan t j' := by
  induction j' with
  | zero => obtain rfl : j = 0 := by omega
            exact Nat.le_refl _
  | succ n ih =>
    by_cases e : j = n + 1
    · subst e; exact Nat.le_refl _
    · exact Nat.le_trans (ih (by omega)) (Nat.le_add_right _ _)
theorem bs_le_off (l : Nat) : ∀ j, bs fan t j l ≤ off fan t j
  | 0 => Nat.le_refl _
  | j + 1 => Nat.add_le_add (bs_le_off l j) cn_le
theorem tr_eq {l i j : Nat} (h1 : bs fan t j l ≤ i) (h2 : i < bs fan t (j + 1) l) : ∀ {m}, j < m → tr fan t l i m = j
  | 0, h => by omega
  | m + 1, h => by
    show (if bs fan t m l ≤ i then m else tr fan t l i m) = j
    by_cases e : m = j
    · subst e; rw [if_pos h1]
    · have := bs_mono (fan := fan) (t := t) (show j + 1 ≤ m by omega) l
      rw [if_neg (by omega)]
      exact tr_eq h1 h2 (by omega)

variable (fan t) (M : Nat)
/-- The i-th cell of level l: its first GPU, its parent, its first child, whether it is a root. -/
def F (l i : Nat) : Nat := off fan t (tr fan t l i M) + (i - bs fan t (tr fan t l i M) l) * sz fan l
def Pa (l i : Nat) : Int := if l = t (tr fan t l i M) then -1 else ((bs fan t (tr fan t l i M) (l + 1) + (i - bs fan t (tr fan t l i M) l) / fan (l + 1) : Nat) : Int)
def Ch (l i : Nat) : Int := if l = 0 then -1 else ((bs fan t (tr fan t l i M) (l - 1) + (i - bs fan t (tr fan t l i M) l) * fan l : Nat) : Int)
def Tp (l i : Nat) : Bool := decide (l = t (tr fan t l i M))
variable {fan t M}

theorem lt_bs {j l k : Nat} (hk : k < cn fan (t j) l) : bs fan t j l + k < bs fan t (j + 1) l := by
  show _ < bs fan t j l + cn fan (t j) l
  omega
theorem tr_at {j l k : Nat} (hj : j < M) (hk : k < cn fan (t j) l) : tr fan t l (bs fan t j l + k) M = j :=
  tr_eq (Nat.le_add_right _ _) (lt_bs hk) hj
theorem F_at {j l k : Nat} (hj : j < M) (hk : k < cn fan (t j) l) : F fan t M l (bs fan t j l + k) = off fan t j + k * sz fan l := by
  unfold F
  rw [tr_at hj hk, Nat.add_sub_cancel_left]
theorem Pa_at {j l k : Nat} (hj : j < M) (hk : k < cn fan (t j) l) : Pa fan t M l (bs fan t j l + k) = if l = t j then -1 else ((bs fan t j (l + 1) + k / fan (l + 1) : Nat) : Int) := by
  unfold Pa
  rw [tr_at hj hk, Nat.add_sub_cancel_left]
theorem Ch_at {j l k : Nat} (hj : j < M) (hk : k < cn fan (t j) l) : Ch fan t M l (bs fan t j l + k) = if l = 0 then -1 else ((bs fan t j (l - 1) + k * fan l : Nat) : Int) := by
  unfold Ch
  rw [tr_at hj hk, Nat.add_sub_cancel_left]
theorem Tp_at {j l k : Nat} (hj : j < M) (hk : k < cn fan (t j) l) : Tp fan t M l (bs fan t j l + k) = decide (l = t j) := by
  unfold Tp
  rw [tr_at hj hk]
theorem le_of_lt_cn {T l k : Nat} (hk : k < cn fan T l) : l ≤ T := by
  unfold cn at hk
  split at hk
  · assumption
  · omega

/-- Every cell lies in some tree. -/
theorem in_tree (l : Nat) : ∀ (m i : Nat), i < bs fan t m l → ∃ j k, j < m ∧ k < cn fan (t j) l ∧ i = bs fan t j l + k
  | 0, i, h => absurd h (Nat.not_lt_zero i)
  | m + 1, i, h => by
    have h' : i < bs fan t m l + cn fan (t m) l := h
    by_cases e : i < bs fan t m l
    · obtain ⟨j, k, h1, h2, h3⟩ := in_tree l m i e
      exact ⟨j, k, by omega, h2, h3⟩
    · exact ⟨m, i - bs fan t m l, by omega, by omega, by omega⟩

/-! ### The tree that the recursion lays -/
variable (fan)
/-- What has been taken at each level when the cell of level l itself and q of its children are laid. -/
def stepG (G : Nat → Nat) (l q : Nat) : Nat → Nat := fun l' => if l' < l then G l' + q * cn fan (l - 1) l' else if l' = l then G l' + 1 else G l'
/-- .. when the whole tree under it is laid. -/
def doneG (G : Nat → Nat) (l : Nat) : Nat → Nat := fun l' => if l' ≤ l then G l' + cn fan l l' else G l'
variable {fan}
theorem stepG_zero (G : Nat → Nat) (l : Nat) : stepG fan G l 0 = fun l' => if l' = l then G l' + 1 else G l' := by
  funext l'
  unfold stepG
  by_cases e : l' < l
  · rw [if_pos e, if_neg (by omega)]; omega
  · rw [if_neg e]
theorem stepG_succ (G : Nat → Nat) (l q : Nat) : stepG fan G (l + 1) (q + 1) = doneG fan (stepG fan G (l + 1) q) l := by
  funext l'
  unfold doneG
  by_cases e : l' ≤ l
  · rw [if_pos e]
    unfold stepG
    rw [if_pos (by omega), if_pos (by omega), Nat.add_mul, Nat.one_mul]
    show _ = G l' + q * cn fan l l' + cn fan l l'
    rw [Nat.add_assoc]; rfl
  · rw [if_neg e]
    unfold stepG
    rw [if_neg (show ¬ l' < l + 1 by omega), if_neg (show ¬ l' < l + 1 by omega)]
theorem stepG_all (G : Nat → Nat) (l : Nat) (h : Pos fan (l + 1)) : stepG fan G (l + 1) (fan (l + 1)) = doneG fan G (l + 1) := by
  funext l'
  unfold doneG
  by_cases e : l' ≤ l + 1
  · rw [if_pos e]
    unfold stepG
    by_cases e2 : l' = l + 1
    · subst e2
      rw [if_neg (by omega), if_pos rfl, cn_self h]
    · rw [if_pos (by omega), cn_top (h.mono (by omega)) (by omega)]
      rfl
  · rw [if_neg e]
    unfold stepG
    rw [if_neg (by omega), if_neg (by omega)]
theorem doneG_zero (G : Nat → Nat) : doneG fan G 0 = stepG fan G 0 0 := by
  rw [stepG_zero]
  funext l'
  unfold doneG
  by_cases e : l' = 0
  · subst e; rw [if_pos (Nat.le_refl _), if_pos rfl, cn_self (fun l h1 h2 => by omega)]
  · rw [if_neg (by omega), if_neg e]

variable (fan t M)
/-- The tree of level l that begins where G stands is the layout's: first GPU f, parent p. -/
def Fits : Nat → (Nat → Nat) → Nat → Int → Prop
  | 0, G, f, p => F fan t M 0 (G 0) = f ∧ Pa fan t M 0 (G 0) = p ∧ Tp fan t M 0 (G 0) = decide (p = -1) ∧ Ch fan t M 0 (G 0) = -1
  | l + 1, G, f, p => F fan t M (l + 1) (G (l + 1)) = f ∧ Pa fan t M (l + 1) (G (l + 1)) = p ∧ Tp fan t M (l + 1) (G (l + 1)) = decide (p = -1) ∧ Ch fan t M (l + 1) (G (l + 1)) = G l ∧
      ∀ q, q < fan (l + 1) → Fits l (stepG fan G (l + 1) q) (f + q * sz fan l) (G (l + 1))
variable {fan t M}

theorem natCast_ne_neg (a : Nat) : ((a : Nat) : Int) ≠ -1 := by omega

theorem fits_sub {j : Nat} (hj : j < M) (hp : Pos fan (t j)) : ∀ (l k : Nat) (G : Nat → Nat), l ≤ t j → k < cn fan (t j) l → (∀ l', l' ≤ l → G l' = bs fan t j l' + k * cn fan l l') →
    Fits fan t M l G (off fan t j + k * sz fan l) (if l = t j then -1 else ((bs fan t j (l + 1) + k / fan (l + 1) : Nat) : Int))
  | 0, k, G, hl, hk, hG => by
    have e0 : G 0 = bs fan t j 0 + k := by rw [hG 0 (Nat.le_refl _), cn_self (hp.mono hl), Nat.mul_one]
    refine ⟨?_, ?_, ?_, ?_⟩
    · rw [e0, F_at hj hk]
    · rw [e0, Pa_at hj hk]
    · rw [e0, Tp_at hj hk]
      by_cases e : 0 = t j
      · rw [if_pos e]; simp [e]
      · rw [if_neg e, decide_eq_false e]
        exact (decide_eq_false (natCast_ne_neg _)).symm
    · rw [e0, Ch_at hj hk, if_pos rfl]
  | l + 1, k, G, hl, hk, hG => by
    have hpl : Pos fan (l + 1) := hp.mono hl
    have e1 : G (l + 1) = bs fan t j (l + 1) + k := by rw [hG (l + 1) (Nat.le_refl _), cn_self hpl, Nat.mul_one]
    have hfan : 0 < fan (l + 1) := hp (l + 1) (by omega) hl
    have hcm : cn fan (t j) l = cn fan (t j) (l + 1) * fan (l + 1) := cn_mul hp (by omega)
    refine ⟨?_, ?_, ?_, ?_, ?_⟩
    · rw [e1, F_at hj hk]
    · rw [e1, Pa_at hj hk]
    · rw [e1, Tp_at hj hk]
      by_cases e : l + 1 = t j
      · rw [if_pos e]; simp [e]
      · rw [if_neg e, decide_eq_false e]
        exact (decide_eq_false (natCast_ne_neg _)).symm
    · rw [e1, Ch_at hj hk, if_neg (by omega), hG l (by omega), cn_top (hpl.mono (by omega)) (Nat.le_refl _), cn_self (hpl.mono (by omega)), Nat.mul_one]
      rfl
    · intro q hq
      have hk2 : k * fan (l + 1) + q < cn fan (t j) l := by
        rw [hcm]
        calc k * fan (l + 1) + q < k * fan (l + 1) + fan (l + 1) := by omega
          _ = (k + 1) * fan (l + 1) := by rw [Nat.add_mul, Nat.one_mul]
          _ ≤ cn fan (t j) (l + 1) * fan (l + 1) := Nat.mul_le_mul_right _ hk
      have ih := fits_sub hj hp l (k * fan (l + 1) + q) (stepG fan G (l + 1) q) (by omega) hk2 (by
        intro l' hl'
        unfold stepG
        rw [if_pos (by omega), hG l' (by omega), cn_top (hpl.mono (by omega)) hl', Nat.add_assoc, Nat.add_mul, Nat.mul_assoc]
        rfl)
      rw [if_neg (by omega)] at ih
      have ef : off fan t j + (k * fan (l + 1) + q) * sz fan l = off fan t j + k * sz fan (l + 1) + q * sz fan l := by
        show _ = off fan t j + k * (sz fan l * fan (l + 1)) + q * sz fan l
        rw [Nat.add_mul, Nat.mul_assoc, Nat.mul_comm (fan (l + 1)) (sz fan l), Nat.add_assoc]
      have ep : bs fan t j (l + 1) + (k * fan (l + 1) + q) / fan (l + 1) = G (l + 1) := by
        rw [e1, Nat.mul_comm k, Nat.mul_add_div hfan, Nat.div_eq_of_lt hq]
        rfl
      rw [ef, ep] at ih
      exact ih

theorem fits_root {j : Nat} (hj : j < M) (hp : Pos fan (t j)) : Fits fan t M (t j) (bs fan t j) (off fan t j) (-1) := by
  have h := fits_sub (M := M) hj hp (t j) 0 (bs fan t j) (Nat.le_refl _) (by rw [cn_self hp]; exact Nat.one_pos) (fun l' _ => by rw [Nat.zero_mul]; rfl)
  rwa [if_pos rfl, Nat.zero_mul, Nat.add_zero] at h
theorem doneG_root (j : Nat) : doneG fan (bs fan t j) (t j) = bs fan t (j + 1) := by
  funext l'
  unfold doneG
  show _ = bs fan t j l' + cn fan (t j) l'
  by_cases e : l' ≤ t j
  · rw [if_pos e]
  · rw [if_neg e, cn_out (by omega), Nat.add_zero]

/-! ### Bounds -/
theorem F_lt {l i : Nat} (h : i < bs fan t M l) (hp : ∀ j, j < M → Pos fan (t j)) : F fan t M l i + sz fan l ≤ off fan t M := by
  obtain ⟨j, k, hj, hk, rfl⟩ := in_tree l M i h
  rw [F_at hj hk]
  have h1 := cn_sz (hp j hj) (le_of_lt_cn hk)
  have h2 : (k + 1) * sz fan l ≤ cn fan (t j) l * sz fan l := Nat.mul_le_mul_right _ hk
  have h3 := off_mono (fan := fan) (t := t) (show j + 1 ≤ M by omega)
  have h4 : off fan t (j + 1) = off fan t j + sz fan (t j) := rfl
  rw [Nat.add_mul, Nat.one_mul] at h2
  omega
theorem Pa_lt {l i : Nat} (h : i < bs fan t M l) (hp : ∀ j, j < M → Pos fan (t j)) : Pa fan t M l i = -1 ∨ ∃ q : Nat, Pa fan t M l i = q ∧ q < bs fan t M (l + 1) := by
  obtain ⟨j, k, hj, hk, rfl⟩ := in_tree l M i h
  rw [Pa_at hj hk]
  by_cases e : l = t j
  · exact .inl (by rw [if_pos e])
  · refine .inr ⟨_, by rw [if_neg e], ?_⟩
    have hl := le_of_lt_cn hk
    have hk' : k < fan (l + 1) * cn fan (t j) (l + 1) := by rw [Nat.mul_comm, ← cn_mul (hp j hj) (by omega)]; exact hk
    have h1 : k / fan (l + 1) < cn fan (t j) (l + 1) := Nat.div_lt_of_lt_mul hk'
    have h3 := bs_mono (fan := fan) (t := t) (show j + 1 ≤ M by omega) (l + 1)
    have := lt_bs (fan := fan) (t := t) h1
    omega
theorem Ch_lt {l i : Nat} (h : i < bs fan t M l) (hp : ∀ j, j < M → Pos fan (t j)) : Ch fan t M l i = -1 ∨ ∃ q : Nat, Ch fan t M l i = q ∧ q ≤ bs fan t M (l - 1) := by
  obtain ⟨j, k, hj, hk, rfl⟩ := in_tree l M i h
  rw [Ch_at hj hk]
  by_cases e : l = 0
  · exact .inl (by rw [if_pos e])
  · refine .inr ⟨_, by rw [if_neg e], ?_⟩
    obtain ⟨m, rfl⟩ : ∃ m, l = m + 1 := ⟨l - 1, by omega⟩
    have hl := le_of_lt_cn hk
    have h1 : cn fan (t j) m = cn fan (t j) (m + 1) * fan (m + 1) := cn_mul (hp j hj) (by omega)
    have h2 : k * fan (m + 1) ≤ cn fan (t j) (m + 1) * fan (m + 1) := Nat.mul_le_mul_right _ (by omega)
    have h3 := bs_mono (fan := fan) (t := t) (show j + 1 ≤ M by omega) m
    have h4 : bs fan t (j + 1) m = bs fan t j m + cn fan (t j) m := rfl
    show bs fan t j m + k * fan (m + 1) ≤ bs fan t M m
    omega

/-! ### The cells that are no roots -/
/-- How many of the first i cells of level l are no roots. -/
def nt (fan t : Nat → Nat) (M l : Nat) : Nat → Nat
  | 0 => 0
  | i + 1 => nt fan t M l i + if Tp fan t M l i = true then 0 else 1
theorem nt_le (fan t : Nat → Nat) (M l : Nat) : ∀ i, nt fan t M l i ≤ i
  | 0 => Nat.le_refl _
  | i + 1 => by
    have := nt_le fan t M l i
    show nt fan t M l i + _ ≤ i + 1
    split <;> omega
theorem nt_run {l i d : Nat} (b : Bool) (h : ∀ k, k < d → Tp fan t M l (i + k) = b) : nt fan t M l (i + d) = nt fan t M l i + if b = true then 0 else d := by
  induction d with
  | zero => show nt fan t M l i = _; split <;> rfl
  | succ d ih =>
    show nt fan t M l (i + d) + (if Tp fan t M l (i + d) = true then 0 else 1) = _
    rw [ih (fun k hk => h k (by omega)), h d (by omega)]
    cases b <;> simp <;> omega
theorem nt_bs (hp : ∀ j, j < M → Pos fan (t j)) (l : Nat) : ∀ j, j ≤ M → nt fan t M l (bs fan t j l) = bs fan t j (l + 1) * fan (l + 1)
  | 0, _ => by show 0 = 0 * _; rw [Nat.zero_mul]
  | j + 1, h => by
    show nt fan t M l (bs fan t j l + cn fan (t j) l) = (bs fan t j (l + 1) + cn fan (t j) (l + 1)) * fan (l + 1)
    rw [nt_run (decide (l = t j)) (fun k hk => Tp_at (by omega) hk), nt_bs hp l j (by omega), Nat.add_mul]
    congr 1
    by_cases e : l = t j
    · rw [if_pos (by simpa using e), cn_out (by omega), Nat.zero_mul]
    · rw [if_neg (by simpa using e)]
      by_cases e2 : l < t j
      · exact cn_mul (hp j (by omega)) e2
      · rw [cn_out (by omega), cn_out (by omega), Nat.zero_mul]
end
end Go.Proofs.Qxb6609507a.Plain

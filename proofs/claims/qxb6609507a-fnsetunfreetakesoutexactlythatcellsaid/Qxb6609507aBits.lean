import Derived.KernelRfl
/-! SETS OF NUMBERS BY WORDS, with summaries above them: the plain law. -/
namespace Go.Proofs.Qxb6609507a.Plain

/-- The number whose bits below n are f's. -/
def bsum (f : Nat → Bool) : Nat → Nat
  | 0 => 0
  | b + 1 => bsum f b + if f b = true then 2 ^ b else 0
def word (f : Nat → Bool) : Nat := bsum f 64
theorem bsum_lt (f : Nat → Bool) : ∀ n, bsum f n < 2 ^ n
  | 0 => Nat.one_pos
  | n + 1 => by
    have := bsum_lt f n
    have e : 2 ^ (n + 1) = 2 ^ n + 2 ^ n := by rw [Nat.pow_succ]; omega
    show bsum f n + (if f n = true then 2 ^ n else 0) < _
    split <;> omega
theorem bsum_bit (f : Nat → Bool) : ∀ n b, (bsum f n).testBit b = (decide (b < n) && f b)
  | 0, b => by show (0 : Nat).testBit b = _; simp
  | n + 1, b => by
    have hlt := bsum_lt f n
    have ih := bsum_bit f n b
    show (bsum f n + (if f n = true then 2 ^ n else 0)).testBit b = _
    by_cases hf : f n = true
    · rw [if_pos hf, Nat.add_comm]
      rcases Nat.lt_trichotomy b n with h | h | h
      · rw [Nat.testBit_two_pow_add_gt h, ih, decide_eq_true h, decide_eq_true (show b < n + 1 by omega)]
      · subst h
        rw [Nat.testBit_two_pow_add_eq, Nat.testBit_lt_two_pow hlt, hf, decide_eq_true (Nat.lt_succ_self b)]; rfl
      · rw [decide_eq_false (show ¬ b < n + 1 by omega), Bool.false_and]
        refine Nat.testBit_lt_two_pow (Nat.lt_of_lt_of_le ?_ (Nat.pow_le_pow_right (by omega) (show n + 1 ≤ b by omega)))
        rw [Nat.pow_succ]; omega
    · rw [if_neg hf, Nat.add_zero, ih]
      by_cases h : b = n
      · subst h
        have hf' : f b = false := by simpa using hf
        rw [hf', Bool.and_false, Bool.and_false]
      · by_cases h2 : b < n
        · rw [decide_eq_true h2, decide_eq_true (show b < n + 1 by omega)]
        · rw [decide_eq_false h2, decide_eq_false (show ¬ b < n + 1 by omega)]
theorem word_lt (f : Nat → Bool) : word f < 18446744073709551616 := bsum_lt f 64
theorem word_bit (f : Nat → Bool) (b : Nat) : (word f).testBit b = (decide (b < 64) && f b) := bsum_bit f 64 b
theorem word_congr {f g : Nat → Bool} (h : ∀ b, b < 64 → f b = g b) : word f = word g := by
  refine Nat.eq_of_testBit_eq fun b => ?_
  rw [word_bit, word_bit]
  by_cases hb : b < 64
  · rw [h b hb]
  · rw [decide_eq_false hb, Bool.false_and, Bool.false_and]
theorem word_zero_iff (f : Nat → Bool) : word f = 0 ↔ ∀ b, b < 64 → f b = false := by
  constructor
  · intro h b hb
    have := word_bit f b
    rw [h, Nat.zero_testBit, decide_eq_true hb, Bool.true_and] at this
    exact this.symm
  · intro h
    refine Nat.eq_of_testBit_eq fun b => ?_
    rw [word_bit, Nat.zero_testBit]
    by_cases hb : b < 64
    · rw [h b hb, Bool.and_false]
    · rw [decide_eq_false hb, Bool.false_and]
theorem word_ne_of {f : Nat → Bool} {b : Nat} (hb : b < 64) (h : f b = true) : word f ≠ 0 := fun e => by
  have := (word_zero_iff f).1 e b hb
  rw [h] at this; cases this
theorem word_or (f : Nat → Bool) (b : Nat) (hb : b < 64) : word f ||| 2 ^ b = word (fun c => f c || decide (c = b)) := by
  refine Nat.eq_of_testBit_eq fun c => ?_
  rw [Nat.testBit_or, word_bit, word_bit, Nat.testBit_two_pow]
  by_cases e : c = b
  · subst e; simp [hb]
  · have e2 : ¬ b = c := fun h => e h.symm
    simp [e, e2]
/-- The bits of f but bit b. -/
theorem word_sub (f : Nat → Bool) (b : Nat) (x : Nat) (hx : ∀ c, x.testBit c = ((word f).testBit c && !decide (c = b))) : x = word (fun c => f c && !decide (c = b)) := by
  refine Nat.eq_of_testBit_eq fun c => ?_
  rw [hx, word_bit, word_bit, Bool.and_assoc]

section
variable (wl : Nat → Nat)
/-- The bits that level k is to show: the numbers themselves; above, the words below that are not 0. -/
def Z (S : Nat → Bool) (X : Nat → Nat → Nat) : Nat → Nat → Bool
  | 0, i => S i
  | k + 1, i => decide (i < wl k) && decide (X k i ≠ 0)
def Ok (D : Nat) (S : Nat → Bool) (X : Nat → Nat → Nat) : Prop := ∀ k, k < D → ∀ j, j < wl k → X k j = word (fun b => Z wl S X k (64 * j + b))
def upd2 (X : Nat → Nat → Nat) (k j v : Nat) : Nat → Nat → Nat := fun k' j' => if k' = k ∧ j' = j then v else X k' j'
variable {wl} {D : Nat} {S : Nat → Bool} {X : Nat → Nat → Nat}
theorem upd2_self (X : Nat → Nat → Nat) (k j v : Nat) : upd2 X k j v k j = v := by unfold upd2; rw [if_pos ⟨rfl, rfl⟩]
theorem upd2_row (X : Nat → Nat → Nat) {k j v k' j' : Nat} (h : k' ≠ k) : upd2 X k j v k' j' = X k' j' := by unfold upd2; rw [if_neg (fun e => h e.1)]
theorem upd2_col (X : Nat → Nat → Nat) {k j v k' j' : Nat} (h : j' ≠ j) : upd2 X k j v k' j' = X k' j' := by unfold upd2; rw [if_neg (fun e => h e.2)]
theorem Z_upd2 {k j v k' i : Nat} (h : k' ≠ k + 1) : Z wl S (upd2 X k j v) k' i = Z wl S X k' i := by
  cases k' with
  | zero => rfl
  | succ n => show (decide (i < wl n) && decide (upd2 X k j v n i ≠ 0)) = _; rw [upd2_row X (by omega)]; rfl

/-- Level k is to be given the bit ik; all else is right. -/
structure AddInv (wl : Nat → Nat) (D : Nat) (S : Nat → Bool) (k ik : Nat) (X : Nat → Nat → Nat) : Prop where
  others : ∀ k', k' < D → k' ≠ k → ∀ j, j < wl k' → X k' j = word (fun b => Z wl S X k' (64 * j + b))
  here : ∀ j, j < wl k → X k j = word (fun b => Z wl S X k (64 * j + b) && !decide (64 * j + b = ik))
  isIn : Z wl S X k ik = true
  lt : ik / 64 < wl k

theorem add_start {i : Nat} (h : Ok wl D S X) (hD : 0 < D) (hi : S i = false) (hlt : i / 64 < wl 0) : AddInv wl D (fun x => S x || decide (x = i)) 0 i X where
  others := fun k' hk hne j hj => by
    rw [h k' hk j hj]
    obtain ⟨n, rfl⟩ : ∃ n, k' = n + 1 := ⟨k' - 1, by omega⟩
    rfl
  here := fun j hj => by
    rw [h 0 hD j hj]
    refine word_congr fun b _ => ?_
    show S (64 * j + b) = ((S (64 * j + b) || decide (64 * j + b = i)) && !decide (64 * j + b = i))
    by_cases e : 64 * j + b = i
    · rw [e, hi]; simp
    · simp [e]
  isIn := by show (S i || decide (i = i)) = true; simp
  lt := hlt

theorem here_set {k ik : Nat} (h : AddInv wl D S k ik X) (j : Nat) (hj : j < wl k) :
    upd2 X k (ik / 64) (X k (ik / 64) ||| 2 ^ (ik % 64)) k j = word (fun b => Z wl S X k (64 * j + b)) := by
  by_cases e : j = ik / 64
  · subst e
    rw [upd2_self, h.here _ hj, word_or _ _ (by omega)]
    refine word_congr fun b hb => ?_
    by_cases e2 : b = ik % 64
    · subst e2
      have e3 : 64 * (ik / 64) + ik % 64 = ik := Nat.div_add_mod ik 64
      rw [e3, h.isIn]; simp
    · have e3 : 64 * (ik / 64) + b ≠ ik := by omega
      simp [e2, e3]
  · rw [upd2_col X e, h.here j hj]
    refine word_congr fun b hb => ?_
    have e3 : 64 * j + b ≠ ik := by omega
    simp [e3]

/-- The word was not 0: all is right. -/
theorem add_stop {k ik : Nat} (h : AddInv wl D S k ik X) (hk : k < D) (hw : X k (ik / 64) ≠ 0) : Ok wl D S (upd2 X k (ik / 64) (X k (ik / 64) ||| 2 ^ (ik % 64))) := by
  intro k' hk' j hj
  by_cases e : k' = k
  · subst e
    rw [here_set h j hj]
    exact word_congr fun b _ => (Z_upd2 (by omega)).symm
  · rw [upd2_row X e, h.others k' hk' e j hj]
    refine word_congr fun b hb => ?_
    by_cases e2 : k' = k + 1
    · subst e2
      show (decide (64 * j + b < wl k) && decide (X k (64 * j + b) ≠ 0)) = (decide (64 * j + b < wl k) && decide (upd2 X k (ik / 64) (X k (ik / 64) ||| 2 ^ (ik % 64)) k (64 * j + b) ≠ 0))
      by_cases e3 : 64 * j + b = ik / 64
      · rw [e3, upd2_self]
        have : X k (ik / 64) ||| 2 ^ (ik % 64) ≠ 0 := by
          have := here_set h (ik / 64) h.lt
          rw [upd2_self] at this
          rw [this]
          refine word_ne_of (b := ik % 64) (by omega) ?_
          show Z wl S X k (64 * (ik / 64) + ik % 64) = true
          rw [Nat.div_add_mod]; exact h.isIn
        rw [decide_eq_true hw, decide_eq_true this]
      · rw [upd2_col X e3]
    · exact (Z_upd2 e2).symm

/-- The word was 0 and there is a level above. -/
theorem add_go {k ik : Nat} (h : AddInv wl D S k ik X) (hk : k + 1 < D) (hw : X k (ik / 64) = 0) (hwl : wl k ≤ 64 * wl (k + 1)) :
    AddInv wl D S (k + 1) (ik / 64) (upd2 X k (ik / 64) (X k (ik / 64) ||| 2 ^ (ik % 64))) where
  others := fun k' hk' hne j hj => by
    by_cases e : k' = k
    · subst e
      rw [here_set h j hj]
      exact word_congr fun b _ => (Z_upd2 (by omega)).symm
    · rw [upd2_row X e, h.others k' hk' e j hj]
      exact word_congr fun b hb => (Z_upd2 hne).symm
  here := fun j hj => by
    rw [upd2_row X (by omega), h.others (k + 1) hk (by omega) j hj]
    refine word_congr fun b hb => ?_
    show (decide (64 * j + b < wl k) && decide (X k (64 * j + b) ≠ 0)) = ((decide (64 * j + b < wl k) && decide (upd2 X k (ik / 64) (X k (ik / 64) ||| 2 ^ (ik % 64)) k (64 * j + b) ≠ 0)) && !decide (64 * j + b = ik / 64))
    by_cases e3 : 64 * j + b = ik / 64
    · rw [e3, hw]; simp
    · rw [upd2_col X e3]; simp [e3]
  isIn := by
    show (decide (ik / 64 < wl k) && decide (upd2 X k (ik / 64) (X k (ik / 64) ||| 2 ^ (ik % 64)) k (ik / 64) ≠ 0)) = true
    have := here_set h (ik / 64) h.lt
    rw [this, decide_eq_true h.lt, Bool.true_and]
    refine decide_eq_true (word_ne_of (b := ik % 64) (by omega) ?_)
    show Z wl S X k (64 * (ik / 64) + ik % 64) = true
    rw [Nat.div_add_mod]; exact h.isIn
  lt := by have := h.lt; omega

/-- .. and there is none. -/
theorem add_last {k ik : Nat} (h : AddInv wl D S k ik X) (hk : k + 1 = D) : Ok wl D S (upd2 X k (ik / 64) (X k (ik / 64) ||| 2 ^ (ik % 64))) := by
  intro k' hk' j hj
  by_cases e : k' = k
  · subst e
    rw [here_set h j hj]
    exact word_congr fun b _ => (Z_upd2 (by omega)).symm
  · rw [upd2_row X e, h.others k' hk' e j hj]
    exact word_congr fun b hb => (Z_upd2 (by omega)).symm

/-- Level k is to lose the bit ik; all else is right. -/
structure DelInv (wl : Nat → Nat) (D : Nat) (S : Nat → Bool) (k ik : Nat) (X : Nat → Nat → Nat) : Prop where
  others : ∀ k', k' < D → k' ≠ k → ∀ j, j < wl k' → X k' j = word (fun b => Z wl S X k' (64 * j + b))
  here : ∀ j, j < wl k → X k j = word (fun b => Z wl S X k (64 * j + b) || decide (64 * j + b = ik))
  isOut : Z wl S X k ik = false
  lt : ik / 64 < wl k

theorem del_start {i : Nat} (h : Ok wl D S X) (hD : 0 < D) (hi : S i = true) (hlt : i / 64 < wl 0) : DelInv wl D (fun x => S x && !decide (x = i)) 0 i X where
  others := fun k' hk hne j hj => by
    rw [h k' hk j hj]
    obtain ⟨n, rfl⟩ : ∃ n, k' = n + 1 := ⟨k' - 1, by omega⟩
    rfl
  here := fun j hj => by
    rw [h 0 hD j hj]
    refine word_congr fun b _ => ?_
    show S (64 * j + b) = ((S (64 * j + b) && !decide (64 * j + b = i)) || decide (64 * j + b = i))
    by_cases e : 64 * j + b = i
    · rw [e, hi]; simp
    · simp [e]
  isOut := by show (S i && !decide (i = i)) = false; simp
  lt := hlt

variable {y : Nat}
theorem here_cut {k ik : Nat} (h : DelInv wl D S k ik X) (hy : ∀ c, y.testBit c = ((X k (ik / 64)).testBit c && !decide (c = ik % 64))) (j : Nat) (hj : j < wl k) :
    upd2 X k (ik / 64) y k j = word (fun b => Z wl S X k (64 * j + b)) := by
  by_cases e : j = ik / 64
  · subst e
    rw [upd2_self]
    have e1 := word_sub (fun b => Z wl S X k (64 * (ik / 64) + b) || decide (64 * (ik / 64) + b = ik)) (ik % 64) y (fun c => by rw [hy, h.here _ hj])
    rw [e1]
    refine word_congr fun b hb => ?_
    by_cases e2 : b = ik % 64
    · subst e2
      have e3 : 64 * (ik / 64) + ik % 64 = ik := Nat.div_add_mod ik 64
      rw [e3, h.isOut]; simp
    · have e3 : 64 * (ik / 64) + b ≠ ik := by omega
      simp [e2, e3]
  · rw [upd2_col X e, h.here j hj]
    refine word_congr fun b hb => ?_
    have e3 : 64 * j + b ≠ ik := by omega
    simp [e3]
theorem was_ne {k ik : Nat} (h : DelInv wl D S k ik X) : X k (ik / 64) ≠ 0 := by
  rw [h.here _ h.lt]
  refine word_ne_of (b := ik % 64) (by omega) ?_
  show (Z wl S X k (64 * (ik / 64) + ik % 64) || decide (64 * (ik / 64) + ik % 64 = ik)) = true
  rw [Nat.div_add_mod]; simp

theorem del_stop {k ik : Nat} (h : DelInv wl D S k ik X) (hk : k < D) (hy : ∀ c, y.testBit c = ((X k (ik / 64)).testBit c && !decide (c = ik % 64))) (hw : y ≠ 0) : Ok wl D S (upd2 X k (ik / 64) y) := by
  intro k' hk' j hj
  by_cases e : k' = k
  · subst e
    rw [here_cut h hy j hj]
    exact word_congr fun b _ => (Z_upd2 (by omega)).symm
  · rw [upd2_row X e, h.others k' hk' e j hj]
    refine word_congr fun b hb => ?_
    by_cases e2 : k' = k + 1
    · subst e2
      show (decide (64 * j + b < wl k) && decide (X k (64 * j + b) ≠ 0)) = (decide (64 * j + b < wl k) && decide (upd2 X k (ik / 64) y k (64 * j + b) ≠ 0))
      by_cases e3 : 64 * j + b = ik / 64
      · rw [e3, upd2_self, decide_eq_true (was_ne h), decide_eq_true hw]
      · rw [upd2_col X e3]
    · exact (Z_upd2 e2).symm
theorem del_go {k ik : Nat} (h : DelInv wl D S k ik X) (hk : k + 1 < D) (hy : ∀ c, y.testBit c = ((X k (ik / 64)).testBit c && !decide (c = ik % 64))) (hw : y = 0) (hwl : wl k ≤ 64 * wl (k + 1)) :
    DelInv wl D S (k + 1) (ik / 64) (upd2 X k (ik / 64) y) where
  others := fun k' hk' hne j hj => by
    by_cases e : k' = k
    · subst e
      rw [here_cut h hy j hj]
      exact word_congr fun b _ => (Z_upd2 (by omega)).symm
    · rw [upd2_row X e, h.others k' hk' e j hj]
      exact word_congr fun b hb => (Z_upd2 hne).symm
  here := fun j hj => by
    rw [upd2_row X (by omega), h.others (k + 1) hk (by omega) j hj]
    refine word_congr fun b hb => ?_
    show (decide (64 * j + b < wl k) && decide (X k (64 * j + b) ≠ 0)) = ((decide (64 * j + b < wl k) && decide (upd2 X k (ik / 64) y k (64 * j + b) ≠ 0)) || decide (64 * j + b = ik / 64))
    by_cases e3 : 64 * j + b = ik / 64
    · rw [e3, decide_eq_true (was_ne h), decide_eq_true h.lt]; simp
    · rw [upd2_col X e3]; simp [e3]
  isOut := by
    show (decide (ik / 64 < wl k) && decide (upd2 X k (ik / 64) y k (ik / 64) ≠ 0)) = false
    rw [upd2_self, hw]; simp
  lt := by have := h.lt; omega
theorem del_last {k ik : Nat} (h : DelInv wl D S k ik X) (hk : k + 1 = D) (hy : ∀ c, y.testBit c = ((X k (ik / 64)).testBit c && !decide (c = ik % 64))) : Ok wl D S (upd2 X k (ik / 64) y) := by
  intro k' hk' j hj
  by_cases e : k' = k
  · subst e
    rw [here_cut h hy j hj]
    exact word_congr fun b _ => (Z_upd2 (by omega)).symm
  · rw [upd2_row X e, h.others k' hk' e j hj]
    exact word_congr fun b hb => (Z_upd2 (by omega)).symm
end

/-! ### How many words each level has -/
def wlen (n : Nat) : Nat → Nat
  | 0 => max ((n + 63) / 64) 1
  | k + 1 => (wlen n k + 63) / 64
theorem wlen_pos (n : Nat) : ∀ k, 1 ≤ wlen n k
  | 0 => Nat.le_max_right _ _
  | k + 1 => by have := wlen_pos n k; show 1 ≤ (wlen n k + 63) / 64; omega
theorem wlen_cover (n k : Nat) : wlen n k ≤ 64 * wlen n (k + 1) := by show wlen n k ≤ 64 * ((wlen n k + 63) / 64); omega
theorem wlen_zero (n : Nat) : n ≤ 64 * wlen n 0 := by show n ≤ 64 * max ((n + 63) / 64) 1; omega
/-- D levels: the last, and only it, has one word. -/
def IsDepth (n D : Nat) : Prop := 0 < D ∧ wlen n (D - 1) = 1 ∧ ∀ k, k + 1 < D → 1 < wlen n k

/-- How many of the first n are in S. -/
def cnt (S : Nat → Bool) : Nat → Nat
  | 0 => 0
  | i + 1 => cnt S i + if S i = true then 1 else 0
theorem cnt_le (S : Nat → Bool) : ∀ n, cnt S n ≤ n
  | 0 => Nat.le_refl _
  | n + 1 => by have := cnt_le S n; show cnt S n + _ ≤ n + 1; split <;> omega
theorem cnt_congr {S T : Nat → Bool} : ∀ {n}, (∀ i, i < n → S i = T i) → cnt S n = cnt T n
  | 0, _ => rfl
  | n + 1, h => by show cnt S n + _ = cnt T n + _; rw [cnt_congr (n := n) (fun i hi => h i (by omega)), h n (by omega)]
theorem cnt_add {S : Nat → Bool} {i : Nat} (hS : S i = false) : ∀ {n}, i < n → cnt (fun x => S x || decide (x = i)) n = cnt S n + 1
  | 0, h => by omega
  | n + 1, h => by
    show cnt _ n + (if (S n || decide (n = i)) = true then 1 else 0) = cnt S n + (if S n = true then 1 else 0) + 1
    by_cases e : n = i
    · subst e
      rw [cnt_congr (T := S) (fun x hx => by simp [Nat.ne_of_lt hx]), hS]; simp
    · rw [cnt_add hS (by omega)]; simp [e]; omega
theorem cnt_del {S : Nat → Bool} {i : Nat} (hS : S i = true) : ∀ {n}, i < n → cnt (fun x => S x && !decide (x = i)) n + 1 = cnt S n
  | 0, h => by omega
  | n + 1, h => by
    show cnt _ n + (if (S n && !decide (n = i)) = true then 1 else 0) + 1 = cnt S n + (if S n = true then 1 else 0)
    by_cases e : n = i
    · subst e
      rw [cnt_congr (T := S) (fun x hx => by simp [Nat.ne_of_lt hx]), hS]; simp
    · have := cnt_del hS (n := n) (by omega); simp [e]; omega
end Go.Proofs.Qxb6609507a.Plain

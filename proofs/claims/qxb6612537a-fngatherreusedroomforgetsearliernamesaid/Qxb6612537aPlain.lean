import Derived.KernelRfl
import Derived.Lib.Bytealg
/-! NAMES AND THEIR ORDER, with no Go in sight. -/
namespace Go.Proofs.Qxb6612537a.Plain
open Go.Lib

abbrev Nm := List UInt8

/-! ### The order of names -/
def le (a b : Nm) : Prop := compareBytes a b ≤ 0
def lt (a b : Nm) : Prop := compareBytes a b < 0
theorem cmp_self : ∀ a : Nm, compareBytes a a = 0
  | [] => rfl
  | a :: as => by
    show (if a < a then (-1 : Int) else if a < a then 1 else compareBytes as as) = 0
    rw [if_neg (UInt8.lt_irrefl a), if_neg (UInt8.lt_irrefl a)]
    exact cmp_self as
theorem cmp_bounds : ∀ a b : Nm, compareBytes a b = -1 ∨ compareBytes a b = 0 ∨ compareBytes a b = 1
  | [], [] => .inr (.inl rfl)
  | [], _ :: _ => .inl rfl
  | _ :: _, [] => .inr (.inr rfl)
  | a :: as, b :: bs => by
    show (if a < b then (-1 : Int) else if b < a then 1 else compareBytes as bs) = -1 ∨ _ = 0 ∨ _ = 1
    have e : compareBytes (a :: as) (b :: bs) = if a < b then (-1 : Int) else if b < a then 1 else compareBytes as bs := rfl
    rw [e]
    split
    · exact .inl rfl
    · split
      · exact .inr (.inr rfl)
      · exact cmp_bounds as bs
theorem cmp_eq : ∀ {a b : Nm}, compareBytes a b = 0 → a = b
  | [], [], _ => rfl
  | [], _ :: _, h => by cases h
  | _ :: _, [], h => by cases h
  | a :: as, b :: bs, h => by
    have e : compareBytes (a :: as) (b :: bs) = if a < b then (-1 : Int) else if b < a then 1 else compareBytes as bs := rfl
    rw [e] at h
    by_cases h1 : a < b
    · rw [if_pos h1] at h; cases h
    · rw [if_neg h1] at h
      by_cases h2 : b < a
      · rw [if_pos h2] at h; cases h
      · rw [if_neg h2] at h
        have hab : a = b := UInt8.le_antisymm (UInt8.not_lt.1 h2) (UInt8.not_lt.1 h1)
        rw [hab, cmp_eq h]
theorem cmp_neg : ∀ a b : Nm, compareBytes b a = - compareBytes a b
  | [], [] => rfl
  | [], _ :: _ => rfl
  | _ :: _, [] => rfl
  | a :: as, b :: bs => by
    have e1 : compareBytes (a :: as) (b :: bs) = if a < b then (-1 : Int) else if b < a then 1 else compareBytes as bs := rfl
    have e2 : compareBytes (b :: bs) (a :: as) = if b < a then (-1 : Int) else if a < b then 1 else compareBytes bs as := rfl
    rw [e1, e2]
    by_cases h1 : a < b
    · have h2 : ¬ b < a := UInt8.not_lt.2 (UInt8.le_of_lt h1)
      rw [if_pos h1, if_neg h2, if_pos h1]; rfl
    · by_cases h2 : b < a
      · simp only [if_pos h2, if_neg h1]
      · rw [if_neg h1, if_neg h2, if_neg h2, if_neg h1, cmp_neg as bs]
theorem lt_trans : ∀ {a b c : Nm}, lt a b → lt b c → lt a c
  | [], [], _, h, _ => absurd h (by unfold lt; rw [cmp_self]; decide)
  | [], _ :: _, [], _, h => absurd h (by show ¬ (1 : Int) < 0; decide)
  | [], _ :: _, _ :: _, _, _ => by show (-1 : Int) < 0; decide
  | _ :: _, [], _, h, _ => absurd h (by show ¬ (1 : Int) < 0; decide)
  | _ :: _, _ :: _, [], _, h => absurd h (by show ¬ (1 : Int) < 0; decide)
  | a :: as, b :: bs, c :: cs, h1, h2 => by
    unfold lt at h1 h2 ⊢
    have e1 : compareBytes (a :: as) (b :: bs) = if a < b then (-1 : Int) else if b < a then 1 else compareBytes as bs := rfl
    have e2 : compareBytes (b :: bs) (c :: cs) = if b < c then (-1 : Int) else if c < b then 1 else compareBytes bs cs := rfl
    have e3 : compareBytes (a :: as) (c :: cs) = if a < c then (-1 : Int) else if c < a then 1 else compareBytes as cs := rfl
    rw [e1] at h1
    rw [e2] at h2
    rw [e3]
    by_cases ab : a < b
    · by_cases bc : b < c
      · rw [if_pos (UInt8.lt_trans ab bc)]; decide
      · rw [if_neg bc] at h2
        by_cases cb : c < b
        · rw [if_pos cb] at h2; exact absurd h2 (by decide)
        · have hbc : b = c := UInt8.le_antisymm (UInt8.not_lt.1 cb) (UInt8.not_lt.1 bc)
          rw [← hbc, if_pos ab]; decide
    · rw [if_neg ab] at h1
      by_cases ba : b < a
      · rw [if_pos ba] at h1; exact absurd h1 (by decide)
      · rw [if_neg ba] at h1
        have hab : a = b := UInt8.le_antisymm (UInt8.not_lt.1 ba) (UInt8.not_lt.1 ab)
        rw [hab]
        by_cases bc : b < c
        · rw [if_pos bc]; decide
        · rw [if_neg bc] at h2 ⊢
          by_cases cb : c < b
          · rw [if_pos cb] at h2; exact absurd h2 (by decide)
          · rw [if_neg cb] at h2 ⊢
            exact lt_trans (a := as) (b := bs) (c := cs) h1 h2
theorem le_of_lt {a b : Nm} (h : lt a b) : le a b := by unfold lt at h; unfold le; omega
theorem lt_or_eq {a b : Nm} (h : le a b) : lt a b ∨ a = b := by
  unfold le at h
  rcases cmp_bounds a b with e | e | e
  · left; unfold lt; omega
  · right; exact cmp_eq e
  · omega
theorem le_trans {a b c : Nm} (h1 : le a b) (h2 : le b c) : le a c := by
  rcases lt_or_eq h1 with h | h
  · rcases lt_or_eq h2 with h' | h'
    · exact le_of_lt (lt_trans h h')
    · rw [← h']; exact h1
  · rw [h]; exact h2
theorem not_le {a b : Nm} : ¬ le a b ↔ lt b a := by
  unfold le lt
  rw [cmp_neg a b]
  rcases cmp_bounds a b with e | e | e <;> rw [e] <;> decide
theorem le_antisymm {a b : Nm} (h1 : le a b) (h2 : le b a) : a = b := by
  rcases lt_or_eq h1 with h | h
  · exact absurd h2 (not_le.2 h)
  · exact h

/-! ### Prefixes -/
/-- What begins with p is not less than p. -/
theorem le_of_prefix : ∀ {p n : Nm}, p <+: n → le p n
  | [], [], _ => by unfold le; rw [cmp_self]; decide
  | [], _ :: _, _ => by show (-1 : Int) ≤ 0; decide
  | a :: as, [], h => by
    obtain ⟨t, ht⟩ := h
    cases ht
  | a :: as, b :: bs, h => by
    obtain ⟨t, ht⟩ := h
    rw [List.cons_append] at ht
    injection ht with h1 h2
    subst h1
    unfold le
    have e : compareBytes (a :: as) (a :: bs) = if a < a then (-1 : Int) else if a < a then 1 else compareBytes as bs := rfl
    rw [e, if_neg (UInt8.lt_irrefl a), if_neg (UInt8.lt_irrefl a)]
    exact le_of_prefix (p := as) (n := bs) ⟨t, h2⟩
/-- Behind the names that begin with p come only names that do not. -/
theorem no_prefix : ∀ {p n m : Nm}, le p n → ¬ p <+: n → le n m → ¬ p <+: m
  | [], n, m, _, h, _ => absurd (List.nil_prefix) h
  | a :: as, [], m, h, _, _ => absurd h (by show ¬ (1 : Int) ≤ 0; decide)
  | a :: as, b :: bs, [], _, _, h => absurd h (by show ¬ (1 : Int) ≤ 0; decide)
  | a :: as, b :: bs, c :: cs, h1, h2, h3 => by
    unfold le at h1 h3
    have e1 : compareBytes (a :: as) (b :: bs) = if a < b then (-1 : Int) else if b < a then 1 else compareBytes as bs := rfl
    have e2 : compareBytes (b :: bs) (c :: cs) = if b < c then (-1 : Int) else if c < b then 1 else compareBytes bs cs := rfl
    rw [e1] at h1
    rw [e2] at h3
    intro hp
    obtain ⟨t, ht⟩ := hp
    rw [List.cons_append] at ht
    injection ht with hac hcs
    subst hac
    by_cases ab : a < b
    · by_cases bc : b < a
      · exact UInt8.lt_irrefl a (UInt8.lt_trans ab bc)
      · rw [if_neg bc, if_pos ab] at h3
        exact absurd h3 (by decide)
    · rw [if_neg ab] at h1
      by_cases ba : b < a
      · rw [if_pos ba] at h1; exact absurd h1 (by decide)
      · rw [if_neg ba] at h1
        have hab : a = b := UInt8.le_antisymm (UInt8.not_lt.1 ba) (UInt8.not_lt.1 ab)
        subst hab
        rw [if_neg (UInt8.lt_irrefl a), if_neg (UInt8.lt_irrefl a)] at h3
        refine no_prefix (p := as) (n := bs) (m := cs) h1 ?_ h3 ⟨t, hcs⟩
        rintro ⟨u, hu⟩
        exact h2 ⟨u, by rw [List.cons_append, hu]⟩

/-! ### Runs of a sorted row -/
/-- The row's names ascend. -/
def Asc (nm : Nat → Nm) (n : Nat) : Prop := ∀ i j, i ≤ j → j < n → le (nm i) (nm j)
theorem asc_of_step {nm : Nat → Nm} {n : Nat} (h : ∀ i, i + 1 < n → le (nm i) (nm (i + 1))) : Asc nm n := by
  intro i j hij
  induction j with
  | zero => intro _; obtain rfl : i = 0 := by omega
            unfold le; rw [cmp_self]; decide
  | succ j ih =>
    intro hj
    by_cases e : i = j + 1
    · subst e; unfold le; rw [cmp_self]; decide
    · exact le_trans (ih (by omega) (by omega)) (h j hj)
/-- i is the first place whose name is not less than f. -/
structure Low (nm : Nat → Nm) (n : Nat) (f : Nm) (i : Nat) : Prop where
  le : i ≤ n
  below : ∀ k, k < i → Plain.lt (nm k) f
  above : ∀ k, i ≤ k → k < n → Plain.le f (nm k)
/-- e is where the run that begins at i and meets q ends. -/
structure Run (q : Nat → Prop) (n i e : Nat) : Prop where
  ge : i ≤ e
  le : e ≤ n
  all : ∀ k, i ≤ k → k < e → q k
  stop : e < n → ¬ q e

/-- The records on a name: just the run. -/
theorem run_eq {nm : Nat → Nm} {n : Nat} {f : Nm} {i e : Nat} (ha : Asc nm n) (hl : Low nm n f i) (hr : Run (fun k => nm k = f) n i e) (k : Nat) (hk : k < n) : (i ≤ k ∧ k < e) ↔ nm k = f := by
  constructor
  · exact fun h => hr.all k h.1 h.2
  · intro h
    have h1 : i ≤ k := by
      refine Nat.not_lt.1 fun hlt => ?_
      have := hl.below k hlt
      rw [h] at this
      unfold Plain.lt at this
      rw [cmp_self] at this
      exact absurd this (by decide)
    refine ⟨h1, Nat.not_le.1 fun hle => ?_⟩
    have he : e < n := by omega
    have h2 : le f (nm e) := hl.above e hr.ge he
    have h3 : le (nm e) (nm k) := ha e k hle hk
    rw [h] at h3
    exact hr.stop he (le_antisymm h3 h2)
/-- The records beneath a name: just the run. -/
theorem run_prefix {nm : Nat → Nm} {n : Nat} {f : Nm} {i e : Nat} (ha : Asc nm n) (hl : Low nm n f i) (hr : Run (fun k => f <+: nm k) n i e) (k : Nat) (hk : k < n) : (i ≤ k ∧ k < e) ↔ f <+: nm k := by
  constructor
  · exact fun h => hr.all k h.1 h.2
  · intro h
    have h1 : i ≤ k := by
      refine Nat.not_lt.1 fun hlt => ?_
      exact absurd (le_of_prefix h) (not_le.2 (hl.below k hlt))
    refine ⟨h1, Nat.not_le.1 fun hle => ?_⟩
    have he : e < n := by omega
    exact no_prefix (hl.above e hr.ge he) (hr.stop he) (ha e k hle hk) h
end Go.Proofs.Qxb6612537a.Plain

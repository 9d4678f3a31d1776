import Derived.Test.Qxb6612537aRel
/-! THE NAMES THAT A NAME IS BENEATH. -/
namespace Go.Proofs.Qxb6612537a.U
open Go.Proofs.Qxb6612537a.Plain
set_option linter.unusedVariables false

/-- n's last dot is at i. -/
def LastDot (n : Nm) (i : Nat) : Prop := n[i]? = some 46 ∧ ∀ k : Nat, i < k → n[k]? ≠ some 46
def NoDot (n : Nm) : Prop := ∀ k : Nat, n[k]? ≠ some 46
theorem lastDot_lt {n : Nm} {i : Nat} (h : LastDot n i) : i < n.length := by
  refine Nat.not_le.1 fun hle => ?_
  have := h.1
  rw [List.getElem?_eq_none hle] at this
  cases this
theorem ben_noDot {n m : Nm} (h : NoDot n) : ¬ Ben n m := fun hb => h _ ((ben_iff n m).1 hb).2.2
theorem ben_last {n m : Nm} {i : Nat} (h : LastDot n i) : Ben n m ↔ m = n.take i ∨ Ben (n.take i) m := by
  have hi := lastDot_lt h
  constructor
  · intro hb
    obtain ⟨h1, h2, h3⟩ := (ben_iff n m).1 hb
    have hle : m.length ≤ i := Nat.not_lt.1 fun hlt => h.2 _ hlt h3
    by_cases e : m.length = i
    · left; rw [← e]; exact h2.symm
    · right
      rw [ben_iff]
      refine ⟨by rw [List.length_take]; omega, ?_, ?_⟩
      · rw [List.take_take, Nat.min_eq_left (by omega)]; exact h2
      · rw [List.getElem?_take_of_lt (by omega)]; exact h3
  · rintro (rfl | hb)
    · rw [ben_iff, List.length_take, Nat.min_eq_left (by omega)]
      exact ⟨hi, rfl, h.1⟩
    · obtain ⟨h1, h2, h3⟩ := (ben_iff _ m).1 hb
      rw [List.length_take] at h1
      rw [ben_iff]
      refine ⟨by omega, ?_, ?_⟩
      · rw [List.take_take, Nat.min_eq_left (by omega)] at h2; exact h2
      · rw [List.getElem?_take_of_lt (by omega)] at h3; exact h3
theorem dot_or (n : Nm) : NoDot n ∨ ∃ i, LastDot n i := by
  have key : ∀ k : Nat, (∀ j : Nat, k ≤ j → n[j]? ≠ some 46) → NoDot n ∨ ∃ i, LastDot n i := by
    intro k
    induction k with
    | zero => exact fun h => .inl fun j => h j (Nat.zero_le _)
    | succ k ih =>
      intro h
      by_cases e : n[k]? = some 46
      · exact .inr ⟨k, e, fun j hj => h j hj⟩
      · exact ih fun j hj => by
          by_cases e2 : j = k
          · rw [e2]; exact e
          · exact h j (by omega)
  exact key n.length fun j hj => by rw [List.getElem?_eq_none hj]; exact fun h => by cases h
end Go.Proofs.Qxb6612537a.U

import Derived.Test.Qxb6612537aHold
/-! WHAT THE MAP HOLDS: of each transaction its strongest lock among the records of S. -/
namespace Go.Proofs.Qxb6612537a.U
open Go.Proofs.Qxb6612537a.Plain
set_option linter.unusedVariables false

structure IsMax (R : Nat → HRec) (S : Nat → Prop) (m : Int → Option Int) : Prop where
  no : ∀ tx, m tx = none → ∀ i, S i → (R i).tx ≠ tx
  ex : ∀ tx r, m tx = some r → ∃ i, S i ∧ (R i).tx = tx ∧ rankOf (R i).sv = r
  ub : ∀ tx r, m tx = some r → ∀ i, S i → (R i).tx = tx → rankOf (R i).sv ≤ r
theorem IsMax.empty (R : Nat → HRec) : IsMax R (fun _ => False) (fun _ => none) :=
  ⟨fun _ _ _ h => h.elim, fun _ _ h => (by cases h), fun _ _ h => (by cases h)⟩
theorem IsMax.congr {R : Nat → HRec} {S S' : Nat → Prop} {m : Int → Option Int} (h : IsMax R S m) (e : ∀ i, S i ↔ S' i) : IsMax R S' m :=
  ⟨fun tx hn i hi => h.no tx hn i ((e i).2 hi), fun tx r hr => let ⟨i, h1, h2⟩ := h.ex tx r hr; ⟨i, (e i).1 h1, h2⟩, fun tx r hr i hi => h.ub tx r hr i ((e i).2 hi)⟩
theorem IsMax.step {R : Nat → HRec} {S : Nat → Prop} {m : Int → Option Int} (h : IsMax R S m) (j : Nat) : IsMax R (fun i => S i ∨ i = j) (upd m (R j).tx (rankOf (R j).sv)) := by
  have hset : (∀ o, m (R j).tx = some o → o < rankOf (R j).sv) → IsMax R (fun i => S i ∨ i = j) (fun t => if t = (R j).tx then some (rankOf (R j).sv) else m t) := by
    intro ho
    refine ⟨fun tx hn i hi => ?_, fun tx r hr => ?_, fun tx r hr i hi ht => ?_⟩
    · by_cases e : tx = (R j).tx
      · rw [if_pos e] at hn; cases hn
      · rw [if_neg e] at hn
        rcases hi with hi | rfl
        · exact h.no tx hn i hi
        · exact fun e' => e e'.symm
    · by_cases e : tx = (R j).tx
      · rw [if_pos e] at hr
        injection hr with hr
        exact ⟨j, .inr rfl, e.symm, hr⟩
      · rw [if_neg e] at hr
        obtain ⟨i, h1, h2⟩ := h.ex tx r hr
        exact ⟨i, .inl h1, h2⟩
    · by_cases e : tx = (R j).tx
      · rw [if_pos e] at hr
        injection hr with hr
        rcases hi with hi | rfl
        · cases hm : m tx with
          | none => exact absurd ht (h.no tx hm i hi)
          | some o =>
            have h1 := h.ub tx o hm i hi ht
            have h2 := ho o (by rw [← e]; exact hm)
            omega
        · omega
      · rw [if_neg e] at hr
        rcases hi with hi | rfl
        · exact h.ub tx r hr i hi ht
        · exact absurd ht.symm e
  unfold upd
  cases hm : m (R j).tx with
  | none => exact hset (fun o h => by rw [hm] at h; cases h)
  | some o =>
    by_cases hlt : o < rankOf (R j).sv
    · simp only [if_pos hlt]
      exact hset (fun o' h' => by rw [hm] at h'; injection h' with h'; omega)
    · simp only [if_neg hlt]
      refine ⟨fun tx hn i hi => ?_, fun tx r hr => ?_, fun tx r hr i hi ht => ?_⟩
      · rcases hi with hi | rfl
        · exact h.no tx hn i hi
        · intro e; rw [← e, hm] at hn; cases hn
      · obtain ⟨i, h1, h2⟩ := h.ex tx r hr
        exact ⟨i, .inl h1, h2⟩
      · rcases hi with hi | rfl
        · exact h.ub tx r hr i hi ht
        · rw [← ht, hm] at hr; injection hr with hr; omega
theorem IsMax.run {R : Nat → HRec} {S : Nat → Prop} {m : Int → Option Int} (h : IsMax R S m) (i0 : Nat) : ∀ n, IsMax R (fun i => S i ∨ (i0 ≤ i ∧ i < i0 + n)) (holdN (fun k => R (i0 + k)) m n)
  | 0 => h.congr fun i => ⟨.inl, fun h => h.elim id (fun h => by omega)⟩
  | n + 1 => ((IsMax.run h i0 n).step (i0 + n)).congr fun i => by
    constructor
    · rintro ((h | h) | h)
      · exact .inl h
      · exact .inr ⟨h.1, by omega⟩
      · exact .inr ⟨by omega, by omega⟩
    · rintro (h | h)
      · exact .inl (.inl h)
      · by_cases e : i = i0 + n
        · exact .inr e
        · exact .inl (.inr ⟨h.1, by omega⟩)
theorem IsMax.uniq {R : Nat → HRec} {S : Nat → Prop} {m m' : Int → Option Int} (h : IsMax R S m) (h' : IsMax R S m') (tx : Int) : m tx = m' tx := by
  cases e : m tx with
  | none =>
    cases e' : m' tx with
    | none => rfl
    | some r =>
      obtain ⟨i, h1, h2, _⟩ := h'.ex tx r e'
      exact absurd h2 (h.no tx e i h1)
  | some r =>
    obtain ⟨i, h1, h2, h3⟩ := h.ex tx r e
    cases e' : m' tx with
    | none => exact absurd h2 (h'.no tx e' i h1)
    | some r' =>
      obtain ⟨i', h1', h2', h3'⟩ := h'.ex tx r' e'
      have a1 := h.ub tx r e i' h1' h2'
      have a2 := h'.ub tx r' e' i h1 h2
      have : r = r' := by omega
      rw [this]
end Go.Proofs.Qxb6612537a.U

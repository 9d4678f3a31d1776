import Derived.Test.Qxb6612537aGSt
import Derived.Test.Qxb6612537aWalkLin
/-! LINEAGE: the names in a row; what may be turned beside gather's state. -/
namespace Go.Proofs.Qxb6612537a.U
open Go.RowKit Go.Proofs.Qxb6612537a.Plain
set_option linter.unusedVariables false
set_option linter.unusedSimpArgs false

theorem linSeq_any : ∀ (z : Nat) (name : ByteArray), name.size ≤ z → ∃ (nm : Nat → ByteArray) (N : Nat), nm 0 = name ∧ LinSeq nm N ∧ (∀ k, k < N → (nm k).size ≤ name.size) ∧ (∀ k, 0 < k → k < N → (nm k).size < name.size) ∧ (∀ i k, i < k → k < N → (nm k).size < (nm i).size) ∧ ∀ x, (∃ k, k < N ∧ x = By (nm k)) ↔ (x = By name ∨ Ben (By name) x) := by
  intro z
  induction z with
  | zero =>
    intro name hz
    have hnd : NoDot (By name) := fun k h => by
      rw [List.getElem?_eq_none (by rw [by_len]; omega)] at h; cases h
    exact ⟨fun _ => name, 1, rfl, ⟨by omega, fun k hk => by omega, fun k hk => hnd⟩, fun _ _ => Nat.le_refl _, fun k h1 h2 => by omega, fun i k h1 h2 => by omega, fun x => ⟨fun ⟨k, _, h⟩ => .inl h, fun h => ⟨0, by omega, h.elim id (fun hb => absurd hb (ben_noDot hnd))⟩⟩⟩
  | succ z ih =>
    intro name hz
    rcases dot_or (By name) with hnd | ⟨i, hi⟩
    · exact ⟨fun _ => name, 1, rfl, ⟨by omega, fun k hk => by omega, fun k hk => hnd⟩, fun _ _ => Nat.le_refl _, fun k h1 h2 => by omega, fun i k h1 h2 => by omega, fun x => ⟨fun ⟨k, _, h⟩ => .inl h, fun h => ⟨0, by omega, h.elim id (fun hb => absurd hb (ben_noDot hnd))⟩⟩⟩
    · have hlt : i < name.size := by have := lastDot_lt hi; rwa [by_len] at this
      have hsz : (name.extract 0 i).size = i := by simp; omega
      obtain ⟨nm, N, h0, hl, h1, h2, h3, h4⟩ := ih (name.extract 0 i) (by omega)
      rw [hsz] at h1 h2
      have hsz0 : (nm 0).size = i := by rw [h0]; exact hsz
      refine ⟨fun k => if k = 0 then name else nm (k - 1), N + 1, rfl, ⟨by omega, fun k hk => ?_, fun k hk => ?_⟩, fun k hk => ?_, fun k hk0 hk => ?_, fun a k hak hk => ?_, fun x => ?_⟩
      · by_cases e : k = 0
        · subst e
          exact ⟨i, hi, by simp [h0]⟩
        · obtain ⟨j, hj, hj2⟩ := hl.2.1 (k - 1) (by omega)
          refine ⟨j, by simpa [e] using hj, ?_⟩
          simp only [if_neg e, if_neg (show ¬ k + 1 = 0 by omega)]
          rw [← hj2]
          congr 1; omega
      · have := hl.1
        have e : k ≠ 0 := by omega
        simp only [if_neg e]
        exact hl.2.2 (k - 1) (by omega)
      · by_cases e : k = 0
        · simp [e]
        · simp only [if_neg e]
          have := h1 (k - 1) (by omega)
          omega
      · have e : k ≠ 0 := by omega
        simp only [if_neg e]
        have := h1 (k - 1) (by omega)
        omega
      · have e : k ≠ 0 := by omega
        simp only [if_neg e]
        by_cases e2 : a = 0
        · simp only [if_pos e2]
          have := h1 (k - 1) (by omega)
          omega
        · simp only [if_neg e2]
          exact h3 _ _ (by omega) (by omega)
      · rw [ben_last hi, ← by_head, ← h4]
        constructor
        · rintro ⟨k, hk, hx⟩
          by_cases e : k = 0
          · exact .inl (by rw [hx]; simp [e])
          · exact .inr ⟨k - 1, by omega, by rw [hx]; simp [e]⟩
        · rintro (hx | ⟨k, hk, hx⟩)
          · exact ⟨0, by omega, by rw [hx]; simp⟩
          · exact ⟨k + 1, by omega, by rw [hx]; simp⟩
/-- The names that have been gone through when the lineage is at its k-th. -/
def Pk (name : ByteArray) (nm : Nat → ByteArray) (k : Nat) (x : Nm) : Prop := ((By name ++ [46]) <+: x) ∨ ∃ i, i < k ∧ x = By (nm i)
theorem Pk_zero (name : ByteArray) (nm : Nat → ByteArray) : Pk name nm 0 = fun x => False ∨ ((By name ++ [46]) <+: x) := by
  funext x
  refine propext ⟨?_, ?_⟩
  · rintro (h | ⟨i, hi, _⟩)
    · exact .inr h
    · omega
  · rintro (h | h)
    · exact h.elim
    · exact .inl h
theorem Pk_succ (name : ByteArray) (nm : Nat → ByteArray) (k : Nat) : (fun x => Pk name nm k x ∨ x = By (nm k)) = Pk name nm (k + 1) := by
  funext x
  refine propext ⟨?_, ?_⟩
  · rintro ((h | ⟨i, hi, h⟩) | h)
    · exact .inl h
    · exact .inr ⟨i, by omega, h⟩
    · exact .inr ⟨k, by omega, h⟩
  · rintro (h | ⟨i, hi, h⟩)
    · exact .inl (.inl h)
    · by_cases e : i = k
      · subst e; exact .inr h
      · exact .inl (.inr ⟨i, by omega, h⟩)
theorem Pk_dis {name : ByteArray} {nm : Nat → ByteArray} {N k : Nat} (hk : k < N) (h1 : ∀ k, k < N → (nm k).size ≤ name.size) (h3 : ∀ i k, i < k → k < N → (nm k).size < (nm i).size) : ∀ x, Pk name nm k x → ¬ x = By (nm k) := by
  rintro x (h | ⟨i, hi, h⟩) rfl
  · have := ((ben_iff (By (nm k)) (By name)).1 h).1
    rw [by_len, by_len] at this
    have := h1 k hk
    omega
  · have e := congrArg List.length h
    rw [by_len, by_len] at e
    have := h3 i k hi hk
    omega
theorem Pk_last {name : ByteArray} {nm : Nat → ByteArray} {N : Nat} (h4 : ∀ x, (∃ k, k < N ∧ x = By (nm k)) ↔ (x = By name ∨ Ben (By name) x)) : Pk name nm N = fun x => Rel x (By name) := by
  funext x
  refine propext ?_
  unfold Pk Rel
  rw [h4]
  constructor
  · rintro (h | h | h)
    · exact .inr (.inl h)
    · exact .inl h
    · exact .inr (.inr h)
  · rintro (h | h | h)
    · exact .inr (.inl h)
    · exact .inl h
    · exact .inr (.inr h)
theorem lineage38_any (name : ByteArray) (w : World) : Calls Try.prog 38 #[.string name] w (fun e w' => e = .returned (.func (.func 53) #[] #[.pointer (some ⟨w.heap.size, 0, none⟩)]) ∧ w' = w.alloc (.cells #[.string name] 9)) := by
  go_enter Try.func38, Try.ntmps38
  go_wp2
  go_ret
  exact ⟨rfl, rfl⟩
/-- Objects that are none of gather's. -/
def Alien : Obj → Prop
  | .cells _ t _ => t = 9
  | .map _ _ => False
  | _ => True
theorem row_alien {w : World} {b b' : Nat} {t : TypeId} {n : Nat} {f : Nat → Value} (h : Row w b' t n f) (ho : ∀ o, w.heap[b]? = some o → Alien o) (ht : t ≠ 9) : b' ≠ b := by
  rintro rfl
  obtain ⟨c, hc, _⟩ := h
  exact ht (ho _ hc)
theorem own_alien {w : World} {b base : Nat} {e : TypeId} {size n : Nat} {v : Value} {xs : List Value} (h : w.ownsRow base e size v n xs) (ho : ∀ o, w.heap[b]? = some o → Alien o) (ht : e ≠ 9) : ∀ k, v.ownBlock = some k → ¬ k = b := by
  rintro k hk rfl
  obtain ⟨_, h | ⟨g, cap, cur, hv, _, hg, _⟩⟩ := h
  · rw [h.1] at hk; cases hk
  · rw [hv] at hk
    have : g = k := by simpa [Value.ownBlock] using hk
    subst this
    exact ht (ho _ hg)
theorem map_alien {w : World} {b MB n : Nat} {m : Int → Option Int} (h : MapIs w MB n m) (ho : ∀ o, w.heap[b]? = some o → Alien o) : MB ≠ b := by
  rintro rfl
  obtain ⟨D, ⟨es, clock, hb, _⟩, _⟩ := h
  exact ho _ hb
theorem GS.other {G : GC} {P Q : Nm → Prop} {w w' : World} {b : Nat} (h : GS G P Q w) (k : Keeps (fun x => x = b) w w') (hb : G.base ≤ b) (ho : ∀ o, w.heap[b]? = some o → Alien o) : GS G P Q w' := by
  obtain ⟨V, n, m, cnt, xs, e, v, p, q⟩ := h
  refine ⟨V, n, m, cnt, xs, ⟨e.xb.keeps k (row_alien e.xb ho (by decide)), e.lb.keeps k (row_alien e.lb ho (by decide)), e.fb.keeps k (row_alien e.fb ho (by decide)), e.gb.keeps k (row_alien e.gb ho (by decide)),
    own_keeps e.oh k (own_alien e.oh ho (by decide)), own_keeps e.ow k (own_alien e.ow ho (by decide)), e.bl.trans (k.below e.hb (by rintro x rfl; exact hb)), Nat.le_trans e.hb k.size⟩,
    ⟨v.st.keeps k (row_alien v.st ho (by decide)), v.mp.keeps k (map_alien v.mp ho), own_keeps v.own k (own_alien v.own ho (by decide)), own_keeps v.oH k (own_alien v.oH ho (by decide)), v.hW, v.hM⟩, p, q⟩
theorem keeps_obj (w : World) (l : Nat) (o : Obj) : Keeps (fun x => x = l) w (w.putObj l o) :=
  ⟨rfl, rfl, rfl, by simp [World.putObj], fun k hk hne => by
    have : l ≠ k := fun e => hne e.symm
    simp [World.putObj, Array.getElem?_setIfInBounds, this]⟩
end Go.Proofs.Qxb6612537a.U

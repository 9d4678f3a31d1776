import Derived.Test.Qxb6612537aAdd
/-! WHAT COMES IN: rows of records. -/
namespace Go.Proofs.Qxb6612537a.U
open Go.RowKit Go.Proofs.Qxb6612537a.Plain
set_option linter.unusedVariables false

structure HRec where
  nm : ByteArray
  sv : ByteArray
  tx : Int
structure WRec where
  nm : ByteArray
  tx : Int
  od : Int
  rk : Int
  up : Bool
def hc (r : HRec) : List Value := [.string r.nm, .string r.sv, .int .i64 r.tx]
def wc (r : WRec) : List Value := [.string r.nm, .int .i64 r.tx, .int .i64 r.od, .int .i64 r.rk, .bool r.up]
/-- n records of size cells each lie from ⟨b, off⟩ on. -/
def Cells (w : World) (b off size n : Nat) (f : Nat → List Value) : Prop :=
  ∀ i, i < n → ∀ j, j < size → w.cell? ⟨b, off + i * size + j, none⟩ = some ((f i).getD j undef)
/-- What a slice that came in holds. -/
def In (w : World) (a : Option Addr) (size n : Nat) (f : Nat → List Value) : Prop :=
  0 < n → ∃ b off, a = some ⟨b, off, none⟩ ∧ b < w.heap.size ∧ Cells w b off size n f
theorem Cells.below {w w' : World} {b off size n B : Nat} {f : Nat → List Value} (h : Cells w b off size n f) (hb : Below B w w') (hlt : b < B) : Cells w' b off size n f :=
  fun i hi j hj => (hb.cell (p := ⟨b, off + i * size + j, none⟩) hlt).trans (h i hi j hj)
theorem Cells.keeps {S : Nat → Prop} {w w' : World} {b off size n : Nat} {f : Nat → List Value} (h : Cells w b off size n f) (k : Keeps S w w') (hlt : b < w.heap.size) (hs : ¬ S b) : Cells w' b off size n f :=
  fun i hi j hj => by
    have e := k.block b hlt hs
    have h1 := h i hi j hj
    unfold World.cell? at h1 ⊢
    rw [e]; exact h1
theorem In.below {w w' : World} {a : Option Addr} {size n : Nat} {f : Nat → List Value} (h : In w a size n f) (hb : Below w.heap.size w w') : In w' a size n f := fun h0 => by
  obtain ⟨b, off, e, hlt, hc⟩ := h h0
  exact ⟨b, off, e, Nat.lt_of_lt_of_le hlt hb.size, hc.below hb hlt⟩
/-- The cells of the first n records, one behind the other. -/
def flat (n : Nat) (f : Nat → List Value) : List Value := (List.range n).flatMap f
theorem flat_succ (n : Nat) (f : Nat → List Value) : flat (n + 1) f = flat n f ++ f n := by
  unfold flat
  rw [List.range_succ, List.flatMap_append]; simp
theorem flat_zero (f : Nat → List Value) : flat 0 f = [] := rfl
theorem flat_len {size : Nat} {f : Nat → List Value} (hf : ∀ i, (f i).length = size) : ∀ n, (flat n f).length = n * size
  | 0 => by rw [flat_zero]; simp
  | n + 1 => by rw [flat_succ, List.length_append, flat_len hf n, hf, Nat.succ_mul]
theorem flat_get {size : Nat} {f : Nat → List Value} (hf : ∀ i, (f i).length = size) : ∀ (n i j : Nat), i < n → j < size → (flat n f)[i * size + j]? = some ((f i).getD j undef)
  | 0, i, j, h, _ => absurd h (Nat.not_lt_zero _)
  | n + 1, i, j, h, hj => by
    rw [flat_succ]
    by_cases e : i = n
    · subst e
      rw [List.getElem?_append_right (by rw [flat_len hf]; exact Nat.le_add_right _ _), flat_len hf, Nat.add_sub_cancel_left, List.getD_eq_getElem?_getD, List.getElem?_eq_getElem (by rw [hf]; exact hj)]; rfl
    · have hlt : i < n := by omega
      have hm : (i + 1) * size ≤ n * size := Nat.mul_le_mul_right size hlt
      rw [Nat.succ_mul] at hm
      rw [List.getElem?_append_left (by rw [flat_len hf]; omega)]
      exact flat_get hf n i j hlt hj
theorem own_keeps {S : Nat → Prop} {w w' : World} {base : Nat} {e : TypeId} {size n : Nat} {v : Value} {xs : List Value} (h : w.ownsRow base e size v n xs) (k : Keeps S w w') (hs : ∀ b, v.ownBlock = some b → ¬ S b) : w'.ownsRow base e size v n xs := by
  obtain ⟨hl, h | ⟨g, cap, cur, hv, hb, hg, hr⟩⟩ := h
  · exact ⟨hl, .inl h⟩
  · refine ⟨hl, .inr ⟨g, cap, cur, hv, hb, (k.block g (Array.getElem?_eq_some_iff.1 hg).1 (hs g ?_)).trans hg, hr⟩⟩
    rw [hv]; rfl
/-- What a slice of the call's own holds, record by record. -/
theorem own_in {w : World} {base : Nat} {e : TypeId} {size n : Nat} {v : Value} {f : Nat → List Value} (hf : ∀ i, (f i).length = size) (h : w.ownsRow base e size v n (flat n f)) :
    ∃ a c, v = .slice a n c ∧ n ≤ c ∧ (0 < n → ∃ b, a = some ⟨b, 0, none⟩ ∧ base ≤ b ∧ b < w.heap.size ∧ v.ownBlock = some b ∧ Cells w b 0 size n f) := by
  obtain ⟨hl, ⟨h, hn⟩ | ⟨g, cap, cur, hv, hb, hg, hn, hr, hc, ht⟩⟩ := h
  · subst hn
    exact ⟨none, 0, h, Nat.le_refl _, fun h0 => absurd h0 (Nat.lt_irrefl _)⟩
  · refine ⟨_, cap, hv, hn, fun h0 => ⟨g, rfl, hb, (Array.getElem?_eq_some_iff.1 hg).1, by rw [hv]; rfl, fun i hi j hj => ?_⟩⟩
    have hlt : i * size + j < n * size := by
      have hm : (i + 1) * size ≤ n * size := Nat.mul_le_mul_right size hi
      rw [Nat.succ_mul] at hm; omega
    have e1 := flat_get hf n i j hi hj
    rw [← ht, List.getElem?_take, if_pos hlt, Array.getElem?_toList] at e1
    unfold World.cell?
    rw [hg, Nat.zero_add]
    simpa using e1
end Go.Proofs.Qxb6612537a.U

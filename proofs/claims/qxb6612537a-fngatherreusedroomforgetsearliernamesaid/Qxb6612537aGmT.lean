import Derived.Test.Qxb6612537aGmS
/-! gatherMatches, second half: seen, sel. -/
namespace Go.Proofs.Qxb6612537a.U
open Go.RowKit Go.Proofs.Qxb6612537a.Plain
set_option linter.unusedVariables false
structure SSt (w0 : World) (g1 c1 g2 c2 g3 : Nat) (L : AL) (sn : Nat → Bool) (wr : World) : Prop where
  m : MSt w0 g1 c1 g2 c2 L wr
  s : Row wr g3 4 L.length (fun k => .bool (sn k))
  g : w0.heap.size ≤ g3
theorem SSt.keeps0 {w0 : World} {g1 c1 g2 c2 g3 : Nat} {L : AL} {sn : Nat → Bool} {wr w' : World} (h : SSt w0 g1 c1 g2 c2 g3 L sn wr) (k : Keeps (fun _ => False) wr w') : SSt w0 g1 c1 g2 c2 g3 L sn w' := ⟨h.m.keeps0 k, h.s.keeps k (fun h => h), h.g⟩
theorem SSt.set {w0 : World} {g1 c1 g2 c2 g3 : Nat} {L : AL} {sn : Nat → Bool} {wr : World} (h : SSt w0 g1 c1 g2 c2 g3 L sn wr) (k : Nat) : SSt w0 g1 c1 g2 c2 g3 L (fun j => if j = k then true else sn j) (wr.setCell ⟨g3, k, none⟩ (.bool true)) := by
  have kp : Keeps (fun b => b = g3) wr (wr.setCell ⟨g3, k, none⟩ (.bool true)) := (Keeps.refl (fun b => b = g3) wr).setCell (a := ⟨g3, k, none⟩) (.inl rfl) _
  refine ⟨⟨own_keeps h.m.o1 kp (fun b hb e => own_ne h.m.o1 h.s (by decide) (by rw [hb, e])), own_keeps h.m.o2 kp (fun b hb e => own_ne h.m.o2 h.s (by decide) (by rw [hb, e])), h.m.bl.trans (kp.below h.m.bl.size (by rintro b rfl; exact h.g))⟩, (h.s.set k _).congr (fun j hj => ?_), h.g⟩
  by_cases e : j = k
  · simp [e]
  · simp [e]
/-- seen, when the first i holders have been looked up. -/
def SeenOk (L Hs : AL) (i : Nat) (sn : Nat → Bool) : Prop := ∀ k, k < L.length → (sn k = true ↔ ∃ j, j < i ∧ key Hs j = key L k)
theorem seen_zero (L Hs : AL) : SeenOk L Hs 0 (fun _ => false) := fun k _ => ⟨fun h => Bool.noConfusion h, fun ⟨j, hj, _⟩ => absurd hj (by omega)⟩
theorem key_inj' {L : AL} (hd : (keys L).Nodup) {i j : Nat} (hi : i < L.length) (hj : j < L.length) (e : key L i = key L j) : i = j := by
  rw [key_eq hi, key_eq hj] at e
  exact key_inj hd hi hj e
/-- What the look-up finds. -/
theorem seen_found {R : Nat → HRec} {nh : Nat} {P : Nm → Prop} {L Hs : AL} (hA : AOk R P nh L) (hH : HsOk R nh P Hs) {i k : Nat} {sn : Nat → Bool} (hs : SeenOk L Hs i sn) (hi : i < Hs.length) (hk : k ≤ L.length) (hall : ∀ j, j < k → key L j ≠ key Hs i) (hor : k = L.length ∨ key L k = key Hs i) :
    k < L.length ∧ sn k = false ∧ val L k = val Hs i ∧ SeenOk L Hs (i + 1) (fun j => if j = k then true else sn j) := by
  obtain ⟨k0, hk0, e1, e2⟩ := found hA hH hi
  rw [← key_eq hk0, ← key_eq hi] at e1
  rw [← val_eq hk0, ← val_eq hi] at e2
  have hke : key L k = key Hs i := by
    rcases hor with h | h
    · exact absurd e1 (hall k0 (by omega))
    · exact h
  have hkl : k < L.length := by
    rcases Nat.lt_or_ge k L.length with h | h
    · exact h
    · exact absurd e1 (hall k0 (by omega))
  have hkk : k = k0 := key_inj' hA.nd hkl hk0 (hke.trans e1.symm)
  have hsn : sn k = false := by
    cases hb : sn k with
    | false => rfl
    | true =>
      obtain ⟨j, hj, ej⟩ := (hs k hkl).1 hb
      have := key_inj' hH.nd (i := j) (j := i) (by omega) hi (ej.trans hke)
      omega
  refine ⟨hkl, hsn, by rw [hkk]; exact e2, fun q hq => ?_⟩
  show (if q = k then true else sn q) = true ↔ _
  by_cases e : q = k
  · rw [if_pos e]
    exact ⟨fun _ => ⟨i, by omega, by rw [e]; exact hke.symm⟩, fun _ => rfl⟩
  · rw [if_neg e, hs q hq]
    constructor
    · rintro ⟨j, hj, ej⟩; exact ⟨j, by omega, ej⟩
    · rintro ⟨j, hj, ej⟩
      by_cases e2 : j = i
      · subst e2
        exact absurd (key_inj' hA.nd hq hkl (ej.symm.trans hke.symm)) e
      · exact ⟨j, by omega, ej⟩
/-- make([]bool, n). -/
theorem seen_made {w0 : World} {g1 c1 g2 c2 : Nat} {L : AL} {wr : World} (h : MSt w0 g1 c1 g2 c2 L wr) : SSt w0 g1 c1 g2 c2 wr.heap.size L (fun _ => false) (wr.alloc (.cells (madeCells #[.bool false] (L.length * 1)) 4)) :=
  ⟨h.keeps0 ((Keeps.refl _ wr).alloc _), by
    have := Row.made wr #[.bool false] (L.length * 1) 4 (fun _ => .bool false) (by simp) (fun j hj => by
      have : j = 0 := by simp at hj; omega
      subst this; rfl)
    rwa [Nat.mul_one] at this ⊢, h.bl.size⟩
/-- sel holds Q. -/
def sels (Q : List Nat) : List Value := Q.map fun k => .int .i64 (k : Nat)
theorem sels_get {Q : List Nat} {i : Nat} (hi : i < Q.length) : (sels Q).getD i undef = .int .i64 ((Q.getD i 0 : Nat) : Int) := by
  unfold sels
  rw [List.getD_eq_getElem?_getD, List.getElem?_map, List.getElem?_eq_getElem hi, List.getD_eq_getElem?_getD, List.getElem?_eq_getElem hi]; rfl
structure QSt (w0 : World) (g c : Nat) (Q : List Nat) (wr : World) : Prop where
  o : wr.ownsRow w0.heap.size 3 1 (.slice (some ⟨g, 0, none⟩) Q.length c) Q.length (sels Q)
  bl : Below w0.heap.size w0 wr
theorem QSt.c {w0 : World} {g c : Nat} {Q : List Nat} {wr : World} (h : QSt w0 g c Q wr) {j : Nat} (hj : j < Q.length) : wr.cell? ⟨g, j, none⟩ = some (.int .i64 ((Q.getD j 0 : Nat) : Int)) := (own_cell h.o hj).trans (by rw [sels_get hj])
theorem QSt.keeps0 {w0 : World} {g c : Nat} {Q : List Nat} {wr w' : World} (h : QSt w0 g c Q wr) (k : Keeps (fun _ => False) wr w') : QSt w0 g c Q w' := ⟨own_keeps h.o k (fun _ _ h => h), h.bl.trans (k.below h.bl.size (fun _ h => h.elim))⟩
theorem QSt.set {w0 : World} {g c : Nat} {Q : List Nat} {wr : World} (h : QSt w0 g c Q wr) (k x : Nat) : QSt w0 g c (Q.set k x) (wr.setCell ⟨g, k, none⟩ (.int .i64 (x : Nat))) := by
  have o := own_set h.o k (.int .i64 (x : Nat))
  refine ⟨?_, h.bl.trans (((Keeps.refl (fun b => b = g) wr).setCell (a := ⟨g, k, none⟩) (.inl rfl) _).below h.bl.size (by rintro b rfl; exact (own_lt h.o).1))⟩
  have e : sels (Q.set k x) = (sels Q).set k (.int .i64 (x : Nat)) := by unfold sels; rw [List.map_set]
  rw [e, List.length_set]; exact o
theorem QSt.push {w0 : World} {g c : Nat} {Q : List Nat} {wr Wa w1 : World} {x gg cap : Nat} (h : QSt w0 g c Q wr) (ka : Keeps (fun _ => False) wr Wa) (ho1 : w1.ownsRow w0.heap.size 3 1 (.slice (some ⟨gg, 0, none⟩) (Q.length + 1) cap) (Q.length + 1) (sels Q ++ [.int .i64 (x : Nat)])) (hg1 : Wa.grownBy w1 (some g)) : QSt w0 gg cap (Q ++ [x]) w1 := by
  have kk1 : Keeps (fun b => b = g) Wa w1 := (Keeps.refl (fun b => b = g) Wa).grown hg1 fun k e => .inl (by injection e with e; exact e.symm)
  have b1 : Below w0.heap.size w0 Wa := h.bl.trans (ka.below h.bl.size (fun _ h => h.elim))
  have e1 : sels (Q ++ [x]) = sels Q ++ [.int .i64 (x : Nat)] := by unfold sels; rw [List.map_append]; rfl
  have el : (Q ++ [x]).length = Q.length + 1 := by simp
  refine ⟨?_, b1.trans (kk1.below b1.size (by rintro b rfl; exact (own_lt h.o).1))⟩
  rw [e1, el]; exact ho1
end Go.Proofs.Qxb6612537a.U

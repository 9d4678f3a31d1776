import Derived.Test.Qxb6609507aTopo
import Derived.OneCell
import Derived.Laws.OwnMore
/-! THE LAYOUT'S MEMORY: a struct whose fields are slices that the call appends to. -/
namespace Go.Proofs.Qxb6609507a.U
open Go.RowKit Go.Proofs.Qxb6609507a.Plain
set_option linter.unusedVariables false

/-- The element type of the slice in field q. -/
def ty (q : Nat) : TypeId := if q < 26 then 21 else if q < 31 then 4 else if q = 32 then 45 else 21
theorem ty_small (q : Nat) : ty q = 21 ∨ ty q = 4 ∨ ty q = 45 := by
  unfold ty
  split
  · exact .inl rfl
  · split
    · exact .inr (.inl rfl)
    · split
      · exact .inr (.inr rfl)
      · exact .inl rfl
theorem ty_ne (q : Nat) (t : TypeId) (h1 : t ≠ 21) (h2 : t ≠ 4) (h3 : t ≠ 45) : ty q ≠ t := by
  rcases ty_small q with h | h | h <;> rw [h] <;> exact Ne.symm (by assumption)

def updV (V : Nat → Value) (q : Nat) (v : Value) : Nat → Value := fun q' => if q' = q then v else V q'
def updL (xs : Nat → List Value) (q : Nat) (l : List Value) : Nat → List Value := fun q' => if q' = q then l else xs q'
/-- The struct's cells. -/
def layC (fan : Nat → Nat) (V : Nat → Value) (q : Nat) : Value := if q < 5 then .int .i64 (sz fan q) else if q < 11 then .int .i64 (fan (q - 5)) else V q
def layZ (q : Nat) : Value := if q < 11 then .int .i64 0 else .slice none 0 0

structure Lay (w : World) (B : Nat) (fan : Nat → Nat) (V : Nat → Value) (xs : Nat → List Value) (wr : World) : Prop where
  mrow : Row wr (B + 1 + 1 + 1) 33 36 (layC fan V)
  szr : Row wr B 24 5 (i64s (sz fan))
  fanr : Row wr (B + 1) 25 6 (i64s fan)
  res : Row wr (B + 1 + 1) 33 36 layZ
  own : ∀ q, 11 ≤ q → q < 36 → wr.ownsRow (B + 4) (ty q) 1 (V q) (xs q).length (xs q)
  dist : ∀ q q', 11 ≤ q → q < 36 → 11 ≤ q' → q' < 36 → q ≠ q' → ∀ g, (V q).ownBlock = some g → (V q').ownBlock ≠ some g
  below : Below B w wr

theorem Lay.lt {w : World} {B : Nat} {fan : Nat → Nat} {V : Nat → Value} {xs : Nat → List Value} {wr : World} (h : Lay w B fan V xs wr) : B + 1 + 1 + 1 < wr.heap.size := h.mrow.lt
/-- The same blocks in another world. -/
theorem Lay.move {w : World} {B : Nat} {fan : Nat → Nat} {V : Nat → Value} {xs : Nat → List Value} {wr W : World} (h : Lay w B fan V xs wr) (k : Keeps (fun _ => False) wr W) : Lay w B fan V xs W where
  mrow := h.mrow.keeps k id
  szr := h.szr.keeps k id
  fanr := h.fanr.keeps k id
  res := h.res.keeps k id
  own := fun q h1 h2 => (h.own q h1 h2).kept (row := none) ⟨k.os, k.tape, k.output, k.size, fun b hb _ => k.block b hb id⟩ (by
    cases e : (V q).ownBlock with
    | none => exact .inl rfl
    | some g => exact .inr (by simp))
  dist := h.dist
  below := h.below.trans (k.below (Nat.le_of_lt (by have := h.lt; omega)) (fun _ f => f.elim))
theorem Lay.alloc {w : World} {B : Nat} {fan : Nat → Nat} {V : Nat → Value} {xs : Nat → List Value} {wr : World} (h : Lay w B fan V xs wr) (o : Obj) : Lay w B fan V xs (wr.alloc o) := h.move ((Keeps.refl _ _).alloc o)
theorem Lay.drewN {w : World} {B : Nat} {fan : Nat → Nat} {V : Nat → Value} {xs : Nat → List Value} {wr : World} (h : Lay w B fan V xs wr) (n : Nat) : Lay w B fan V xs (wr.drewN n) := h.move ((Keeps.refl _ _).drewN n)
/-- A store into a block of another's. -/
theorem Lay.other {w : World} {B : Nat} {fan : Nat → Nat} {V : Nat → Value} {xs : Nat → List Value} {wr : World} (h : Lay w B fan V xs wr) {b : Nat} {t : TypeId} {n : Nat} {f : Nat → Value} (hr : Row wr b t n f) (ht1 : t ≠ 21) (ht2 : t ≠ 4) (ht3 : t ≠ 45) (hb : B + 4 ≤ b) (i : Nat) (v : Value) :
    Lay w B fan V xs (wr.setCell ⟨b, i, none⟩ v) where
  mrow := h.mrow.setOther (a := ⟨b, i, none⟩) (by show B + 1 + 1 + 1 ≠ b; omega) v
  szr := h.szr.setOther (a := ⟨b, i, none⟩) (by show B ≠ b; omega) v
  fanr := h.fanr.setOther (a := ⟨b, i, none⟩) (by show B + 1 ≠ b; omega) v
  res := h.res.setOther (a := ⟨b, i, none⟩) (by show B + 1 + 1 ≠ b; omega) v
  own := fun q h1 h2 => ownsRow_setCell_other (h.own q h1 h2) (a := ⟨b, i, none⟩) (own_ne (h.own q h1 h2) hr (ty_ne q t ht1 ht2 ht3)) v
  dist := h.dist
  below := h.below.setCell (by show B ≤ b; omega) v

theorem grown_of_keeps {wr W w1 : World} {row : Option Nat} (k : Keeps (fun _ => False) wr W) (hg : W.grownBy w1 row) : wr.grownBy w1 row :=
  ⟨hg.os.trans k.os, hg.tape.trans k.tape, hg.output.trans k.output, Nat.le_trans k.size hg.size, fun b hb hne => (hg.block b (Nat.lt_of_lt_of_le hb k.size) hne).trans (k.block b hb id)⟩

/-- 'm.f[..] = append(m.f[..], x)'. -/
theorem Lay.app {w : World} {B : Nat} {fan : Nat → Nat} {V : Nat → Value} {xs : Nat → List Value} {wr W w1 : World} (h : Lay w B fan V xs wr) {q : Nat} (h1 : 11 ≤ q) (h2 : q < 36) (k : Keeps (fun _ => False) wr W) {gg cap n' : Nat} {x : Value}
    (hown : w1.ownsRow (B + 4) (ty q) 1 (.slice (some ⟨gg, 0, none⟩) n' cap) n' (xs q ++ [x])) (hn' : n' = (xs q ++ [x]).length) (hg : W.grownBy w1 (V q).ownBlock) (hat : (V q).ownBlock = some gg ∨ wr.heap.size ≤ gg) :
    Lay w B fan (updV V q (.slice (some ⟨gg, 0, none⟩) n' cap)) (updL xs q (xs q ++ [x])) (w1.setCell ⟨B + 1 + 1 + 1, q, none⟩ (.slice (some ⟨gg, 0, none⟩) n' cap)) := by
  subst hn'
  have hgr := grown_of_keeps k hg
  have hlt := h.lt
  have ho := h.own q h1 h2
  have nb : ∀ b, b < B + 4 → (V q).ownBlock ≠ some b := fun b hb e => by have := (ho.lt b e).1; omega
  have hgg : B + 4 ≤ gg := (hown.lt gg rfl).1
  refine ⟨?_, ?_, ?_, ?_, ?_, ?_, ?_⟩
  · refine ((h.mrow.grown hgr (nb _ (by omega))).set q _).congr fun q' hq' => ?_
    unfold layC updV
    by_cases e : q' = q
    · subst e
      rw [if_pos rfl, if_neg (by omega), if_neg (by omega), if_pos rfl]
    · rw [if_neg e, if_neg e]
  · exact (h.szr.grown hgr (nb _ (by omega))).setOther (a := ⟨B + 1 + 1 + 1, q, none⟩) (by show B ≠ B + 1 + 1 + 1; omega) _
  · exact (h.fanr.grown hgr (nb _ (by omega))).setOther (a := ⟨B + 1 + 1 + 1, q, none⟩) (by show B + 1 ≠ B + 1 + 1 + 1; omega) _
  · exact (h.res.grown hgr (nb _ (by omega))).setOther (a := ⟨B + 1 + 1 + 1, q, none⟩) (by show B + 1 + 1 ≠ B + 1 + 1 + 1; omega) _
  · intro q' h1' h2'
    refine ownsRow_setCell_below ?_ (a := ⟨B + 1 + 1 + 1, q, none⟩) (by show B + 1 + 1 + 1 < B + 4; omega) _
    unfold updV updL
    by_cases e : q' = q
    · subst e
      rw [if_pos rfl, if_pos rfl]
      exact hown
    · rw [if_neg e, if_neg e]
      refine (h.own q' h1' h2').kept hgr ?_
      cases e2 : (V q').ownBlock with
      | none => exact .inl rfl
      | some g => exact .inr fun e3 => h.dist q' q h1' h2' h1 h2 e g e2 e3.symm
  · intro a b ha1 ha2 hb1 hb2 hne g hga hgb
    unfold updV at hga hgb
    have hnew : ∀ c, 11 ≤ c → c < 36 → c ≠ q → (V c).ownBlock ≠ some gg := fun c hc1 hc2 hcq e => by
      rcases hat with hat | hat
      · exact h.dist c q hc1 hc2 h1 h2 hcq gg e hat
      · have := ((h.own c hc1 hc2).lt gg e).2; omega
    by_cases e1 : a = q <;> by_cases e2 : b = q
    · omega
    · rw [if_pos e1] at hga
      rw [if_neg e2] at hgb
      have : gg = g := by simpa [Value.ownBlock] using hga
      subst this
      exact hnew b hb1 hb2 e2 hgb
    · rw [if_neg e1] at hga
      rw [if_pos e2] at hgb
      have : gg = g := by simpa [Value.ownBlock] using hgb
      subst this
      exact hnew a ha1 ha2 e1 hga
    · rw [if_neg e1] at hga
      rw [if_neg e2] at hgb
      exact h.dist a b ha1 ha2 hb1 hb2 hne g hga hgb
  · have b1 : Below B w w1 := h.below.grown hgr (by omega) (fun b e => by have := (ho.lt b e).1; omega)
    exact b1.setCell (by show B ≤ B + 1 + 1 + 1; omega) _
/-- .. and a row that is none of its slices' stays. -/
theorem Lay.appRow {w : World} {B : Nat} {fan : Nat → Nat} {V : Nat → Value} {xs : Nat → List Value} {wr W w1 : World} (h : Lay w B fan V xs wr) {q : Nat} (h1 : 11 ≤ q) (h2 : q < 36) (k : Keeps (fun _ => False) wr W)
    (hg : W.grownBy w1 (V q).ownBlock) {b : Nat} {t : TypeId} {n : Nat} {f : Nat → Value} (hr : Row wr b t n f) (ht1 : t ≠ 21) (ht2 : t ≠ 4) (ht3 : t ≠ 45) (hb : b ≠ B + 1 + 1 + 1) (v : Value) : Row (w1.setCell ⟨B + 1 + 1 + 1, q, none⟩ v) b t n f :=
  (hr.grown (grown_of_keeps k hg) (own_ne (h.own q h1 h2) hr (ty_ne q t ht1 ht2 ht3))).setOther (a := ⟨B + 1 + 1 + 1, q, none⟩) hb v
/-- A store into one of its slices. -/
theorem Lay.stored {w : World} {B : Nat} {fan : Nat → Nat} {V : Nat → Value} {xs : Nat → List Value} {wr : World} (h : Lay w B fan V xs wr) {q : Nat} (h1 : 11 ≤ q) (h2 : q < 36) {g cap i : Nat} (hv : V q = .slice (some ⟨g, 0, none⟩) (xs q).length cap) (x : Value) :
    Lay w B fan V (updL xs q ((xs q).set i x)) (wr.setCell ⟨g, i, none⟩ x) := by
  have ho := h.own q h1 h2
  have hlt := h.lt
  have hgb : (V q).ownBlock = some g := by rw [hv]; rfl
  have hgg : B + 4 ≤ g := (ho.lt g hgb).1
  refine ⟨?_, ?_, ?_, ?_, ?_, h.dist, ?_⟩
  · exact h.mrow.setOther (a := ⟨g, i, none⟩) (by show B + 1 + 1 + 1 ≠ g; omega) _
  · exact h.szr.setOther (a := ⟨g, i, none⟩) (by show B ≠ g; omega) _
  · exact h.fanr.setOther (a := ⟨g, i, none⟩) (by show B + 1 ≠ g; omega) _
  · exact h.res.setOther (a := ⟨g, i, none⟩) (by show B + 1 + 1 ≠ g; omega) _
  · intro q' h1' h2'
    unfold updL
    by_cases e : q' = q
    · subst e
      rw [if_pos rfl]
      rw [hv] at ho ⊢
      have := ho.stored i x
      rw [List.length_set]
      exact this.1
    · rw [if_neg e]
      exact ownsRow_setCell_other (h.own q' h1' h2') (a := ⟨g, i, none⟩) (fun e2 => h.dist q' q h1' h2' h1 h2 e g e2 hgb) _
  · exact h.below.setCell (by show B ≤ g; omega) _
end Go.Proofs.Qxb6609507a.U

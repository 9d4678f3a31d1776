import Derived.Test.Qxb6609507aGrow
import Derived.Test.Qxb6609507aNewSet
import Derived.Test.Qxb6609507aAcc
/-! growForest: THE FOREST BEFORE ITS TREES. -/
namespace Go.Proofs.Qxb6609507a.U
open Go.RowKit Go.Proofs.Qxb6609507a.Plain
set_option linter.unusedVariables false

def updC (C : Nat → Value) (o : Nat) (v : Value) : Nat → Value := fun q => if q = o then v else C q
def upNN (f : Nat → Nat) (l v : Nat) : Nat → Nat := fun l' => if l' = l then v else f l'
def upNF (f : Nat → Nat → Nat) (l : Nat) (v : Nat → Nat) : Nat → Nat → Nat := fun l' => if l' = l then v else f l'
def z93 (q : Nat) : Value := match q with
  | 0 => .int .i32 0
  | 1 => .int .i32 0
  | 2 => .int .i32 0
  | 3 => .int .i8 0
  | _ => .bool false
theorem updC_at (C : Nat → Value) (o : Nat) (v : Value) : updC C o v o = v := if_pos rfl
theorem updC_ne (C : Nat → Value) {o q : Nat} (v : Value) (h : q ≠ o) : updC C o v q = C q := if_neg h

def topoF (g p s n : Nat) (i : Nat) : Value := match i with
  | 0 => .int .i64 g
  | 1 => .int .i64 p
  | 2 => .int .i64 s
  | _ => .int .i64 n
/-- What the forest's own cells say: sizes and fanouts of the first a levels, rows of the first b, free sets of the first c. -/
structure HdC (fan N : Nat → Nat) (lk : Bool) (KB : Nat) (LV : Nat → Nat) (D WB cc : Nat → Nat) (XB : Nat → Nat → Nat) (a b c : Nat) (C : Nat → Value) : Prop where
  c0 : C 0 = .slice none 0 0
  c1 : C 1 = .slice none 0 0
  c22 : C 22 = if lk = true then .pointer (some ⟨KB, 0, none⟩) else .pointer none
  c27 : C 27 = .int .i32 0
  c38 : C 38 = .int .i32 0
  c39 : C 39 = .pointer none
  sz : ∀ l, l < a → C (28 + l) = .int .i32 (sz fan l : Nat)
  fn : ∀ l, l < a → C (33 + l) = .int .i32 (fan l : Nat)
  lv : ∀ l, l < b → C (2 + l) = .slice (some ⟨LV l, 0, none⟩) (N l) (N l)
  f0 : ∀ l, l < c → C (7 + l * 3) = .slice (some ⟨WB l, 0, none⟩) (D l) (cc l)
  f1 : ∀ l, l < c → C (7 + l * 3 + 1) = .slice (some ⟨XB l 0, 0, none⟩) (wlen (N l) 0) (wlen (N l) 0)
  f2 : ∀ l, l < c → C (7 + l * 3 + 2) = .int .i64 0

section
variable {fan N : Nat → Nat} {lk : Bool} {KB : Nat} {LV : Nat → Nat} {D WB cc : Nat → Nat} {XB : Nat → Nat → Nat} {a b c : Nat} {C : Nat → Value}
theorem HdC.size (h : HdC fan N lk KB LV D WB cc XB a b c C) (ha : a < 5) :
    HdC fan N lk KB LV D WB cc XB (a + 1) b c (updC (updC C (28 + a) (.int .i32 (Plain.sz fan a : Nat))) (33 + a) (.int .i32 (fan a : Nat))) ∨ 5 < b ∨ 5 < c := by
  by_cases hb : 5 < b
  · exact .inr (.inl hb)
  by_cases hc : 5 < c
  · exact .inr (.inr hc)
  refine .inl ⟨?_, ?_, ?_, ?_, ?_, ?_, ?_, ?_, ?_, ?_, ?_, ?_⟩
  · rw [updC_ne _ _ (by omega), updC_ne _ _ (by omega)]; exact h.c0
  · rw [updC_ne _ _ (by omega), updC_ne _ _ (by omega)]; exact h.c1
  · rw [updC_ne _ _ (by omega), updC_ne _ _ (by omega)]; exact h.c22
  · rw [updC_ne _ _ (by omega), updC_ne _ _ (by omega)]; exact h.c27
  · rw [updC_ne _ _ (by omega), updC_ne _ _ (by omega)]; exact h.c38
  · rw [updC_ne _ _ (by omega), updC_ne _ _ (by omega)]; exact h.c39
  · intro l hl
    rw [updC_ne _ _ (by omega)]
    by_cases e : l = a
    · subst e; exact updC_at _ _ _
    · rw [updC_ne _ _ (by omega)]; exact h.sz l (by omega)
  · intro l hl
    by_cases e : l = a
    · subst e; exact updC_at _ _ _
    · rw [updC_ne _ _ (by omega), updC_ne _ _ (by omega)]; exact h.fn l (by omega)
  · intro l hl
    rw [updC_ne _ _ (by omega), updC_ne _ _ (by omega)]; exact h.lv l hl
  · intro l hl
    rw [updC_ne _ _ (by omega), updC_ne _ _ (by omega)]; exact h.f0 l hl
  · intro l hl
    rw [updC_ne _ _ (by omega), updC_ne _ _ (by omega)]; exact h.f1 l hl
  · intro l hl
    rw [updC_ne _ _ (by omega), updC_ne _ _ (by omega)]; exact h.f2 l hl
theorem HdC.level (h : HdC fan N lk KB LV D WB cc XB a b c C) (ha : a ≤ 5) (hb : b < 5) (hc : c ≤ 5) (g : Nat) :
    HdC fan N lk KB (upNN LV b g) D WB cc XB a (b + 1) c (updC C (2 + b) (.slice (some ⟨g, 0, none⟩) (N b) (N b))) := by
  refine ⟨?_, ?_, ?_, ?_, ?_, ?_, ?_, ?_, ?_, ?_, ?_, ?_⟩
  · rw [updC_ne _ _ (by omega)]; exact h.c0
  · rw [updC_ne _ _ (by omega)]; exact h.c1
  · rw [updC_ne _ _ (by omega)]; exact h.c22
  · rw [updC_ne _ _ (by omega)]; exact h.c27
  · rw [updC_ne _ _ (by omega)]; exact h.c38
  · rw [updC_ne _ _ (by omega)]; exact h.c39
  · intro l hl; rw [updC_ne _ _ (by omega)]; exact h.sz l hl
  · intro l hl; rw [updC_ne _ _ (by omega)]; exact h.fn l hl
  · intro l hl
    unfold upNN
    by_cases e : l = b
    · subst e; rw [if_pos rfl]; exact updC_at _ _ _
    · rw [if_neg e, updC_ne _ _ (by omega)]; exact h.lv l (by omega)
  · intro l hl; rw [updC_ne _ _ (by omega)]; exact h.f0 l hl
  · intro l hl; rw [updC_ne _ _ (by omega)]; exact h.f1 l hl
  · intro l hl; rw [updC_ne _ _ (by omega)]; exact h.f2 l hl
theorem HdC.free (h : HdC fan N lk KB LV D WB cc XB a b c C) (ha : a ≤ 5) (hb : b ≤ 5) (hc : c < 5) (d wb cp : Nat) (xb : Nat → Nat) :
    HdC fan N lk KB LV (upNN D c d) (upNN WB c wb) (upNN cc c cp) (upNF XB c xb) a b (c + 1) (updC (updC (updC C (7 + c * 3) (.slice (some ⟨wb, 0, none⟩) d cp)) (7 + c * 3 + 1) (.slice (some ⟨xb 0, 0, none⟩) (wlen (N c) 0) (wlen (N c) 0))) (7 + c * 3 + 2) (.int .i64 0)) := by
  refine ⟨?_, ?_, ?_, ?_, ?_, ?_, ?_, ?_, ?_, ?_, ?_, ?_⟩
  · rw [updC_ne _ _ (by omega), updC_ne _ _ (by omega), updC_ne _ _ (by omega)]; exact h.c0
  · rw [updC_ne _ _ (by omega), updC_ne _ _ (by omega), updC_ne _ _ (by omega)]; exact h.c1
  · rw [updC_ne _ _ (by omega), updC_ne _ _ (by omega), updC_ne _ _ (by omega)]; exact h.c22
  · rw [updC_ne _ _ (by omega), updC_ne _ _ (by omega), updC_ne _ _ (by omega)]; exact h.c27
  · rw [updC_ne _ _ (by omega), updC_ne _ _ (by omega), updC_ne _ _ (by omega)]; exact h.c38
  · rw [updC_ne _ _ (by omega), updC_ne _ _ (by omega), updC_ne _ _ (by omega)]; exact h.c39
  · intro l hl; rw [updC_ne _ _ (by omega), updC_ne _ _ (by omega), updC_ne _ _ (by omega)]; exact h.sz l hl
  · intro l hl; rw [updC_ne _ _ (by omega), updC_ne _ _ (by omega), updC_ne _ _ (by omega)]; exact h.fn l hl
  · intro l hl; rw [updC_ne _ _ (by omega), updC_ne _ _ (by omega), updC_ne _ _ (by omega)]; exact h.lv l hl
  · intro l hl
    unfold upNN
    rw [updC_ne _ _ (by omega), updC_ne _ _ (by omega)]
    by_cases e : l = c
    · subst e; rw [if_pos rfl, if_pos rfl, if_pos rfl]; exact updC_at _ _ _
    · rw [if_neg e, if_neg e, if_neg e, updC_ne _ _ (by omega)]; exact h.f0 l (by omega)
  · intro l hl
    unfold upNF
    rw [updC_ne _ _ (by omega)]
    by_cases e : l = c
    · subst e; rw [if_pos rfl]; exact updC_at _ _ _
    · rw [if_neg e, updC_ne _ _ (by omega), updC_ne _ _ (by omega)]; exact h.f1 l (by omega)
  · intro l hl
    by_cases e : l = c
    · subst e; exact updC_at _ _ _
    · rw [updC_ne _ _ (by omega), updC_ne _ _ (by omega), updC_ne _ _ (by omega)]; exact h.f2 l (by omega)
end

/-- The blocks of the forest as it is made. -/
structure MkM (B : Nat) (w : World) (tv : Nat → Value) (N : Nat → Nat) (lk : Bool) (TB FV LB FF KB : Nat) (LV LK : Nat → Nat) (D WB : Nat → Nat) (XB : Nat → Nat → Nat) (b c d : Nat) (C KT : Nat → Value) (wr : World) : Prop where
  tb : Row wr TB 38 4 tv
  fv : Row wr FV 35 1 (fun _ => .pointer (some ⟨FF, 0, none⟩))
  lb : Row wr LB 4 1 (fun _ => .bool lk)
  ff : Row wr FF 88 40 C
  kb : lk = true → Row wr KB 99 5 KT ∧ B ≤ KB
  kt : lk = true → ∀ l, l < d → KT l = .slice (some ⟨LK l, 0, none⟩) (N l) (N l)
  lv : ∀ l, l < b → Row wr (LV l) 93 (6 * N l) (fun q => z93 (q % 6)) ∧ B ≤ LV l
  lvi : ∀ l l', l < b → l' < b → LV l = LV l' → l = l'
  lkr : lk = true → ∀ l, l < d → Row wr (LK l) 98 (3 * N l) (fun _ => .int .i32 0) ∧ B ≤ LK l
  lki : lk = true → ∀ l l', l < d → l' < d → LK l = LK l' → l = l'
  fr : ∀ l, l < c → Words wr (N l) (D l) (WB l) (XB l) (fun _ _ => 0) ∧ IsDepth (N l) (D l) ∧ D l ≤ 65536 ∧ ∀ k, k < D l → B ≤ XB l k
  fri : ∀ l l', l < c → l' < c → l ≠ l' → ∀ k k', k < D l → k' < D l' → XB l k ≠ XB l' k'
  bF : B ≤ FF
  below : Below B w wr

theorem Words.keeps {w w' : World} {n D WB : Nat} {XB : Nat → Nat} {X : Nat → Nat → Nat} {S : Nat → Prop} (h : Words w n D WB XB X) (k : Keeps S w w') (h1 : ¬ S WB) (h2 : ∀ k, k < D → ¬ S (XB k)) : Words w' n D WB XB X :=
  ⟨h.table.keeps k h1, fun i hi => (h.row i hi).keeps k (h2 i hi), h.inj, h.lt⟩

section
variable {B : Nat} {w : World} {tv : Nat → Value} {N : Nat → Nat} {lk : Bool} {TB FV LB FF KB : Nat} {LV LK : Nat → Nat} {D WB : Nat → Nat} {XB : Nat → Nat → Nat} {b c d : Nat} {C KT : Nat → Value} {wr w' : World}
theorem MkM.keeps (h : MkM B w tv N lk TB FV LB FF KB LV LK D WB XB b c d C KT wr) (k : Keeps (fun _ => False) wr w') : MkM B w tv N lk TB FV LB FF KB LV LK D WB XB b c d C KT w' where
  tb := h.tb.keeps k id
  fv := h.fv.keeps k id
  lb := h.lb.keeps k id
  ff := h.ff.keeps k id
  kb := fun e => ⟨(h.kb e).1.keeps k id, (h.kb e).2⟩
  kt := h.kt
  lv := fun l hl => ⟨(h.lv l hl).1.keeps k id, (h.lv l hl).2⟩
  lvi := h.lvi
  lkr := fun e l hl => ⟨(h.lkr e l hl).1.keeps k id, (h.lkr e l hl).2⟩
  lki := h.lki
  fr := fun l hl => ⟨(h.fr l hl).1.keeps k id (fun _ _ => id), (h.fr l hl).2⟩
  fri := h.fri
  bF := h.bF
  below := h.below.trans (k.below (by have := h.ff.lt; have := h.bF; omega) (fun _ f => f.elim))
theorem MkM.set (h : MkM B w tv N lk TB FV LB FF KB LV LK D WB XB b c d C KT wr) (o : Nat) (v : Value) : MkM B w tv N lk TB FV LB FF KB LV LK D WB XB b c d (updC C o v) KT (wr.setCell ⟨FF, o, none⟩ v) where
  tb := h.tb.setOther (a := ⟨FF, o, none⟩) (h.tb.ne h.ff (by decide)) v
  fv := h.fv.setOther (a := ⟨FF, o, none⟩) (h.fv.ne h.ff (by decide)) v
  lb := h.lb.setOther (a := ⟨FF, o, none⟩) (h.lb.ne h.ff (by decide)) v
  ff := h.ff.set o v
  kb := fun e => ⟨(h.kb e).1.setOther (a := ⟨FF, o, none⟩) ((h.kb e).1.ne h.ff (by decide)) v, (h.kb e).2⟩
  kt := h.kt
  lv := fun l hl => ⟨(h.lv l hl).1.setOther (a := ⟨FF, o, none⟩) ((h.lv l hl).1.ne h.ff (by decide)) v, (h.lv l hl).2⟩
  lvi := h.lvi
  lkr := fun e l hl => ⟨(h.lkr e l hl).1.setOther (a := ⟨FF, o, none⟩) ((h.lkr e l hl).1.ne h.ff (by decide)) v, (h.lkr e l hl).2⟩
  lki := h.lki
  fr := fun l hl => ⟨(h.fr l hl).1.other (a := ⟨FF, o, none⟩) ((h.fr l hl).1.table.ne h.ff (by decide)) (fun k hk => ((h.fr l hl).1.row k hk).ne h.ff (by decide)) v, (h.fr l hl).2⟩
  fri := h.fri
  bF := h.bF
  below := h.below.setCell h.bF v
/-- f.levels[l] = make([]cell, n). -/
theorem MkM.level (h : MkM B w tv N lk TB FV LB FF KB LV LK D WB XB b c d C KT wr) :
    MkM B w tv N lk TB FV LB FF KB (upNN LV b wr.heap.size) LK D WB XB (b + 1) c d C KT (wr.alloc (.cells (madeCells #[.int .i32 0, .int .i32 0, .int .i32 0, .int .i8 0, .bool false, .bool false] (N b * 6)) 93)) := by
  have h' := h.keeps ((Keeps.refl _ wr).alloc (.cells (madeCells #[.int .i32 0, .int .i32 0, .int .i32 0, .int .i8 0, .bool false, .bool false] (N b * 6)) 93))
  refine ⟨h'.tb, h'.fv, h'.lb, h'.ff, h'.kb, h'.kt, ?_, ?_, h'.lkr, h'.lki, h'.fr, h'.fri, h'.bF, h'.below⟩
  · intro l hl
    unfold upNN
    by_cases e : l = b
    · subst e
      rw [if_pos rfl]
      refine ⟨?_, by have := h.ff.lt; have := h.bF; omega⟩
      rw [Nat.mul_comm 6]
      exact Row.made wr #[.int .i32 0, .int .i32 0, .int .i32 0, .int .i8 0, .bool false, .bool false] (N l * 6) 93 z93 (by decide) (fun j hj => by
        match j, hj with
        | 0, _ => rfl
        | 1, _ => rfl
        | 2, _ => rfl
        | 3, _ => rfl
        | 4, _ => rfl
        | 5, _ => rfl)
    · rw [if_neg e]
      exact h'.lv l (by omega)
  · intro l l' hl hl' he
    unfold upNN at he
    by_cases e1 : l = b <;> by_cases e2 : l' = b
    · omega
    · rw [if_pos e1, if_neg e2] at he
      have := (h.lv l' (by omega)).1.lt
      omega
    · rw [if_neg e1, if_pos e2] at he
      have := (h.lv l (by omega)).1.lt
      omega
    · rw [if_neg e1, if_neg e2] at he
      exact h.lvi l l' (by omega) (by omega) he
/-- f.links[l] = make([]link, n). -/
theorem MkM.link (h : MkM B w tv N lk TB FV LB FF KB LV LK D WB XB b c d C KT wr) (hlk : lk = true) :
    MkM B w tv N lk TB FV LB FF KB LV (upNN LK d wr.heap.size) D WB XB b c (d + 1) C (updC KT d (.slice (some ⟨wr.heap.size, 0, none⟩) (N d) (N d))) ((wr.alloc (.cells (madeCells #[.int .i32 0, .int .i32 0, .int .i32 0] (N d * 3)) 98)).setCell ⟨KB, d, none⟩ (.slice (some ⟨wr.heap.size, 0, none⟩) (N d) (N d))) := by
  have h' := h.keeps ((Keeps.refl _ wr).alloc (.cells (madeCells #[.int .i32 0, .int .i32 0, .int .i32 0] (N d * 3)) 98))
  have hk := (h'.kb hlk).1
  refine ⟨h'.tb.setOther (a := ⟨KB, d, none⟩) (h'.tb.ne hk (by decide)) _, h'.fv.setOther (a := ⟨KB, d, none⟩) (h'.fv.ne hk (by decide)) _, h'.lb.setOther (a := ⟨KB, d, none⟩) (h'.lb.ne hk (by decide)) _, h'.ff.setOther (a := ⟨KB, d, none⟩) (h'.ff.ne hk (by decide)) _, fun _ => ⟨hk.set d _, (h.kb hlk).2⟩, ?_, ?_, h'.lvi, ?_, ?_, ?_, h'.fri, h'.bF, h'.below.setCell (h.kb hlk).2 _⟩
  · intro _ l hl
    unfold upNN
    by_cases e : l = d
    · subst e; rw [if_pos rfl]; exact updC_at _ _ _
    · rw [if_neg e, updC_ne _ _ e]; exact h.kt hlk l (by omega)
  · exact fun l hl => ⟨(h'.lv l hl).1.setOther (a := ⟨KB, d, none⟩) ((h'.lv l hl).1.ne hk (by decide)) _, (h.lv l hl).2⟩
  · intro _ l hl
    unfold upNN
    by_cases e : l = d
    · subst e
      rw [if_pos rfl]
      have hr : Row (wr.alloc (.cells (madeCells #[.int .i32 0, .int .i32 0, .int .i32 0] (N l * 3)) 98)) wr.heap.size 98 (N l * 3) (fun _ => .int .i32 0) := (Row.made wr #[.int .i32 0, .int .i32 0, .int .i32 0] (N l * 3) 98 (fun _ => .int .i32 0) (by decide) (fun j hj => by
        match j, hj with
        | 0, _ => rfl
        | 1, _ => rfl
        | 2, _ => rfl)).congr (fun _ _ => rfl)
      rw [Nat.mul_comm 3]
      exact ⟨hr.setOther (a := ⟨KB, l, none⟩) (hr.ne hk (by decide)) _, by have := h.ff.lt; have := h.bF; omega⟩
    · rw [if_neg e]
      exact ⟨(h'.lkr hlk l (by omega)).1.setOther (a := ⟨KB, d, none⟩) ((h'.lkr hlk l (by omega)).1.ne hk (by decide)) _, (h.lkr hlk l (by omega)).2⟩
  · intro _ l l' hl hl' he
    unfold upNN at he
    by_cases e1 : l = d <;> by_cases e2 : l' = d
    · omega
    · rw [if_pos e1, if_neg e2] at he
      have := (h.lkr hlk l' (by omega)).1.lt
      omega
    · rw [if_neg e1, if_pos e2] at he
      have := (h.lkr hlk l (by omega)).1.lt
      omega
    · rw [if_neg e1, if_neg e2] at he
      exact h.lki hlk l l' (by omega) (by omega) he
  · exact fun l hl => ⟨(h'.fr l hl).1.other (a := ⟨KB, d, none⟩) ((h'.fr l hl).1.table.ne hk (by decide)) (fun k hk' => ((h'.fr l hl).1.row k hk').ne hk (by decide)) _, (h.fr l hl).2⟩
/-- newIndexSet(n) has been called. -/
theorem MkM.free (h : MkM B w tv N lk TB FV LB FF KB LV LK D WB XB b c d C KT wr) {dd wb : Nat} {xb : Nat → Nat} (hb : Below wr.heap.size wr w') (hW : Words w' (N c) dd wb xb (fun _ _ => 0)) (hD : IsDepth (N c) dd) (hd : dd ≤ 65536) (hx : ∀ k, k < dd → wr.heap.size ≤ xb k) :
    MkM B w tv N lk TB FV LB FF KB LV LK (upNN D c dd) (upNN WB c wb) (upNF XB c xb) b (c + 1) d C KT w' := by
  have h' := h.keeps (Keeps.of_below (S := fun _ => False) hb)
  refine ⟨h'.tb, h'.fv, h'.lb, h'.ff, h'.kb, h'.kt, h'.lv, h'.lvi, h'.lkr, h'.lki, ?_, ?_, h'.bF, h'.below⟩
  · intro l hl
    unfold upNN upNF
    by_cases e : l = c
    · subst e
      rw [if_pos rfl, if_pos rfl, if_pos rfl]
      exact ⟨hW, hD, hd, fun k hk => by have := hx k hk; have := h.ff.lt; have := h.bF; omega⟩
    · rw [if_neg e, if_neg e, if_neg e]
      exact h'.fr l (by omega)
  · intro l l' hl hl' hne k k' hk hk'
    unfold upNN upNF at *
    by_cases e1 : l = c <;> by_cases e2 : l' = c
    · omega
    · rw [if_pos e1] at hk ⊢
      rw [if_neg e2] at hk' ⊢
      have h1 := hx k hk
      have h2 := ((h.fr l' (by omega)).1.row k' hk').lt
      omega
    · rw [if_neg e1] at hk ⊢
      rw [if_pos e2] at hk' ⊢
      have h1 := hx k' hk'
      have h2 := ((h.fr l (by omega)).1.row k hk).lt
      omega
    · rw [if_neg e1] at hk ⊢
      rw [if_neg e2] at hk' ⊢
      exact h.fri l l' (by omega) (by omega) hne k k' hk hk'
end
theorem info93z : (Try.prog.info? 93).map (fun i => (i.zero, i.size, i.bytes)) = some (some (.agg #[.int .i32 0, .int .i32 0, .int .i32 0, .int .i8 0, .bool false, .bool false]), 6, 16) := by kernel_rfl
theorem info98z : (Try.prog.info? 98).map (fun i => (i.zero, i.size, i.bytes)) = some (some (.agg #[.int .i32 0, .int .i32 0, .int .i32 0]), 3, 12) := by kernel_rfl
theorem wrap64_nat {q : Nat} (h : q ≤ 2147483647) : wrap64 ((q : Nat) : Int) = (q : Int) := by unfold wrap64; omega
theorem wrap_sum {b q : Nat} (h1 : b ≤ 65536) (h2 : q ≤ 2147483647) : IntKind.i64.wrap (((b : Nat) : Int) + ((q : Nat) : Int)) = ((b : Nat) : Int) + ((q : Nat) : Int) := by rw [IntKind.wrap_i64]; omega
theorem Row.cellK {w w' : World} {b : Nat} {t : TypeId} {n : Nat} {f : Nat → Value} {S : Nat → Prop} (h : Row w b t n f) (hs : ¬ S b) {i : Nat} (hi : i < n) {v : Value} (hv : f i = v) (k : Keeps S w w') : w'.cell? ⟨b, i, none⟩ = some v := by
  rw [← hv]; exact (h.keeps k hs).cell hi
theorem Row.cellF {w w' : World} {b FF : Nat} {t : TypeId} {n : Nat} {f C : Nat → Value} (h : Row w b t n f) (hf : Row w FF 88 40 C) (ht : t ≠ 88) {i : Nat} (hi : i < n) {v : Value} (hv : f i = v) (k : Keeps (fun b => b = FF) w w') : w'.cell? ⟨b, i, none⟩ = some v :=
  h.cellK (S := fun b => b = FF) (h.ne hf ht) hi hv k
end Go.Proofs.Qxb6609507a.U

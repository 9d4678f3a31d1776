import Derived.Test.Qxb6609507aTopo
import Derived.Deep.MidRow
/-! A FOREST UNDER GROWTH: its blocks, and what they hold when so many cells of each level are laid. -/
namespace Go.Proofs.Qxb6609507a.U
open Go.RowKit Go.Proofs.Qxb6609507a.Plain
set_option linter.unusedVariables false

/-- Elements a .. b-1, k cells each, are v's; the rest is f's. -/
def lay (k : Nat) (v : Nat → Nat → Value) (a b : Nat) (f : Nat → Value) : Nat → Value := fun q => if k * a ≤ q ∧ q < k * b then v (q / k) (q % k) else f q
theorem lay_nil (k : Nat) (v : Nat → Nat → Value) (a : Nat) (f : Nat → Value) : lay k v a a f = f := by
  funext q
  unfold lay
  rw [if_neg (by omega)]
theorem lay_lay (k : Nat) (v : Nat → Nat → Value) {a b c : Nat} (f : Nat → Value) (h1 : a ≤ b) (h2 : b ≤ c) : lay k v b c (lay k v a b f) = lay k v a c f := by
  have m1 : k * a ≤ k * b := Nat.mul_le_mul_left k h1
  have m2 : k * b ≤ k * c := Nat.mul_le_mul_left k h2
  funext q
  unfold lay
  by_cases e1 : k * b ≤ q ∧ q < k * c
  · rw [if_pos e1, if_pos (by omega)]
  · rw [if_neg e1]
    by_cases e2 : k * a ≤ q ∧ q < k * b
    · rw [if_pos e2, if_pos (by omega)]
    · rw [if_neg e2, if_neg (by omega)]

section
variable (fan t : Nat → Nat) (M : Nat)
/-- The cells of the i-th cell of level l. -/
def cellV (l i r : Nat) : Value := match r with
  | 0 => .int .i32 (i : Nat)
  | 1 => .int .i32 (-1)
  | 2 => .int .i32 0
  | 3 => .int .i8 (l : Nat)
  | 4 => .bool (Tp fan t M l i)
  | _ => .bool false
/-- .. and of its link. -/
def linkV (l i r : Nat) : Value := match r with
  | 0 => .int .i32 (F fan t M l i : Nat)
  | 1 => .int .i32 (Pa fan t M l i)
  | _ => .int .i32 (Ch fan t M l i)

/-- The blocks of a forest under growth: the variables 'grown', 'f', 'grow', 'linked'; the forest; its links' table; its rows. -/
structure Blk where
  GB : Nat
  FV : Nat
  GV : Nat
  LB : Nat
  FF : Nat
  KB : Nat
  LV : Nat → Nat
  LK : Nat → Nat

def growV (x : Blk) : Value := .func (.func 53) #[] #[.pointer (some ⟨x.GB, 0, none⟩), .pointer (some ⟨x.FV, 0, none⟩), .pointer (some ⟨x.GV, 0, none⟩), .pointer (some ⟨x.LB, 0, none⟩)]

/-- What of the forest's own cells the growth reads. -/
structure Head (x : Blk) (lk : Bool) (N : Nat → Nat) (C : Nat → Value) : Prop where
  levels : ∀ l, l < 5 → C (2 + l) = .slice (some ⟨x.LV l, 0, none⟩) (N l) (N l)
  links : C 22 = if lk = true then .pointer (some ⟨x.KB, 0, none⟩) else .pointer none
  size : ∀ l, l < 5 → C (28 + l) = .int .i32 (sz fan l : Nat)
  fanout : ∀ l, l < 6 → C (33 + l) = .int .i32 (fan l : Nat)

structure Gst (x : Blk) (lk : Bool) (N : Nat → Nat) (C : Nat → Value) (G : Nat → Nat) (A L : Nat → Nat → Value) (w : World) : Prop where
  gr : Row w x.GB 85 5 (fun l => .int .i32 (G l : Nat))
  fv : Row w x.FV 35 1 (fun _ => .pointer (some ⟨x.FF, 0, none⟩))
  gv : Row w x.GV 102 1 (fun _ => growV x)
  lb : Row w x.LB 4 1 (fun _ => .bool lk)
  ff : Row w x.FF 88 40 C
  lv : ∀ l, l < 5 → Row w (x.LV l) 93 (6 * N l) (A l)
  lvi : ∀ l l', l < 5 → l' < 5 → x.LV l = x.LV l' → l = l'
  kb : lk = true → Row w x.KB 99 5 (fun l => .slice (some ⟨x.LK l, 0, none⟩) (N l) (N l))
  lkr : lk = true → ∀ l, l < 5 → Row w (x.LK l) 98 (3 * N l) (L l)
  lki : lk = true → ∀ l l', l < 5 → l' < 5 → x.LK l = x.LK l' → l = l'

/-- The blocks that the growth writes. -/
def Wr (x : Blk) (lk : Bool) (k : Nat) : Prop := k = x.GB ∨ (∃ l, l < 5 ∧ k = x.LV l) ∨ (lk = true ∧ ∃ l, l < 5 ∧ k = x.LK l)
end

variable {fan t : Nat → Nat} {M : Nat}
theorem Gst.keeps {x : Blk} {lk : Bool} {N : Nat → Nat} {C : Nat → Value} {G : Nat → Nat} {A L : Nat → Nat → Value} {w w' : World} (h : Gst x lk N C G A L w) (k : Keeps (fun _ => False) w w') : Gst x lk N C G A L w' where
  gr := h.gr.keeps k id
  fv := h.fv.keeps k id
  gv := h.gv.keeps k id
  lb := h.lb.keeps k id
  ff := h.ff.keeps k id
  lv := fun l hl => (h.lv l hl).keeps k id
  lvi := h.lvi
  kb := fun e => (h.kb e).keeps k id
  lkr := fun e l hl => (h.lkr e l hl).keeps k id
  lki := h.lki
/-- 'grown[l]++'. -/
theorem Gst.count {x : Blk} {lk : Bool} {N : Nat → Nat} {C : Nat → Value} {G : Nat → Nat} {A L : Nat → Nat → Value} {w : World} (h : Gst x lk N C G A L w) (l : Nat) :
    Gst x lk N C (fun l' => if l' = l then G l' + 1 else G l') A L (w.setCell ⟨x.GB, l, none⟩ (.int .i32 (G l + 1 : Nat))) := by
  have n1 : x.FV ≠ x.GB := h.fv.ne h.gr (by decide)
  have n2 : x.GV ≠ x.GB := h.gv.ne h.gr (by decide)
  have n3 : x.LB ≠ x.GB := h.lb.ne h.gr (by decide)
  have n4 : x.FF ≠ x.GB := h.ff.ne h.gr (by decide)
  refine ⟨?_, h.fv.setOther (a := ⟨x.GB, l, none⟩) n1 _, h.gv.setOther (a := ⟨x.GB, l, none⟩) n2 _, h.lb.setOther (a := ⟨x.GB, l, none⟩) n3 _, h.ff.setOther (a := ⟨x.GB, l, none⟩) n4 _, ?_, h.lvi, ?_, ?_, h.lki⟩
  · refine (h.gr.set l _).congr fun i hi => ?_
    by_cases e : i = l
    · subst e; rw [if_pos rfl, if_pos rfl]
    · rw [if_neg e, if_neg e]
  · exact fun l' hl' => (h.lv l' hl').setOther (a := ⟨x.GB, l, none⟩) ((h.lv l' hl').ne h.gr (by decide)) _
  · exact fun e => (h.kb e).setOther (a := ⟨x.GB, l, none⟩) ((h.kb e).ne h.gr (by decide)) _
  · exact fun e l' hl' => (h.lkr e l' hl').setOther (a := ⟨x.GB, l, none⟩) ((h.lkr e l' hl').ne h.gr (by decide)) _

def upA (A : Nat → Nat → Value) (l : Nat) (f : Nat → Value) : Nat → Nat → Value := fun l' => if l' = l then f else A l'

theorem setCells_lay {w : World} {b : Nat} {ty : TypeId} {n k i : Nat} {f : Nat → Value} (h : Row w b ty n f) (v : Nat → Nat → Value) (vs : List Value) (hk : vs.length = k) (hk0 : 0 < k) (hv : ∀ r, r < k → vs.getD r undef = v i r) :
    Row (w.setCells b (k * i) vs) b ty n (lay k v i (i + 1) f) := by
  refine (Row.setCells vs (k * i) w f h).congr fun q hq => ?_
  unfold lay
  rw [hk, Nat.mul_add, Nat.mul_one]
  by_cases e : k * i ≤ q ∧ q < k * i + k
  · rw [if_pos e, if_pos e, hv _ (by omega)]
    have e1 : q / k = i := by
      rw [Nat.div_eq_iff hk0]
      have : i * k = k * i := Nat.mul_comm _ _
      omega
    have e2 : q % k = q - k * i := by
      have := Nat.mod_add_div q k
      rw [e1] at this
      omega
    rw [e1, e2]
  · rw [if_neg e, if_neg e]

/-- '*c = cell{..}'. -/
theorem Gst.cell {x : Blk} {lk : Bool} {N : Nat → Nat} {C : Nat → Value} {G : Nat → Nat} {A L : Nat → Nat → Value} {w : World} (h : Gst x lk N C G A L w) {l i : Nat} (hl : l < 5) (vs : List Value) (hn : vs.length = 6) (hv : ∀ r, r < 6 → vs.getD r undef = cellV fan t M l i r) :
    Gst x lk N C G (upA A l (lay 6 (cellV fan t M l) i (i + 1) (A l))) L (w.setCells (x.LV l) (6 * i) vs) := by
  have h0 := h.lv l hl
  refine ⟨Row.setCellsOther (h.gr.ne h0 (by decide)) _ _ _ h.gr, Row.setCellsOther (h.fv.ne h0 (by decide)) _ _ _ h.fv, Row.setCellsOther (h.gv.ne h0 (by decide)) _ _ _ h.gv, Row.setCellsOther (h.lb.ne h0 (by decide)) _ _ _ h.lb, Row.setCellsOther (h.ff.ne h0 (by decide)) _ _ _ h.ff, ?_, h.lvi, ?_, ?_, h.lki⟩
  · intro l' hl'
    unfold upA
    by_cases e : l' = l
    · subst e
      rw [if_pos rfl]
      exact setCells_lay h0 (cellV fan t M l') vs hn (by decide) hv
    · rw [if_neg e]
      exact Row.setCellsOther (fun e2 => e (h.lvi l' l hl' hl e2)) _ _ _ (h.lv l' hl')
  · exact fun e => Row.setCellsOther ((h.kb e).ne h0 (by decide)) _ _ _ (h.kb e)
  · exact fun e l' hl' => Row.setCellsOther ((h.lkr e l' hl').ne h0 (by decide)) _ _ _ (h.lkr e l' hl')
/-- 'f.links[l][ord] = link{..}'. -/
theorem Gst.link {x : Blk} {lk : Bool} {N : Nat → Nat} {C : Nat → Value} {G : Nat → Nat} {A L : Nat → Nat → Value} {w : World} (h : Gst x lk N C G A L w) (hlk : lk = true) {l i : Nat} (hl : l < 5) (vs : List Value) (hn : vs.length = 3) (hv : ∀ r, r < 3 → vs.getD r undef = linkV fan t M l i r) :
    Gst x lk N C G A (upA L l (lay 3 (linkV fan t M l) i (i + 1) (L l))) (w.setCells (x.LK l) (3 * i) vs) := by
  have h0 := h.lkr hlk l hl
  refine ⟨Row.setCellsOther (h.gr.ne h0 (by decide)) _ _ _ h.gr, Row.setCellsOther (h.fv.ne h0 (by decide)) _ _ _ h.fv, Row.setCellsOther (h.gv.ne h0 (by decide)) _ _ _ h.gv, Row.setCellsOther (h.lb.ne h0 (by decide)) _ _ _ h.lb, Row.setCellsOther (h.ff.ne h0 (by decide)) _ _ _ h.ff, ?_, h.lvi, ?_, ?_, h.lki⟩
  · exact fun l' hl' => Row.setCellsOther ((h.lv l' hl').ne h0 (by decide)) _ _ _ (h.lv l' hl')
  · exact fun e => Row.setCellsOther ((h.kb e).ne h0 (by decide)) _ _ _ (h.kb e)
  · intro e l' hl'
    unfold upA
    by_cases e1 : l' = l
    · subst e1
      rw [if_pos rfl]
      exact setCells_lay h0 (linkV fan t M l') vs hn (by decide) hv
    · rw [if_neg e1]
      exact Row.setCellsOther (fun e2 => e1 (h.lki hlk l' l hl' hl e2)) _ _ _ (h.lkr e l' hl')

/-! ### Rows as counted -/
def layA (fan t : Nat → Nat) (M : Nat) (G G' : Nat → Nat) (A : Nat → Nat → Value) : Nat → Nat → Value := fun l => lay 6 (cellV fan t M l) (G l) (G' l) (A l)
def layK (fan t : Nat → Nat) (M : Nat) (G G' : Nat → Nat) (L : Nat → Nat → Value) : Nat → Nat → Value := fun l => lay 3 (linkV fan t M l) (G l) (G' l) (L l)
/-- The links of the cells below level l alone. -/
def layU (fan t : Nat → Nat) (M l : Nat) (G G' : Nat → Nat) (L : Nat → Nat → Value) : Nat → Nat → Value := fun l' => if l' < l then lay 3 (linkV fan t M l') (G l') (G' l') (L l') else L l'

theorem stepG_mono (G : Nat → Nat) (l : Nat) {q q' : Nat} (h : q ≤ q') (l' : Nat) : Plain.stepG fan G l q l' ≤ Plain.stepG fan G l q' l' := by
  unfold Plain.stepG
  by_cases e : l' < l
  · rw [if_pos e, if_pos e]
    have := Nat.mul_le_mul_right (cn fan (l - 1) l') h
    omega
  · rw [if_neg e, if_neg e]; exact Nat.le_refl _
theorem le_stepG (G : Nat → Nat) (l q l' : Nat) : G l' ≤ Plain.stepG fan G l q l' := by
  unfold Plain.stepG
  split
  · exact Nat.le_add_right _ _
  · split
    · exact Nat.le_add_right _ _
    · exact Nat.le_refl _
theorem le_doneG (G : Nat → Nat) (l l' : Nat) : G l' ≤ doneG fan G l l' := by
  unfold doneG
  split
  · exact Nat.le_add_right _ _
  · exact Nat.le_refl _
theorem layA_layA {G G' G'' : Nat → Nat} (A : Nat → Nat → Value) (h1 : ∀ l, G l ≤ G' l) (h2 : ∀ l, G' l ≤ G'' l) : layA fan t M G' G'' (layA fan t M G G' A) = layA fan t M G G'' A := by
  funext l
  exact lay_lay _ _ _ (h1 l) (h2 l)
theorem layA_refl (G : Nat → Nat) (A : Nat → Nat → Value) : layA fan t M G G A = A := by
  funext l
  exact lay_nil _ _ _ _
theorem layA_own (G : Nat → Nat) (l : Nat) (A : Nat → Nat → Value) : upA A l (lay 6 (cellV fan t M l) (G l) (G l + 1) (A l)) = layA fan t M G (Plain.stepG fan G l 0) A := by
  funext l'
  rw [stepG_zero]
  unfold upA layA
  dsimp only
  by_cases e : l' = l
  · subst e; rw [if_pos rfl, if_pos rfl]
  · rw [if_neg e, if_neg e, lay_nil]
theorem layU_zero (l : Nat) (G : Nat → Nat) (L : Nat → Nat → Value) : layU fan t M l G (Plain.stepG fan G l 0) L = L := by
  funext l'
  rw [stepG_zero]
  unfold layU
  dsimp only
  by_cases e : l' < l
  · rw [if_pos e, if_neg (by omega), lay_nil]
  · rw [if_neg e]
theorem layU_succ (l q : Nat) (G : Nat → Nat) (L : Nat → Nat → Value) :
    layK fan t M (Plain.stepG fan G (l + 1) q) (doneG fan (Plain.stepG fan G (l + 1) q) l) (layU fan t M (l + 1) G (Plain.stepG fan G (l + 1) q) L) = layU fan t M (l + 1) G (Plain.stepG fan G (l + 1) (q + 1)) L := by
  rw [← stepG_succ]
  funext l'
  unfold layK layU
  by_cases e : l' < l + 1
  · rw [if_pos e, if_pos e]
    exact lay_lay _ _ _ (le_stepG _ _ _ _) (stepG_mono _ _ (by omega) _)
  · rw [if_neg e, if_neg e]
    have : Plain.stepG fan G (l + 1) (q + 1) l' = Plain.stepG fan G (l + 1) q l' := by
      unfold Plain.stepG; rw [if_neg e, if_neg e]
    rw [this, lay_nil]
theorem layU_all (l : Nat) (G : Nat → Nat) (L : Nat → Nat → Value) (h : Pos fan (l + 1)) :
    upA (layU fan t M (l + 1) G (Plain.stepG fan G (l + 1) (fan (l + 1))) L) (l + 1) (lay 3 (linkV fan t M (l + 1)) (G (l + 1)) (G (l + 1) + 1) (layU fan t M (l + 1) G (Plain.stepG fan G (l + 1) (fan (l + 1))) L (l + 1))) = layK fan t M G (doneG fan G (l + 1)) L := by
  rw [stepG_all G l h]
  funext l'
  unfold upA
  by_cases e : l' = l + 1
  · subst e
    rw [if_pos rfl]
    unfold layU layK
    rw [if_neg (by omega)]
    have : doneG fan G (l + 1) (l + 1) = G (l + 1) + 1 := by
      unfold doneG; rw [if_pos (Nat.le_refl _), cn_self h]
    rw [this]
  · rw [if_neg e]
    unfold layU layK
    by_cases e2 : l' < l + 1
    · rw [if_pos e2]
    · rw [if_neg e2]
      have : doneG fan G (l + 1) l' = G l' := by
        unfold doneG; rw [if_neg (by omega)]
      rw [this, lay_nil]
theorem layK_zero (G : Nat → Nat) (L : Nat → Nat → Value) : upA L 0 (lay 3 (linkV fan t M 0) (G 0) (G 0 + 1) (L 0)) = layK fan t M G (doneG fan G 0) L := by
  funext l'
  unfold upA layK
  by_cases e : l' = 0
  · subst e
    rw [if_pos rfl]
    have : doneG fan G 0 0 = G 0 + 1 := by
      unfold doneG; rw [if_pos (Nat.le_refl _), cn_self (fun l h1 h2 => by omega)]
    rw [this]
  · rw [if_neg e]
    have : doneG fan G 0 l' = G l' := by
      unfold doneG; rw [if_neg (by omega)]
    rw [this, lay_nil]
end Go.Proofs.Qxb6609507a.U

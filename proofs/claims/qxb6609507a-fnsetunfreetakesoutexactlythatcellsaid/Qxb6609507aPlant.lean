import Derived.Test.Qxb6609507aMake2
import Derived.Test.Qxb6609507aBuildLem3
/-! growForest: TREE BY TREE. -/
namespace Go.Proofs.Qxb6609507a.U
open Go.RowKit Go.Proofs.Qxb6609507a.Plain
set_option linter.unusedVariables false

theorem own_keeps {w w' : World} {S : Nat → Prop} {base : Nat} {e : TypeId} {size : Nat} {v : Value} {n : Nat} {xs : List Value} (h : w.ownsRow base e size v n xs) (k : Keeps S w w') (hs : ∀ g, v.ownBlock = some g → ¬ S g) : w'.ownsRow base e size v n xs := by
  obtain ⟨hl, ⟨hv, hn⟩ | ⟨g, cap, cur, hv, hg, hh, hr⟩⟩ := h
  · exact ⟨hl, .inl ⟨hv, hn⟩⟩
  · refine ⟨hl, .inr ⟨g, cap, cur, hv, hg, ?_, hr⟩⟩
    have hlt : g < w.heap.size := (Array.getElem?_eq_some_iff.1 hh).1
    rw [k.block g hlt (hs g (by rw [hv]; rfl))]
    exact hh

section
variable (fan t : Nat → Nat) (M : Nat)
def AJ (j : Nat) : Nat → Nat → Value := layA fan t M (fun _ => 0) (bs fan t j) (fun _ q => z93 (q % 6))
def KJ (j : Nat) : Nat → Nat → Value := layK fan t M (fun _ => 0) (bs fan t j) (fun _ _ => .int .i32 0)
/-- The free cells when j trees stand. -/
def SJ (j l i : Nat) : Bool := decide (i < bs fan t j l) && Tp fan t M l i
def rootF (x : Blk) (i : Nat) : Value := .pointer (some ⟨x.LV (t i), bs fan t i (t i) * 6, none⟩)
def rootsL (x : Blk) (j : Nat) : List Value := (List.range j).map (rootF fan t x)
def runF (rl rf ro rc : List Nat) (q : Nat) : Value := match q % 4 with
  | 0 => .int .i8 (rl.getD (q / 4) 0 : Nat)
  | 1 => .int .i32 (rf.getD (q / 4) 0 : Nat)
  | 2 => .int .i32 (ro.getD (q / 4) 0 : Nat)
  | _ => .int .i32 (rc.getD (q / 4) 0 : Nat)
def runsL (j : Nat) : List Value := (List.range ((RL t j).length * 4)).map (runF (RL t j) (RF fan t j) (RO fan t j) (RC t j))
variable {fan t M}

theorem AJ_succ (j : Nat) : layA fan t M (bs fan t j) (bs fan t (j + 1)) (AJ fan t M j) = AJ fan t M (j + 1) :=
  layA_layA _ (fun _ => Nat.zero_le _) (fun l => bs_mono (by omega) l)
theorem KJ_succ (j : Nat) : layK fan t M (bs fan t j) (bs fan t (j + 1)) (KJ fan t M j) = KJ fan t M (j + 1) := by
  funext l
  exact lay_lay _ _ _ (Nat.zero_le _) (bs_mono (by omega) l)
theorem AJ_zero : AJ fan t M 0 = fun _ q => z93 (q % 6) := layA_refl _ _
theorem KJ_zero : KJ fan t M 0 = fun _ _ => .int .i32 0 := by
  funext l
  exact lay_nil 3 (linkV fan t M l) 0 (fun _ => .int .i32 0)

theorem SJ_zero (l i : Nat) : SJ fan t M 0 l i = false := by
  unfold SJ
  rw [decide_eq_false (by show ¬ i < 0; omega), Bool.false_and]
/-- Tree j's own cell is new among the free. -/
theorem SJ_own {j : Nat} (hj : j < M) (hp : Pos fan (t j)) : SJ fan t M (j + 1) (t j) = fun x => SJ fan t M j (t j) x || decide (x = bs fan t j (t j)) := by
  funext i
  unfold SJ
  have e : bs fan t (j + 1) (t j) = bs fan t j (t j) + 1 := by
    show bs fan t j (t j) + cn fan (t j) (t j) = _
    rw [cn_self hp]
  rw [e]
  by_cases h1 : i < bs fan t j (t j)
  · rw [decide_eq_true h1, decide_eq_true (show i < bs fan t j (t j) + 1 by omega), decide_eq_false (show ¬ i = bs fan t j (t j) by omega), Bool.or_false]
  · by_cases h2 : i = bs fan t j (t j)
    · have ht : Tp fan t M (t j) i = true := by
        have h := Tp_at (fan := fan) (t := t) (M := M) (l := t j) (k := 0) hj (by rw [cn_self hp]; exact Nat.one_pos)
        rw [Nat.add_zero] at h
        rw [h2, h]; simp
      rw [ht, decide_eq_true h2, decide_eq_true (show i < bs fan t j (t j) + 1 by omega), Bool.or_true]; rfl
    · rw [decide_eq_false h1, decide_eq_false h2, decide_eq_false (show ¬ i < bs fan t j (t j) + 1 by omega)]; rfl
theorem SJ_other {j l : Nat} (hj : j < M) (hl : l ≠ t j) : SJ fan t M (j + 1) l = SJ fan t M j l := by
  funext i
  unfold SJ
  by_cases h1 : i < bs fan t j l
  · rw [decide_eq_true h1, decide_eq_true (Nat.lt_of_lt_of_le h1 (bs_mono (by omega) l))]
  · rw [decide_eq_false h1, Bool.false_and]
    by_cases h2 : i < bs fan t (j + 1) l
    · have h3 : i < bs fan t j l + cn fan (t j) l := h2
      have h := Tp_at (fan := fan) (t := t) (M := M) (j := j) (l := l) (k := i - bs fan t j l) hj (by omega)
      rw [show bs fan t j l + (i - bs fan t j l) = i by omega, decide_eq_false hl] at h
      rw [h, Bool.and_false]
    · rw [decide_eq_false h2, Bool.false_and]
theorem SJ_new (j l : Nat) : SJ fan t M j l (bs fan t j l) = false := by
  unfold SJ
  rw [decide_eq_false (Nat.lt_irrefl _), Bool.false_and]

theorem range_set (n : Nat) (f : Nat → Value) (i : Nat) (v : Value) : ((List.range n).map f).set i v = (List.range n).map (updC f i v) := by
  refine List.ext_getElem? fun q => ?_
  rw [List.getElem?_set, List.length_map, List.length_range, List.getElem?_map, List.getElem?_map]
  by_cases hq : q < n
  · rw [List.getElem?_range hq]
    by_cases e : i = q
    · subst e
      rw [if_pos rfl, if_pos hq]
      show _ = some (updC f i v i)
      rw [updC_at]
    · rw [if_neg e]
      show some (f q) = some (updC f i v q)
      rw [updC_ne _ _ (fun h => e h.symm)]
  · rw [List.getElem?_eq_none (by rw [List.length_range]; omega)]
    split
    · split
      · omega
      · rfl
    · rfl
theorem range_app4 (n : Nat) (f f' : Nat → Value) (h : ∀ q, q < n → f q = f' q) : (List.range n).map f ++ [f' n, f' (n + 1), f' (n + 2), f' (n + 3)] = (List.range (n + 4)).map f' := by
  rw [show n + 4 = n + 1 + 1 + 1 + 1 by omega, List.range_succ, List.range_succ, List.range_succ, List.range_succ]
  simp only [List.map_append, List.map_cons, List.map_nil, List.append_assoc, List.cons_append, List.nil_append]
  congr 1
  exact List.map_congr_left fun q hq => h q (List.mem_range.1 hq)
theorem getD_app {l : List Nat} {v : Nat} {i : Nat} (h : i < l.length) : (l ++ [v]).getD i 0 = l.getD i 0 := by
  rw [List.getD_eq_getElem?_getD, List.getElem?_append_left h, ← List.getD_eq_getElem?_getD]
theorem getD_last (l : List Nat) (v : Nat) : (l ++ [v]).getD l.length 0 = v := by
  rw [List.getD_eq_getElem?_getD, List.getElem?_append_right (Nat.le_refl _), Nat.sub_self]; rfl

/-- A new run. -/
theorem runs_new {j : Nat} (hc : cont t j = false) :
    runsL fan t j ++ [.int .i8 (t j : Nat), .int .i32 (off fan t j : Nat), .int .i32 (bs fan t j (t j) : Nat), .int .i32 1] = runsL fan t (j + 1) ∧ (RL t (j + 1)).length = (RL t j).length + 1 := by
  have e1 : RL t (j + 1) = RL t j ++ [t j] := by show (if cont t j = true then _ else _) = _; rw [if_neg (by rw [hc]; decide)]
  have e2 : RF fan t (j + 1) = RF fan t j ++ [off fan t j] := by show (if cont t j = true then _ else _) = _; rw [if_neg (by rw [hc]; decide)]
  have e3 : RO fan t (j + 1) = RO fan t j ++ [bs fan t j (t j)] := by show (if cont t j = true then _ else _) = _; rw [if_neg (by rw [hc]; decide)]
  have e4 : RC t (j + 1) = RC t j ++ [1] := by show (if cont t j = true then _ else _) = _; rw [if_neg (by rw [hc]; decide)]
  have hlen : (RL t (j + 1)).length = (RL t j).length + 1 := by rw [e1, List.length_append]; rfl
  refine ⟨?_, hlen⟩
  obtain ⟨R, hR⟩ : ∃ R, R = (RL t j).length := ⟨_, rfl⟩
  have h2 : (RF fan t j).length = R := (RF_len j).trans hR.symm
  have h3 : (RO fan t j).length = R := (RO_len j).trans hR.symm
  have h4 : (RC t j).length = R := (RC_len j).trans hR.symm
  unfold runsL
  rw [hlen, ← hR]
  have key := range_app4 (R * 4) (runF (RL t j) (RF fan t j) (RO fan t j) (RC t j)) (runF (RL t (j + 1)) (RF fan t (j + 1)) (RO fan t (j + 1)) (RC t (j + 1))) (fun q hq => by
    have hq4 : q / 4 < R := by omega
    unfold runF
    rw [e1, e2, e3, e4, getD_app (by omega), getD_app (by omega), getD_app (by omega), getD_app (by omega)])
  rw [show (R + 1) * 4 = R * 4 + 4 by omega, ← key]
  congr 1
  have d0 : R * 4 / 4 = R := by omega
  have d1 : (R * 4 + 1) / 4 = R := by omega
  have d2 : (R * 4 + 2) / 4 = R := by omega
  have d3 : (R * 4 + 3) / 4 = R := by omega
  have m0 : R * 4 % 4 = 0 := by omega
  have m1 : (R * 4 + 1) % 4 = 1 := by omega
  have m2 : (R * 4 + 2) % 4 = 2 := by omega
  have m3 : (R * 4 + 3) % 4 = 3 := by omega
  have g1 : (RL t (j + 1)).getD R 0 = t j := by rw [e1, hR]; exact getD_last _ _
  have g2 : (RF fan t (j + 1)).getD R 0 = off fan t j := by rw [e2, ← h2]; exact getD_last _ _
  have g3 : (RO fan t (j + 1)).getD R 0 = bs fan t j (t j) := by rw [e3, ← h3]; exact getD_last _ _
  have g4 : (RC t (j + 1)).getD R 0 = 1 := by rw [e4, ← h4]; exact getD_last _ _
  have f0 : runF (RL t (j + 1)) (RF fan t (j + 1)) (RO fan t (j + 1)) (RC t (j + 1)) (R * 4) = .int .i8 (t j : Nat) := by unfold runF; (rw [m0, d0]; show Value.int .i8 (((RL t (j + 1)).getD R 0 : Nat) : Int) = _; rw [g1])
  have f1 : runF (RL t (j + 1)) (RF fan t (j + 1)) (RO fan t (j + 1)) (RC t (j + 1)) (R * 4 + 1) = .int .i32 (off fan t j : Nat) := by unfold runF; (rw [m1, d1]; show Value.int .i32 (((RF fan t (j + 1)).getD R 0 : Nat) : Int) = _; rw [g2])
  have f2 : runF (RL t (j + 1)) (RF fan t (j + 1)) (RO fan t (j + 1)) (RC t (j + 1)) (R * 4 + 2) = .int .i32 (bs fan t j (t j) : Nat) := by unfold runF; (rw [m2, d2]; show Value.int .i32 (((RO fan t (j + 1)).getD R 0 : Nat) : Int) = _; rw [g3])
  have f3 : runF (RL t (j + 1)) (RF fan t (j + 1)) (RO fan t (j + 1)) (RC t (j + 1)) (R * 4 + 3) = .int .i32 (1 : Nat) := by unfold runF; (rw [m3, d3]; show Value.int .i32 (((RC t (j + 1)).getD R 0 : Nat) : Int) = _; rw [g4])
  rw [f0, f1, f2, f3]; rfl
/-- The run goes on. -/
theorem runs_more {j r : Nat} (hc : cont t j = true) (hr : (RL t j).length = r + 1) :
    (runsL fan t j).set (r * 4 + 3) (.int .i32 ((RC t j).getD r 0 + 1 : Nat)) = runsL fan t (j + 1) ∧ (RL t (j + 1)).length = r + 1 := by
  obtain ⟨e1, e2, e3, e4⟩ := R_cont (fan := fan) hc
  have h4 : (RC t j).length = r + 1 := (RC_len j).trans hr
  refine ⟨?_, by rw [e1, hr]⟩
  unfold runsL
  rw [range_set, e1, hr]
  refine List.map_congr_left fun q hq => ?_
  have hq' := List.mem_range.1 hq
  rw [e2, e3, e4, h4, Nat.add_sub_cancel]
  by_cases e : q = r * 4 + 3
  · subst e
    rw [updC_at]
    unfold runF
    rw [show (r * 4 + 3) % 4 = 3 by omega, show (r * 4 + 3) / 4 = r by omega]
    show _ = Value.int .i32 _
    rw [List.getD_eq_getElem?_getD (l := (RC t j).set r _), List.getElem?_set, if_pos rfl, if_pos (by omega)]
    rfl
  · rw [updC_ne _ _ e]
    unfold runF
    by_cases e3 : q % 4 = 3
    · have hne : ¬ r = q / 4 := by omega
      rw [e3]
      show Value.int .i32 _ = Value.int .i32 _
      rw [List.getD_eq_getElem?_getD (l := (RC t j).set r _), List.getElem?_set, if_neg hne, ← List.getD_eq_getElem?_getD]
    · have hlt : q % 4 = 0 ∨ q % 4 = 1 ∨ q % 4 = 2 := by omega
      rcases hlt with h | h | h <;> (rw [h]; rfl)

theorem runs_get {j k r : Nat} (hk : k < (RL t j).length) (hr : r < 4) : (runsL fan t j)[k * 4 + r]? = some (runF (RL t j) (RF fan t j) (RO fan t j) (RC t j) (k * 4 + r)) := by
  unfold runsL
  rw [List.getElem?_map, List.getElem?_range (by omega)]; rfl

structure PlC (fan t : Nat → Nat) (M : Nat) (x : Blk) (lk : Bool) (N D WB cc : Nat → Nat) (XB : Nat → Nat → Nat) (S : Nat → Nat → Bool) (V0 V1 : Value) (C : Nat → Value) : Prop where
  head : Head fan x lk N C
  c0 : C 0 = V0
  c1 : C 1 = V1
  inn : ∀ l, l < 4 → C (23 + l) = .int .i32 (N (l + 1) * fan (l + 1) : Nat)
  c27 : C 27 = .int .i32 0
  c39 : C 39 = .pointer none
  f0 : ∀ l, l < 5 → C (7 + l * 3) = .slice (some ⟨WB l, 0, none⟩) (D l) (cc l)
  f1 : ∀ l, l < 5 → C (7 + l * 3 + 1) = .slice (some ⟨XB l 0, 0, none⟩) (wlen (N l) 0) (wlen (N l) 0)
  f2 : ∀ l, l < 5 → C (7 + l * 3 + 2) = .int .i64 (cnt (S l) (N l) : Nat)
structure PlB (fan t : Nat → Nat) (M B : Nat) (w : World) (x : Blk) (lk : Bool) (N D WB : Nat → Nat) (XB : Nat → Nat → Nat) (S : Nat → Nat → Bool) (jg : Nat) (C : Nat → Value) (X : Nat → Nat → Nat → Nat) (wr : World) : Prop where
  st : Gst x lk N C (bs fan t jg) (AJ fan t M jg) (KJ fan t M jg) wr
  fr : ∀ l, l < 5 → Words wr (N l) (D l) (WB l) (XB l) (X l) ∧ Ok (wlen (N l)) (D l) (S l) (X l) ∧ IsDepth (N l) (D l) ∧ D l ≤ 65536 ∧ ∀ k, k < D l → B ≤ XB l k
  fri : ∀ l l', l < 5 → l' < 5 → l ≠ l' → ∀ k k', k < D l → k' < D l' → XB l k ≠ XB l' k'
  bF : B ≤ x.FF
  bW : ∀ k, Wr x lk k → B ≤ k
  below : Below B w wr
structure PlM (fan t : Nat → Nat) (M B : Nat) (w : World) (x : Blk) (lk : Bool) (N D WB : Nat → Nat) (XB : Nat → Nat → Nat) (S : Nat → Nat → Bool) (jg jr ju : Nat) (C : Nat → Value) (X : Nat → Nat → Nat → Nat) (V0 V1 : Value) (wr : World) : Prop where
  base : PlB fan t M B w x lk N D WB XB S jg C X wr
  ro : wr.ownsRow B 62 1 V0 jr (rootsL fan t x jr)
  ru : wr.ownsRow B 104 4 V1 (RL t ju).length (runsL fan t ju)
/-- The forest with so many trees grown, rooted, free, in runs. -/
def Pl (fan t : Nat → Nat) (M B : Nat) (w : World) (x : Blk) (lk : Bool) (N D WB cc : Nat → Nat) (XB : Nat → Nat → Nat) (jg jr jf ju : Nat) (wr : World) : Prop :=
  ∃ (C : Nat → Value) (X : Nat → Nat → Nat → Nat) (V0 V1 : Value), PlC fan t M x lk N D WB cc XB (SJ fan t M jf) V0 V1 C ∧ PlM fan t M B w x lk N D WB XB (SJ fan t M jf) jg jr ju C X V0 V1 wr

variable {B : Nat} {w : World} {x : Blk} {lk : Bool} {N D WB cc : Nat → Nat} {XB : Nat → Nat → Nat} {S : Nat → Nat → Bool} {jg jr ju : Nat} {C : Nat → Value} {X : Nat → Nat → Nat → Nat} {V0 V1 : Value} {wr w' : World} {G : Nat → Nat} {A L : Nat → Nat → Value}
theorem Gst.keepsS (h : Gst x lk N C G A L wr) {Z : Nat → Prop} (k : Keeps Z wr w') (hz : ∀ b ty n f, Row wr b ty n f → ty ≠ 62 → ty ≠ 104 → ty ≠ 55 → ¬ Z b) : Gst x lk N C G A L w' where
  gr := h.gr.keeps k (hz _ _ _ _ h.gr (by decide) (by decide) (by decide))
  fv := h.fv.keeps k (hz _ _ _ _ h.fv (by decide) (by decide) (by decide))
  gv := h.gv.keeps k (hz _ _ _ _ h.gv (by decide) (by decide) (by decide))
  lb := h.lb.keeps k (hz _ _ _ _ h.lb (by decide) (by decide) (by decide))
  ff := h.ff.keeps k (hz _ _ _ _ h.ff (by decide) (by decide) (by decide))
  lv := fun l hl => (h.lv l hl).keeps k (hz _ _ _ _ (h.lv l hl) (by decide) (by decide) (by decide))
  lvi := h.lvi
  kb := fun e => (h.kb e).keeps k (hz _ _ _ _ (h.kb e) (by decide) (by decide) (by decide))
  lkr := fun e l hl => (h.lkr e l hl).keeps k (hz _ _ _ _ (h.lkr e l hl) (by decide) (by decide) (by decide))
  lki := h.lki
theorem Gst.setFF (h : Gst x lk N C G A L wr) (o : Nat) (v : Value) : Gst x lk N (updC C o v) G A L (wr.setCell ⟨x.FF, o, none⟩ v) where
  gr := h.gr.setOther (a := ⟨x.FF, o, none⟩) (h.gr.ne h.ff (by decide)) v
  fv := h.fv.setOther (a := ⟨x.FF, o, none⟩) (h.fv.ne h.ff (by decide)) v
  gv := h.gv.setOther (a := ⟨x.FF, o, none⟩) (h.gv.ne h.ff (by decide)) v
  lb := h.lb.setOther (a := ⟨x.FF, o, none⟩) (h.lb.ne h.ff (by decide)) v
  ff := h.ff.set o v
  lv := fun l hl => (h.lv l hl).setOther (a := ⟨x.FF, o, none⟩) ((h.lv l hl).ne h.ff (by decide)) v
  lvi := h.lvi
  kb := fun e => (h.kb e).setOther (a := ⟨x.FF, o, none⟩) ((h.kb e).ne h.ff (by decide)) v
  lkr := fun e l hl => (h.lkr e l hl).setOther (a := ⟨x.FF, o, none⟩) ((h.lkr e l hl).ne h.ff (by decide)) v
  lki := h.lki
theorem Wr.gone (h : PlB fan t M B w x lk N D WB XB S jg C X wr) {b : Nat} {ty : TypeId} {n : Nat} {f : Nat → Value} (hr : Row wr b ty n f) (h1 : ty ≠ 85) (h2 : ty ≠ 93) (h3 : ty ≠ 98) : ¬ Wr x lk b := by
  rintro (e | ⟨l, hl, e⟩ | ⟨hlk, l, hl, e⟩)
  · exact hr.ne h.st.gr h1 e
  · exact hr.ne (h.st.lv l hl) h2 e
  · exact hr.ne (h.st.lkr hlk l hl) h3 e
theorem PlB.lt (h : PlB fan t M B w x lk N D WB XB S jg C X wr) : B ≤ wr.heap.size := by have := h.st.ff.lt; have := h.bF; omega
/-- Blocks of the roots' or the runs' own have changed. -/
theorem PlB.keepsS (h : PlB fan t M B w x lk N D WB XB S jg C X wr) {Z : Nat → Prop} (k : Keeps Z wr w') (hz : ∀ b ty n f, Row wr b ty n f → ty ≠ 62 → ty ≠ 104 → ¬ Z b) (hb : ∀ b, Z b → B ≤ b) : PlB fan t M B w x lk N D WB XB S jg C X w' where
  st := h.st.keepsS k (fun b ty n f hr h1 h2 _ => hz b ty n f hr h1 h2)
  fr := fun l hl => ⟨(h.fr l hl).1.keeps k (hz _ _ _ _ (h.fr l hl).1.table (by decide) (by decide)) (fun i hi => hz _ _ _ _ ((h.fr l hl).1.row i hi) (by decide) (by decide)), (h.fr l hl).2⟩
  fri := h.fri
  bF := h.bF
  bW := h.bW
  below := h.below.trans (k.below h.lt hb)
theorem PlB.setFF (h : PlB fan t M B w x lk N D WB XB S jg C X wr) (o : Nat) (v : Value) : PlB fan t M B w x lk N D WB XB S jg (updC C o v) X (wr.setCell ⟨x.FF, o, none⟩ v) where
  st := h.st.setFF o v
  fr := fun l hl => ⟨(h.fr l hl).1.other (a := ⟨x.FF, o, none⟩) ((h.fr l hl).1.table.ne h.st.ff (by decide)) (fun k hk => ((h.fr l hl).1.row k hk).ne h.st.ff (by decide)) v, (h.fr l hl).2⟩
  fri := h.fri
  bF := h.bF
  bW := h.bW
  below := h.below.setCell h.bF v
theorem PlM.keeps (h : PlM fan t M B w x lk N D WB XB S jg jr ju C X V0 V1 wr) (k : Keeps (fun _ => False) wr w') : PlM fan t M B w x lk N D WB XB S jg jr ju C X V0 V1 w' where
  base := h.base.keepsS k (fun _ _ _ _ _ _ _ => id) (fun _ f => f.elim)
  ro := own_keeps h.ro k (fun _ _ => id)
  ru := own_keeps h.ru k (fun _ _ => id)
/-- A tree has been grown. -/
theorem PlM.grow (h : PlM fan t M B w x lk N D WB XB S jg jr ju C X V0 V1 wr) (hs : Gst x lk N C (bs fan t (jg + 1)) (AJ fan t M (jg + 1)) (KJ fan t M (jg + 1)) w') (k : Keeps (Wr x lk) wr w') : PlM fan t M B w x lk N D WB XB S (jg + 1) jr ju C X V0 V1 w' where
  base := {
    st := hs
    fr := fun l hl => ⟨(h.base.fr l hl).1.keeps k (Wr.gone h.base (h.base.fr l hl).1.table (by decide) (by decide) (by decide)) (fun i hi => Wr.gone h.base ((h.base.fr l hl).1.row i hi) (by decide) (by decide) (by decide)), (h.base.fr l hl).2⟩
    fri := h.base.fri
    bF := h.base.bF
    bW := h.base.bW
    below := h.base.below.trans (k.below h.base.lt h.base.bW) }
  ro := own_keeps h.ro k (fun g hg => by
    rintro (e | ⟨l, hl, e⟩ | ⟨hlk, l, hl, e⟩)
    · exact own_ne h.ro h.base.st.gr (by decide) (by rw [hg, e])
    · exact own_ne h.ro (h.base.st.lv l hl) (by decide) (by rw [hg, e])
    · exact own_ne h.ro (h.base.st.lkr hlk l hl) (by decide) (by rw [hg, e]))
  ru := own_keeps h.ru k (fun g hg => by
    rintro (e | ⟨l, hl, e⟩ | ⟨hlk, l, hl, e⟩)
    · exact own_ne h.ru h.base.st.gr (by decide) (by rw [hg, e])
    · exact own_ne h.ru (h.base.st.lv l hl) (by decide) (by rw [hg, e])
    · exact own_ne h.ru (h.base.st.lkr hlk l hl) (by decide) (by rw [hg, e]))
theorem keeps_of_grown {W w1 : World} {row : Option Nat} (hg : W.grownBy w1 row) : Keeps (fun b => row = some b) W w1 :=
  ⟨hg.os, hg.tape, hg.output, hg.size, fun b hb hne => hg.block b hb (fun e => hne e.symm)⟩
theorem own_apart {W : World} {b1 b2 : Nat} {e1 e2 : TypeId} {s1 s2 : Nat} {v1 v2 : Value} {n1 n2 : Nat} {x1 x2 : List Value} (h1 : W.ownsRow b1 e1 s1 v1 n1 x1) (h2 : W.ownsRow b2 e2 s2 v2 n2 x2) (hne : e1 ≠ e2) {g : Nat} (hg : v1.ownBlock = some g) : v2.ownBlock ≠ some g := by
  intro hg2
  obtain ⟨_, ⟨hv, _⟩ | ⟨g1, cap, cur, hv, _, hh, _⟩⟩ := h1
  · rw [hv] at hg; cases hg
  · rw [hv] at hg
    have e : g1 = g := by simpa [Value.ownBlock] using hg
    subst e
    obtain ⟨_, ⟨hv2, _⟩ | ⟨g2, cap2, cur2, hv2, _, hh2, _⟩⟩ := h2
    · rw [hv2] at hg2; cases hg2
    · rw [hv2] at hg2
      have e : g2 = g1 := by simpa [Value.ownBlock] using hg2
      subst e
      rw [hh] at hh2
      simp only [Option.some.injEq, Obj.cells.injEq] at hh2
      exact hne hh2.2.1
/-- 'f.roots = append(f.roots, root)'. -/
theorem PlM.root (h : PlM fan t M B w x lk N D WB XB S jg jr ju C X V0 V1 wr) {W w1 : World} (k : Keeps (fun _ => False) wr W) {gg cap : Nat}
    (hown : w1.ownsRow B 62 1 (.slice (some ⟨gg, 0, none⟩) (jr + 1) cap) (jr + 1) (rootsL fan t x jr ++ [rootF fan t x jr])) (hg : W.grownBy w1 V0.ownBlock) :
    PlM fan t M B w x lk N D WB XB S jg (jr + 1) ju (updC C 0 (.slice (some ⟨gg, 0, none⟩) (jr + 1) cap)) X (.slice (some ⟨gg, 0, none⟩) (jr + 1) cap) V1 (w1.setCell ⟨x.FF, 0, none⟩ (.slice (some ⟨gg, 0, none⟩) (jr + 1) cap)) := by
  have h' := h.keeps k
  have k1 := keeps_of_grown hg
  have hb := h'.base.keepsS k1 (fun b ty n f hr h1 h2 e => own_ne h'.ro hr (fun e2 => h1 e2.symm) e) (fun b e => (h'.ro.lt b e).1)
  refine ⟨hb.setFF 0 _, ?_, ?_⟩
  · have e : rootsL fan t x jr ++ [rootF fan t x jr] = rootsL fan t x (jr + 1) := by
      unfold rootsL; rw [List.range_succ, List.map_append]; rfl
    rw [e] at hown
    exact ownsRow_setCell_other hown (a := ⟨x.FF, 0, none⟩) (own_ne hown hb.st.ff (by decide)) _
  · have hru := own_keeps h'.ru k1 (fun g hg2 e => own_apart h'.ru h'.ro (by decide) hg2 e)
    exact ownsRow_setCell_other hru (a := ⟨x.FF, 0, none⟩) (own_ne hru hb.st.ff (by decide)) _
/-- 'f.runs = append(f.runs, run{..})'. -/
theorem PlM.run (h : PlM fan t M B w x lk N D WB XB S jg jr ju C X V0 V1 wr) (hc : cont t ju = false) {W w1 : World} (k : Keeps (fun _ => False) wr W) {gg cap R : Nat} (hR : R = (RL t ju).length)
    (hown : w1.ownsRow B 104 4 (.slice (some ⟨gg, 0, none⟩) (R + 1) cap) (R + 1) (runsL fan t ju ++ [.int .i8 (t ju : Nat), .int .i32 (off fan t ju : Nat), .int .i32 (bs fan t ju (t ju) : Nat), .int .i32 1])) (hg : W.grownBy w1 V1.ownBlock) :
    PlM fan t M B w x lk N D WB XB S jg jr (ju + 1) (updC C 1 (.slice (some ⟨gg, 0, none⟩) (R + 1) cap)) X V0 (.slice (some ⟨gg, 0, none⟩) (R + 1) cap) (w1.setCell ⟨x.FF, 1, none⟩ (.slice (some ⟨gg, 0, none⟩) (R + 1) cap)) := by
  have h' := h.keeps k
  have k1 := keeps_of_grown hg
  have hb := h'.base.keepsS k1 (fun b ty n f hr h1 h2 e => own_ne h'.ru hr (fun e2 => h2 e2.symm) e) (fun b e => (h'.ru.lt b e).1)
  obtain ⟨e1, e2⟩ := runs_new (fan := fan) hc
  refine ⟨hb.setFF 1 _, ?_, ?_⟩
  · have hro := own_keeps h'.ro k1 (fun g hg2 e => own_apart h'.ro h'.ru (by decide) hg2 e)
    exact ownsRow_setCell_other hro (a := ⟨x.FF, 1, none⟩) (own_ne hro hb.st.ff (by decide)) _
  · rw [e1] at hown
    rw [e2, ← hR]
    exact ownsRow_setCell_other hown (a := ⟨x.FF, 1, none⟩) (own_ne hown hb.st.ff (by decide)) _
/-- 'f.runs[k].count++'. -/
theorem PlM.more (h : PlM fan t M B w x lk N D WB XB S jg jr ju C X V0 V1 wr) (hc : cont t ju = true) {g cap r : Nat} (hr : (RL t ju).length = r + 1) (hv : V1 = .slice (some ⟨g, 0, none⟩) (r + 1) cap) :
    PlM fan t M B w x lk N D WB XB S jg jr (ju + 1) C X V0 V1 (wr.setCell ⟨g, r * 4 + 3, none⟩ (.int .i32 ((RC t ju).getD r 0 + 1 : Nat))) := by
  obtain ⟨e1, e2⟩ := runs_more (fan := fan) hc hr
  have hru := h.ru
  rw [hr, hv] at hru
  have hgB : B ≤ g := (hru.lt g rfl).1
  have k1 : Keeps (fun b => b = g) wr (wr.setCell ⟨g, r * 4 + 3, none⟩ (.int .i32 ((RC t ju).getD r 0 + 1 : Nat))) := (Keeps.refl (fun b => b = g) wr).setCell (a := ⟨g, r * 4 + 3, none⟩) (.inl rfl) _
  have hb := h.base.keepsS k1 (fun b ty n f hrr h1 h2 e => own_ne hru hrr (fun e2 => h2 e2.symm) (by rw [show b = g from e]; rfl)) (fun b e => by rw [show b = g from e]; exact hgB)
  refine ⟨hb, own_keeps h.ro k1 (fun g2 hg2 e => own_apart h.ro hru (by decide) hg2 (by rw [show g2 = g from e]; rfl)), ?_⟩
  rw [e2, hv, ← e1]
  exact (hru.stored (r * 4 + 3) _).1
/-- setFree of tree j's root. -/
theorem PlM.free {j : Nat} (hj : j < M) (hp : Pos fan (t j)) (ht : t j < 5) (h : PlM fan t M B w x lk N D WB XB (SJ fan t M j) jg jr ju C X V0 V1 wr) {m : Int} {S' : Nat → Bool} (hS : S' = SJ fan t M (j + 1) (t j))
    (k : Keeps (fun b => b = x.FF ∨ ∃ k, k < D (t j) ∧ b = XB (t j) k) wr w') (hF : Row w' x.FF 88 40 (updC C (7 + t j * 3 + 2) (.int .i64 m))) {Y : Nat → Nat → Nat} (hW : Words w' (N (t j)) (D (t j)) (WB (t j)) (XB (t j)) Y) (hO : Ok (wlen (N (t j))) (D (t j)) S' Y) :
    PlM fan t M B w x lk N D WB XB (SJ fan t M (j + 1)) jg jr ju (updC C (7 + t j * 3 + 2) (.int .i64 m)) (fun l => if l = t j then Y else X l) V0 V1 w' := by
  have hfr := h.base.fr (t j) ht
  have hz : ∀ b ty n f, Row wr b ty n f → ty ≠ 88 → ty ≠ 55 → ¬ (b = x.FF ∨ ∃ k, k < D (t j) ∧ b = XB (t j) k) := by
    rintro b ty n f hr h1 h2 (e | ⟨k, hk, e⟩)
    · exact hr.ne h.base.st.ff h1 e
    · exact hr.ne (hfr.1.row k hk) h2 e
  have st := h.base.st
  have hoz : ∀ {e : TypeId} {s n : Nat} {v : Value} {xs : List Value}, wr.ownsRow B e s v n xs → e ≠ 88 → e ≠ 55 → ∀ g, v.ownBlock = some g → ¬ (g = x.FF ∨ ∃ k, k < D (t j) ∧ g = XB (t j) k) := by
    rintro e s n v xs ho h1 h2 g hg (e' | ⟨k, hk, e'⟩)
    · exact own_ne ho st.ff h1 (by rw [hg, e'])
    · exact own_ne ho (hfr.1.row k hk) h2 (by rw [hg, e'])
  refine ⟨⟨⟨?_, ?_, ?_, ?_, hF, ?_, st.lvi, ?_, ?_, st.lki⟩, ?_, h.base.fri, h.base.bF, h.base.bW, ?_⟩, own_keeps h.ro k (hoz h.ro (by decide) (by decide)), own_keeps h.ru k (hoz h.ru (by decide) (by decide))⟩
  · exact st.gr.keeps k (hz _ _ _ _ st.gr (by decide) (by decide))
  · exact st.fv.keeps k (hz _ _ _ _ st.fv (by decide) (by decide))
  · exact st.gv.keeps k (hz _ _ _ _ st.gv (by decide) (by decide))
  · exact st.lb.keeps k (hz _ _ _ _ st.lb (by decide) (by decide))
  · exact fun l hl => (st.lv l hl).keeps k (hz _ _ _ _ (st.lv l hl) (by decide) (by decide))
  · exact fun e => (st.kb e).keeps k (hz _ _ _ _ (st.kb e) (by decide) (by decide))
  · exact fun e l hl => (st.lkr e l hl).keeps k (hz _ _ _ _ (st.lkr e l hl) (by decide) (by decide))
  · intro l hl
    by_cases e : l = t j
    · subst e
      rw [if_pos rfl, ← hS]
      exact ⟨hW, hO, hfr.2.2⟩
    · rw [if_neg e, SJ_other hj e]
      have hfl := h.base.fr l hl
      refine ⟨hfl.1.keeps k (hz _ _ _ _ hfl.1.table (by decide) (by decide)) (fun i hi => ?_), hfl.2⟩
      rintro (e2 | ⟨k2, hk2, e2⟩)
      · exact (hfl.1.row i hi).ne st.ff (by decide) e2
      · exact h.base.fri l (t j) hl ht e i k2 hi hk2 e2
  · exact h.base.below.trans (k.below h.base.lt (fun b e => by
      rcases e with e | ⟨k2, hk2, e⟩
      · rw [e]; exact h.base.bF
      · rw [e]; exact hfr.2.2.2.2 k2 hk2))

/-- The forest's own cells behind a store into cell 0 or 1. -/
theorem PlC.set0 (h : PlC fan t M x lk N D WB cc XB S V0 V1 C) (v : Value) : PlC fan t M x lk N D WB cc XB S v V1 (updC C 0 v) := by
  refine ⟨⟨?_, ?_, ?_, ?_⟩, updC_at _ _ _, ?_, ?_, ?_, ?_, ?_, ?_, ?_⟩
  · intro l hl; rw [updC_ne _ _ (by omega)]; exact h.head.levels l hl
  · rw [updC_ne _ _ (by omega)]; exact h.head.links
  · intro l hl; rw [updC_ne _ _ (by omega)]; exact h.head.size l hl
  · intro l hl; rw [updC_ne _ _ (by omega)]; exact h.head.fanout l hl
  · rw [updC_ne _ _ (by omega)]; exact h.c1
  · intro l hl; rw [updC_ne _ _ (by omega)]; exact h.inn l hl
  · rw [updC_ne _ _ (by omega)]; exact h.c27
  · rw [updC_ne _ _ (by omega)]; exact h.c39
  · intro l hl; rw [updC_ne _ _ (by omega)]; exact h.f0 l hl
  · intro l hl; rw [updC_ne _ _ (by omega)]; exact h.f1 l hl
  · intro l hl; rw [updC_ne _ _ (by omega)]; exact h.f2 l hl
theorem PlC.set1 (h : PlC fan t M x lk N D WB cc XB S V0 V1 C) (v : Value) : PlC fan t M x lk N D WB cc XB S V0 v (updC C 1 v) := by
  refine ⟨⟨?_, ?_, ?_, ?_⟩, ?_, updC_at _ _ _, ?_, ?_, ?_, ?_, ?_, ?_⟩
  · intro l hl; rw [updC_ne _ _ (by omega)]; exact h.head.levels l hl
  · rw [updC_ne _ _ (by omega)]; exact h.head.links
  · intro l hl; rw [updC_ne _ _ (by omega)]; exact h.head.size l hl
  · intro l hl; rw [updC_ne _ _ (by omega)]; exact h.head.fanout l hl
  · rw [updC_ne _ _ (by omega)]; exact h.c0
  · intro l hl; rw [updC_ne _ _ (by omega)]; exact h.inn l hl
  · rw [updC_ne _ _ (by omega)]; exact h.c27
  · rw [updC_ne _ _ (by omega)]; exact h.c39
  · intro l hl; rw [updC_ne _ _ (by omega)]; exact h.f0 l hl
  · intro l hl; rw [updC_ne _ _ (by omega)]; exact h.f1 l hl
  · intro l hl; rw [updC_ne _ _ (by omega)]; exact h.f2 l hl
/-- .. behind a change of level T's free set. -/
theorem PlC.free (h : PlC fan t M x lk N D WB cc XB S V0 V1 C) {T : Nat} (hT : T < 5) {S' : Nat → Nat → Bool} (hS : ∀ l, l < 5 → l ≠ T → S' l = S l) {m : Int} (hm : m = (cnt (S' T) (N T) : Nat)) : PlC fan t M x lk N D WB cc XB S' V0 V1 (updC C (7 + T * 3 + 2) (.int .i64 m)) := by
  refine ⟨⟨?_, ?_, ?_, ?_⟩, ?_, ?_, ?_, ?_, ?_, ?_, ?_, ?_⟩
  · intro l hl; rw [updC_ne _ _ (by omega)]; exact h.head.levels l hl
  · rw [updC_ne _ _ (by omega)]; exact h.head.links
  · intro l hl; rw [updC_ne _ _ (by omega)]; exact h.head.size l hl
  · intro l hl; rw [updC_ne _ _ (by omega)]; exact h.head.fanout l hl
  · rw [updC_ne _ _ (by omega)]; exact h.c0
  · rw [updC_ne _ _ (by omega)]; exact h.c1
  · intro l hl; rw [updC_ne _ _ (by omega)]; exact h.inn l hl
  · rw [updC_ne _ _ (by omega)]; exact h.c27
  · rw [updC_ne _ _ (by omega)]; exact h.c39
  · intro l hl; rw [updC_ne _ _ (by omega)]; exact h.f0 l hl
  · intro l hl; rw [updC_ne _ _ (by omega)]; exact h.f1 l hl
  · intro l hl
    by_cases e : l = T
    · subst e; rw [updC_at, hm]
    · rw [updC_ne _ _ (by omega), hS l hl e]; exact h.f2 l hl
end
end Go.Proofs.Qxb6609507a.U

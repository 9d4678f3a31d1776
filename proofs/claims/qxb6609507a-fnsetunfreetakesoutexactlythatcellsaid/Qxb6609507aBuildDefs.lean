import Derived.Test.Qxb6609507aLay
/-! WHAT zzBuild's SLICES HOLD, AS PLAIN LISTS. -/
namespace Go.Proofs.Qxb6609507a.U
open Go.RowKit Go.Proofs.Qxb6609507a.Plain
set_option linter.unusedVariables false

def upN (f : Nat → Nat) (l v : Nat) : Nat → Nat := fun l' => if l' = l then v else f l'

section
variable (fan t : Nat → Nat) (M : Nat)
/-- Does tree j go on with the run of the tree before it? -/
def cont (j : Nat) : Bool := decide (0 < j) && decide (t j = t (j - 1))
def RL : Nat → List Nat
  | 0 => []
  | j + 1 => if cont t j = true then RL j else RL j ++ [t j]
def RF : Nat → List Nat
  | 0 => []
  | j + 1 => if cont t j = true then RF j else RF j ++ [off fan t j]
def RO : Nat → List Nat
  | 0 => []
  | j + 1 => if cont t j = true then RO j else RO j ++ [bs fan t j (t j)]
def RC : Nat → List Nat
  | 0 => []
  | j + 1 => if cont t j = true then (RC j).set ((RC j).length - 1) ((RC j).getD ((RC j).length - 1) 0 + 1) else RC j ++ [1]
variable {fan t}
theorem RF_len : ∀ j, (RF fan t j).length = (RL t j).length
  | 0 => rfl
  | j + 1 => by
    unfold RF RL
    split
    · exact RF_len j
    · rw [List.length_append, List.length_append, RF_len j]; rfl
theorem RO_len : ∀ j, (RO fan t j).length = (RL t j).length
  | 0 => rfl
  | j + 1 => by
    unfold RO RL
    split
    · exact RO_len j
    · rw [List.length_append, List.length_append, RO_len j]; rfl
theorem RC_len : ∀ j, (RC t j).length = (RL t j).length
  | 0 => rfl
  | j + 1 => by
    unfold RC RL
    split
    · rw [List.length_set]; exact RC_len j
    · rw [List.length_append, List.length_append, RC_len j]; rfl
theorem RL_le : ∀ j, (RL t j).length ≤ j
  | 0 => Nat.le_refl _
  | j + 1 => by
    have := RL_le j
    unfold RL
    split
    · omega
    · rw [List.length_append, List.length_singleton]; omega
/-- The last run is the last tree's. -/
theorem RL_last : ∀ j, 0 < (RL t (j + 1)).length ∧ (RL t (j + 1)).getD ((RL t (j + 1)).length - 1) 0 = t j
  | 0 => ⟨by show 0 < (if cont t 0 = true then [] else [] ++ [t 0]).length; simp [cont], by show (if cont t 0 = true then [] else [] ++ [t 0]).getD ((if cont t 0 = true then [] else [] ++ [t 0]).length - 1) 0 = _; simp [cont]⟩
  | j + 1 => by
    obtain ⟨h1, h2⟩ := RL_last j
    have e : RL t (j + 1 + 1) = if cont t (j + 1) = true then RL t (j + 1) else RL t (j + 1) ++ [t (j + 1)] := rfl
    rw [e]
    by_cases hc : cont t (j + 1) = true
    · rw [if_pos hc]
      refine ⟨h1, h2.trans ?_⟩
      have : t (j + 1) = t (j + 1 - 1) := by
        unfold cont at hc
        simp only [Bool.and_eq_true, decide_eq_true_eq] at hc
        exact hc.2
      exact this.symm
    · rw [if_neg hc, List.length_append, List.length_singleton]
      refine ⟨by omega, ?_⟩
      rw [Nat.add_sub_cancel, List.getD_eq_getElem?_getD, List.getElem?_append_right (Nat.le_refl _), Nat.sub_self]; rfl
theorem RL_zero (j : Nat) : (RL t j).length = 0 ↔ j = 0 := by
  cases j with
  | zero => exact ⟨fun _ => rfl, fun _ => rfl⟩
  | succ n => exact ⟨fun h => by have := (RL_last (t := t) n).1; omega, fun h => by omega⟩
theorem RC_le : ∀ (j i : Nat), (RC t j).getD i 0 ≤ j
  | 0, i => by show ([] : List Nat).getD i 0 ≤ 0; rw [List.getD_nil]; exact Nat.le_refl _
  | j + 1, i => by
    have ih := RC_le j
    unfold RC
    by_cases hc : cont t j = true
    · rw [if_pos hc, List.getD_eq_getElem?_getD, List.getElem?_set]
      split
      · split
        · have := ih ((RC t j).length - 1)
          show (RC t j).getD ((RC t j).length - 1) 0 + 1 ≤ j + 1
          omega
        · exact Nat.zero_le _
      · have := ih i
        rw [List.getD_eq_getElem?_getD] at this
        omega
    · rw [if_neg hc, List.getD_eq_getElem?_getD, List.getElem?_append]
      split
      · have := ih i
        rw [List.getD_eq_getElem?_getD] at this
        omega
      · cases e : i - (RC t j).length with
        | zero => show 1 ≤ j + 1; omega
        | succ n => show 0 ≤ j + 1; omega
variable (fan t)

/-- What the layout's slices hold: LF, LP, LC, LT: how many there are of each level; jr roots; the runs' four fields, of so many trees. -/
def xsA (LF LP LC LT : Nat → Nat) (jr jl jf jo jc : Nat) (q : Nat) : List Value :=
  if q < 11 then []
  else if q < 16 then (List.range (LF (q - 11))).map (fun i => .int .i32 (F fan t M (q - 11) i))
  else if q < 21 then (List.range (LP (q - 16))).map (fun i => .int .i32 (Pa fan t M (q - 16) i))
  else if q < 26 then (List.range (LC (q - 21))).map (fun i => .int .i32 (Ch fan t M (q - 21) i))
  else if q < 31 then (List.range (LT (q - 26))).map (fun i => .bool (Tp fan t M (q - 26) i))
  else if q = 31 then (List.range jr).map (fun i => .int .i32 (bs fan t i (t i)))
  else if q = 32 then (RL t jl).map (fun i : Nat => .int .i8 i)
  else if q = 33 then (RF fan t jf).map (fun i : Nat => .int .i32 i)
  else if q = 34 then (RO fan t jo).map (fun i : Nat => .int .i32 i)
  else if q = 35 then (RC t jc).map (fun i : Nat => .int .i32 i)
  else []
variable {fan t M} {LF LP LC LT : Nat → Nat} {jr jl jf jo jc l : Nat}

theorem range_map_succ (n : Nat) (f : Nat → Value) : (List.range n).map f ++ [f n] = (List.range (n + 1)).map f := by
  rw [List.range_succ, List.map_append]; rfl
theorem xsA_atF (hl : l < 5) : xsA fan t M LF LP LC LT jr jl jf jo jc (11 + l) = (List.range (LF l)).map (fun i => .int .i32 (F fan t M l i)) := by
  unfold xsA; rw [if_neg (by omega), if_pos (by omega), Nat.add_sub_cancel_left]
theorem xsA_atP (hl : l < 5) : xsA fan t M LF LP LC LT jr jl jf jo jc (16 + l) = (List.range (LP l)).map (fun i => .int .i32 (Pa fan t M l i)) := by
  unfold xsA; rw [if_neg (by omega), if_neg (by omega), if_pos (by omega), Nat.add_sub_cancel_left]
theorem xsA_atC (hl : l < 5) : xsA fan t M LF LP LC LT jr jl jf jo jc (21 + l) = (List.range (LC l)).map (fun i => .int .i32 (Ch fan t M l i)) := by
  unfold xsA; rw [if_neg (by omega), if_neg (by omega), if_neg (by omega), if_pos (by omega), Nat.add_sub_cancel_left]
theorem xsA_atT (hl : l < 5) : xsA fan t M LF LP LC LT jr jl jf jo jc (26 + l) = (List.range (LT l)).map (fun i => .bool (Tp fan t M l i)) := by
  unfold xsA; rw [if_neg (by omega), if_neg (by omega), if_neg (by omega), if_neg (by omega), if_pos (by omega), Nat.add_sub_cancel_left]
theorem xsA_F (hl : l < 5) : updL (xsA fan t M LF LP LC LT jr jl jf jo jc) (11 + l) (xsA fan t M LF LP LC LT jr jl jf jo jc (11 + l) ++ [.int .i32 (F fan t M l (LF l))]) = xsA fan t M (upN LF l (LF l + 1)) LP LC LT jr jl jf jo jc := by
  funext q
  unfold updL
  by_cases e : q = 11 + l
  · subst e
    rw [if_pos rfl, xsA_atF hl, xsA_atF hl]
    unfold upN
    rw [if_pos rfl]
    exact range_map_succ (LF l) (fun i => .int .i32 (F fan t M l i))
  · rw [if_neg e]
    unfold xsA upN
    by_cases h0 : q < 11
    · simp only [if_pos h0]
    simp only [if_neg h0]
    by_cases h9 : q < 16
    · simp only [if_pos h9]
      rw [if_neg (show ¬ q - 11 = l by omega)]
    simp only [if_neg h9]
theorem xsA_P (hl : l < 5) : updL (xsA fan t M LF LP LC LT jr jl jf jo jc) (16 + l) (xsA fan t M LF LP LC LT jr jl jf jo jc (16 + l) ++ [.int .i32 (Pa fan t M l (LP l))]) = xsA fan t M LF (upN LP l (LP l + 1)) LC LT jr jl jf jo jc := by
  funext q
  unfold updL
  by_cases e : q = 16 + l
  · subst e
    rw [if_pos rfl, xsA_atP hl, xsA_atP hl]
    unfold upN
    rw [if_pos rfl]
    exact range_map_succ (LP l) (fun i => .int .i32 (Pa fan t M l i))
  · rw [if_neg e]
    unfold xsA upN
    by_cases h0 : q < 11
    · simp only [if_pos h0]
    simp only [if_neg h0]
    by_cases h1 : q < 16
    · simp only [if_pos h1]
    simp only [if_neg h1]
    by_cases h9 : q < 21
    · simp only [if_pos h9]
      rw [if_neg (show ¬ q - 16 = l by omega)]
    simp only [if_neg h9]
theorem xsA_C (hl : l < 5) : updL (xsA fan t M LF LP LC LT jr jl jf jo jc) (21 + l) (xsA fan t M LF LP LC LT jr jl jf jo jc (21 + l) ++ [.int .i32 (Ch fan t M l (LC l))]) = xsA fan t M LF LP (upN LC l (LC l + 1)) LT jr jl jf jo jc := by
  funext q
  unfold updL
  by_cases e : q = 21 + l
  · subst e
    rw [if_pos rfl, xsA_atC hl, xsA_atC hl]
    unfold upN
    rw [if_pos rfl]
    exact range_map_succ (LC l) (fun i => .int .i32 (Ch fan t M l i))
  · rw [if_neg e]
    unfold xsA upN
    by_cases h0 : q < 11
    · simp only [if_pos h0]
    simp only [if_neg h0]
    by_cases h1 : q < 16
    · simp only [if_pos h1]
    simp only [if_neg h1]
    by_cases h2 : q < 21
    · simp only [if_pos h2]
    simp only [if_neg h2]
    by_cases h9 : q < 26
    · simp only [if_pos h9]
      rw [if_neg (show ¬ q - 21 = l by omega)]
    simp only [if_neg h9]
theorem xsA_T (hl : l < 5) : updL (xsA fan t M LF LP LC LT jr jl jf jo jc) (26 + l) (xsA fan t M LF LP LC LT jr jl jf jo jc (26 + l) ++ [.bool (Tp fan t M l (LT l))]) = xsA fan t M LF LP LC (upN LT l (LT l + 1)) jr jl jf jo jc := by
  funext q
  unfold updL
  by_cases e : q = 26 + l
  · subst e
    rw [if_pos rfl, xsA_atT hl, xsA_atT hl]
    unfold upN
    rw [if_pos rfl]
    exact range_map_succ (LT l) (fun i => .bool (Tp fan t M l i))
  · rw [if_neg e]
    unfold xsA upN
    by_cases h0 : q < 11
    · simp only [if_pos h0]
    simp only [if_neg h0]
    by_cases h1 : q < 16
    · simp only [if_pos h1]
    simp only [if_neg h1]
    by_cases h2 : q < 21
    · simp only [if_pos h2]
    simp only [if_neg h2]
    by_cases h3 : q < 26
    · simp only [if_pos h3]
    simp only [if_neg h3]
    by_cases h9 : q < 31
    · simp only [if_pos h9]
      rw [if_neg (show ¬ q - 26 = l by omega)]
    simp only [if_neg h9]

theorem xsA_R : updL (xsA fan t M LF LP LC LT jr jl jf jo jc) 31 (xsA fan t M LF LP LC LT jr jl jf jo jc 31 ++ [.int .i32 (bs fan t jr (t jr))]) = xsA fan t M LF LP LC LT (jr + 1) jl jf jo jc := by
  funext q
  unfold updL
  by_cases e : q = 31
  · subst e
    rw [if_pos rfl]
    exact range_map_succ jr (fun i => .int .i32 (bs fan t i (t i)))
  · rw [if_neg e]
    unfold xsA
    simp only [if_neg e]
theorem RL_new (hc : cont t jl = false) : updL (xsA fan t M LF LP LC LT jr jl jf jo jc) 32 (xsA fan t M LF LP LC LT jr jl jf jo jc 32 ++ [.int .i8 ((t jl : Nat) : Int)]) = xsA fan t M LF LP LC LT jr (jl + 1) jf jo jc := by
  have e1 : RL t (jl + 1) = RL t jl ++ [t jl] := by show (if cont t jl = true then _ else _) = _; rw [if_neg (by rw [hc]; decide)]
  funext q
  unfold updL
  by_cases e : q = 32
  · subst e
    rw [if_pos rfl]
    show (RL t jl).map _ ++ _ = (RL t (jl + 1)).map _
    rw [e1, List.map_append]; rfl
  · rw [if_neg e]
    unfold xsA
    simp only [if_neg e]
theorem RF_new (hc : cont t jf = false) : updL (xsA fan t M LF LP LC LT jr jl jf jo jc) 33 (xsA fan t M LF LP LC LT jr jl jf jo jc 33 ++ [.int .i32 ((off fan t jf : Nat) : Int)]) = xsA fan t M LF LP LC LT jr jl (jf + 1) jo jc := by
  have e1 : RF fan t (jf + 1) = RF fan t jf ++ [off fan t jf] := by show (if cont t jf = true then _ else _) = _; rw [if_neg (by rw [hc]; decide)]
  funext q
  unfold updL
  by_cases e : q = 33
  · subst e
    rw [if_pos rfl]
    show (RF fan t jf).map _ ++ _ = (RF fan t (jf + 1)).map _
    rw [e1, List.map_append]; rfl
  · rw [if_neg e]
    unfold xsA
    simp only [if_neg e]
theorem RO_new (hc : cont t jo = false) : updL (xsA fan t M LF LP LC LT jr jl jf jo jc) 34 (xsA fan t M LF LP LC LT jr jl jf jo jc 34 ++ [.int .i32 ((bs fan t jo (t jo) : Nat) : Int)]) = xsA fan t M LF LP LC LT jr jl jf (jo + 1) jc := by
  have e1 : RO fan t (jo + 1) = RO fan t jo ++ [bs fan t jo (t jo)] := by show (if cont t jo = true then _ else _) = _; rw [if_neg (by rw [hc]; decide)]
  funext q
  unfold updL
  by_cases e : q = 34
  · subst e
    rw [if_pos rfl]
    show (RO fan t jo).map _ ++ _ = (RO fan t (jo + 1)).map _
    rw [e1, List.map_append]; rfl
  · rw [if_neg e]
    unfold xsA
    simp only [if_neg e]
theorem RC_new (hc : cont t jc = false) : updL (xsA fan t M LF LP LC LT jr jl jf jo jc) 35 (xsA fan t M LF LP LC LT jr jl jf jo jc 35 ++ [.int .i32 ((1 : Nat) : Int)]) = xsA fan t M LF LP LC LT jr jl jf jo (jc + 1) := by
  have e1 : RC t (jc + 1) = RC t jc ++ [1] := by show (if cont t jc = true then _ else _) = _; rw [if_neg (by rw [hc]; decide)]
  funext q
  unfold updL
  by_cases e : q = 35
  · subst e
    rw [if_pos rfl]
    show (RC t jc).map _ ++ _ = (RC t (jc + 1)).map _
    rw [e1, List.map_append]; rfl
  · rw [if_neg e]
    unfold xsA
    simp only [if_neg e]
theorem R_cont (hc : cont t jl = true) : RL t (jl + 1) = RL t jl ∧ RF fan t (jl + 1) = RF fan t jl ∧ RO fan t (jl + 1) = RO fan t jl ∧ RC t (jl + 1) = (RC t jl).set ((RC t jl).length - 1) ((RC t jl).getD ((RC t jl).length - 1) 0 + 1) := by
  refine ⟨?_, ?_, ?_, ?_⟩
  · show (if cont t jl = true then _ else _) = _; rw [if_pos hc]
  · show (if cont t jl = true then _ else _) = _; rw [if_pos hc]
  · show (if cont t jl = true then _ else _) = _; rw [if_pos hc]
  · show (if cont t jl = true then _ else _) = _; rw [if_pos hc]
theorem runs_cont {j : Nat} (hc : cont t j = true) :
    updL (xsA fan t M LF LP LC LT jr j j j j) 35 ((xsA fan t M LF LP LC LT jr j j j j 35).set ((RL t j).length - 1) (.int .i32 (((RC t j).getD ((RL t j).length - 1) 0 + 1 : Nat) : Int))) = xsA fan t M LF LP LC LT jr (j + 1) (j + 1) (j + 1) (j + 1) := by
  obtain ⟨e1, e2, e3, e4⟩ := R_cont (fan := fan) hc
  funext q
  unfold updL
  by_cases e : q = 35
  · subst e
    rw [if_pos rfl]
    show ((RC t j).map _).set _ _ = (RC t (j + 1)).map _
    rw [e4, List.map_set, RC_len]
  · rw [if_neg e]
    unfold xsA
    simp only [if_neg e, e1, e2, e3]
end
end Go.Proofs.Qxb6609507a.U

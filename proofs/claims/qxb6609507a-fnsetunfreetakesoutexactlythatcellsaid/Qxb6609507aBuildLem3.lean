import Derived.Test.Qxb6609507aBuildLem2
/-! THE LAST RUN'S COUNT GOES UP BY ONE. -/
namespace Go.Proofs.Qxb6609507a.U
open Go.RowKit Go.Proofs.Qxb6609507a.Plain
set_option linter.unusedVariables false

/-- Where the last run's count lies, and what the layout is after it has gone up by one. -/
theorem Lay.count {w : World} {fan t : Nat → Nat} {M j R : Nat} {V : Nat → Value} {LF LP LC LT : Nat → Nat} {jr : Nat} {wc : World} (h : Lay w w.heap.size fan V (xsA fan t M LF LP LC LT jr j j j j) wc) (hc : cont t j = true) (hR : R = (RL t j).length) {BB : Nat} {f : Nat → Value} (hr : Row wc BB 24 5 f) :
    ∃ g cap r rc, R = r + 1 ∧ rc ≤ j ∧ V 35 = .slice (some ⟨g, 0, none⟩) R cap ∧ wc.cell? ⟨w.heap.size + 1 + 1 + 1, 35, none⟩ = some (.slice (some ⟨g, 0, none⟩) R cap) ∧ wc.cell? ⟨g, r, none⟩ = some (.int .i32 ((rc : Nat) : Int)) ∧ wc.frozen? ⟨g, r, none⟩ = false ∧
      Lay w w.heap.size fan V (xsA fan t M LF LP LC LT jr (j + 1) (j + 1) (j + 1) (j + 1)) (wc.setCell ⟨g, r, none⟩ (.int .i32 ((rc : Int) + 1))) ∧ Row (wc.setCell ⟨g, r, none⟩ (.int .i32 ((rc : Int) + 1))) BB 24 5 f := by
  have hj : 0 < j := by
    rcases Nat.eq_zero_or_pos j with e | e
    · rw [e] at hc; cases hc
    · exact e
  have hR0 : 0 < R := by
    obtain ⟨j', rfl⟩ : ∃ j', j = j' + 1 := ⟨j - 1, by omega⟩
    rw [hR]; exact (RL_last (t := t) j').1
  have own := h.own 35 (by omega) (by omega)
  rw [len35, ← hR] at own
  obtain ⟨g, cap, hv, _, _⟩ := own.form hR0
  have hlen : R - 1 < (xsA fan t M LF LP LC LT jr j j j j 35).length := by rw [len35]; omega
  have own' := own
  rw [hv] at own'
  have hcell : wc.cell? ⟨g, R - 1, none⟩ = some (.int .i32 (((RC t j).getD (R - 1) 0 : Nat) : Int)) := by
    rw [own'.cellAt (R - 1) (by omega), List.getElem?_eq_getElem hlen]
    have hg := get35 (fan := fan) (t := t) (M := M) (LF := LF) (LP := LP) (LC := LC) (LT := LT) (jr := jr) (jl := j) (jf := j) (jo := j) (jc := j) (R - 1) (by omega)
    rw [List.getD_eq_getElem?_getD, List.getElem?_eq_getElem hlen] at hg
    exact congrArg some hg
  refine ⟨g, cap, R - 1, (RC t j).getD (R - 1) 0, by omega, RC_le _ _, hv, ((h.mrow.cell (by omega)).trans (congrArg some (layC_V fan V (by omega)))).trans (congrArg some hv), hcell, own'.frozenAt _, ?_, ?_⟩
  · have L := h.stored (q := 35) (by omega) (by omega) (i := R - 1) (hv.trans (by rw [len35, ← hR])) (.int .i32 (((RC t j).getD (R - 1) 0 : Nat) + 1 : Int))
    have e := runs_cont (fan := fan) (t := t) (M := M) (LF := LF) (LP := LP) (LC := LC) (LT := LT) (jr := jr) hc
    rw [← hR] at e
    rw [← e]
    exact L
  · have hne := own_ne own hr (by decide)
    rw [hv] at hne
    exact hr.setOther (a := ⟨g, R - 1, none⟩) (fun e => hne (congrArg some e.symm)) _
end Go.Proofs.Qxb6609507a.U

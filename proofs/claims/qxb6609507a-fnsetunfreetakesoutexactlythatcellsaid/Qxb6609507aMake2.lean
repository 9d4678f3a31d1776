import Derived.Test.Qxb6609507aMake
namespace Go.Proofs.Qxb6609507a.U
open Go.RowKit Go.Proofs.Qxb6609507a.Plain
set_option linter.unusedVariables false
variable {fan N : Nat → Nat} {lk : Bool} {KB : Nat} {LV : Nat → Nat} {D WB cc : Nat → Nat} {XB : Nat → Nat → Nat} {a b c : Nat} {C : Nat → Value}
theorem HdC.inner (h : HdC fan N lk KB LV D WB cc XB a b c C) (ha : a ≤ 5) (hb : b ≤ 5) (hc : c ≤ 5) {i : Nat} (hi : i < 4) (v : Value) : HdC fan N lk KB LV D WB cc XB a b c (updC C (23 + i) v) := by
  refine ⟨?_, ?_, ?_, ?_, ?_, ?_, ?_, ?_, ?_, ?_, ?_, ?_⟩
  · rw [updC_ne _ _ (by omega)]; exact h.c0
  · rw [updC_ne _ _ (by omega)]; exact h.c1
  · rw [updC_ne _ _ (by omega)]; exact h.c22
  · rw [updC_ne _ _ (by omega)]; exact h.c27
  · rw [updC_ne _ _ (by omega)]; exact h.c38
  · rw [updC_ne _ _ (by omega)]; exact h.c39
  · intro l hl; rw [updC_ne _ _ (by omega)]; exact h.sz l hl
  · intro l hl; rw [updC_ne _ _ (by omega)]; exact h.fn l hl
  · intro l hl; rw [updC_ne _ _ (by omega)]; exact h.lv l hl
  · intro l hl; rw [updC_ne _ _ (by omega)]; exact h.f0 l hl
  · intro l hl; rw [updC_ne _ _ (by omega)]; exact h.f1 l hl
  · intro l hl; rw [updC_ne _ _ (by omega)]; exact h.f2 l hl
end Go.Proofs.Qxb6609507a.U

import Derived.Test.Qxb6609507aBuildLem
namespace Go.Proofs.Qxb6609507a.U
open Go.RowKit Go.Proofs.Qxb6609507a.Plain
set_option linter.unusedVariables false

theorem Lay.addQ {w : World} {B : Nat} {fan : Nat → Nat} {V : Nat → Value} {xs xs' : Nat → List Value} {wr W w1 : World} (h : Lay w B fan V xs wr) {q : Nat} (h1 : 11 ≤ q) (h2 : q < 36) {e : TypeId} (he : ty q = e) (k : Keeps (fun _ => False) wr W) {n gg cap : Nat} {x : Value} (hn : (xs q).length = n)
    (hown : w1.ownsRow (B + 4) e 1 (.slice (some ⟨gg, 0, none⟩) (n + 1) cap) (n + 1) (xs q ++ [x])) (hg : W.grownBy w1 (V q).ownBlock) (hat : (V q).ownBlock = some gg ∨ gg = wr.heap.size + 1) (hxs : updL xs q (xs q ++ [x]) = xs')
    {BB : Nat} {f : Nat → Value} (hr : Row wr BB 24 5 f) (hBB : BB ≠ B + 1 + 1 + 1) :
    Lay w B fan (updV V q (.slice (some ⟨gg, 0, none⟩) (n + 1) cap)) xs' (w1.setCell ⟨B + 1 + 1 + 1, q, none⟩ (.slice (some ⟨gg, 0, none⟩) (n + 1) cap)) ∧
    Row (w1.setCell ⟨B + 1 + 1 + 1, q, none⟩ (.slice (some ⟨gg, 0, none⟩) (n + 1) cap)) BB 24 5 f := by
  subst hn hxs he
  have LN := h.app (q := q) h1 h2 k hown (by rw [List.length_append]; rfl) hg (by rcases hat with h | h; exact .inl h; exact .inr (by omega))
  exact ⟨LN, h.appRow h1 h2 k hg hr (by decide) (by decide) (by decide) hBB _⟩

section
variable {fan t : Nat → Nat} {M : Nat} {LF LP LC LT : Nat → Nat} {jr jl jf jo jc : Nat}
theorem len31 : (xsA fan t M LF LP LC LT jr jl jf jo jc 31).length = jr := by
  show ((List.range jr).map _).length = jr
  rw [List.length_map, List.length_range]
theorem len32 : (xsA fan t M LF LP LC LT jr jl jf jo jc 32).length = (RL t jl).length := by
  show ((RL t jl).map _).length = _
  rw [List.length_map]
theorem len33 : (xsA fan t M LF LP LC LT jr jl jf jo jc 33).length = (RL t jf).length := by
  show ((RF fan t jf).map _).length = _
  rw [List.length_map, RF_len]
theorem len34 : (xsA fan t M LF LP LC LT jr jl jf jo jc 34).length = (RL t jo).length := by
  show ((RO fan t jo).map _).length = _
  rw [List.length_map, RO_len]
theorem len35 : (xsA fan t M LF LP LC LT jr jl jf jo jc 35).length = (RL t jc).length := by
  show ((RC t jc).map _).length = _
  rw [List.length_map, RC_len]
theorem get32 (i : Nat) (hi : i < (RL t jl).length) : (xsA fan t M LF LP LC LT jr jl jf jo jc 32).getD i undef = .int .i8 ((RL t jl).getD i 0 : Nat) := by
  show ((RL t jl).map _).getD i undef = _
  rw [List.getD_eq_getElem?_getD, List.getElem?_map, List.getElem?_eq_getElem hi, List.getD_eq_getElem?_getD, List.getElem?_eq_getElem hi]; rfl
theorem get35 (i : Nat) (hi : i < (RL t jc).length) : (xsA fan t M LF LP LC LT jr jl jf jo jc 35).getD i undef = .int .i32 ((RC t jc).getD i 0 : Nat) := by
  have hi' : i < (RC t jc).length := by rw [RC_len]; exact hi
  show ((RC t jc).map _).getD i undef = _
  rw [List.getD_eq_getElem?_getD, List.getElem?_map, List.getElem?_eq_getElem hi', List.getD_eq_getElem?_getD, List.getElem?_eq_getElem hi']; rfl
end
theorem cont_zero (t : Nat → Nat) : cont t 0 = false := rfl
theorem cont_pos {t : Nat → Nat} {j : Nat} (h : 0 < j) : cont t j = decide (t j = t (j - 1)) := by unfold cont; rw [decide_eq_true h, Bool.true_and]
end Go.Proofs.Qxb6609507a.U

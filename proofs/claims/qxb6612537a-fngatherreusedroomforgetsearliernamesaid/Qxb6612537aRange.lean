import Derived.Test.Qxb6612537aOn
import Derived.RangeFuncNested
import Derived.RangeFuncLeaves
/-! A RANGE OVER A FUNCTION THAT WRITES ITS OWN CAPTURED VARIABLE: the statement and one round, each by itself. -/
namespace Go.Proofs.Qxb6612537a.U
open Go.RowKit
set_option linter.unusedVariables false

/-- The loop's record. -/
def recOf (fn : FuncId) (a : Act) (ps : Array Tmp) (assign body : Code) (D : Nat) (st : LoopState) : Loop :=
  { state := st, pending := none, fn, tmps := a.tmps, params := ps, assign, body, defers := D }

/-- THE STATEMENT: what the function that is ranged over must do. -/
theorem range_enter {P : Program} {n : Nat} {g : Operand} {ps : Array Tmp} {assign body : Code} {Q : Exit → Act → World → Prop} {a : Act} {w : World}
    {gf : Nat} {lb : Array Value} (hg : a.eval g = .func (.func gf) #[] lb) (eg : ∀ args w, (callFunc gf args).run P w = .ok (.enter gf args) w)
    (h : ∀ fn, CallsIn Fence.wide (n - 1) P gf (#[.func (.yield (w.heap.size + 1)) #[] #[]] ++ lb) ((w.alloc (.deferred (some []))).alloc (.loop (recOf fn a ps assign body w.heap.size .ready)))
      (fun e W => ∃ v, e = .returned v ∧ W.heap[w.heap.size + 1]? = some (.loop (recOf fn a ps assign body w.heap.size .ready)) ∧
        Q .normal { a with defers := { target := .collected w.heap.size, args := #[] } :: a.defers } (W.putObj (w.heap.size + 1) (.loop (recOf fn a ps assign body w.heap.size .exhausted))))) :
    (Code.rangeFunc g ps assign body).wpIn Fence.wide n P Q a w := by
  refine wpIn_rangeFunc ?_
  intro fn hfn
  obtain ⟨W1, hW1⟩ : ∃ W1, (w.alloc (.deferred (some []))).alloc (.loop (recOf fn a ps assign body w.heap.size .ready)) = W1 := ⟨_, rfl⟩
  refine ⟨w.heap.size + 1, [{ target := .collected w.heap.size, args := #[] }], W1, { target := .fn (.func gf) lb, args := #[.func (.yield (w.heap.size + 1)) #[] #[]] }, W1, gf,
    #[.func (.yield (w.heap.size + 1)) #[] #[]] ++ lb, W1, ?_, ?_, ?_, ?_, fun hd => absurd hd (by simp [Fence.wide]), ?_⟩
  · rw [← hW1]; exact run_enterLoop_outer _ _ _ _ _
  · simp only [resolve, hg]
    simp [go_sem]
  · intro f' _; trivial
  · simp [invoke, go_sem, eg]
  · rw [← hW1]
    refine (h fn).mono ?_
    rintro e W ⟨v, rfl, hl, hq⟩
    exact ⟨none, _, run_endLoop hl (by simp [recOf]), hq⟩

/-- ONE ROUND. -/
theorem range_round {P : Program} {n l D : Nat} {fn : FuncId} {a : Act} {ps : Array Tmp} {assign body : Code} {W : World} {args : Array Value} {R : Ending → World → Prop}
    (hl : W.heap[l]? = some (.loop (recOf fn a ps assign body D .ready))) (hs : args.size = ps.size)
    (h : assign.wpIn (Fence.wide.inRound l) n P (Exit.then (fun a₁ w₁ => w₁.heap[l]? = some (.loop (recOf fn a ps assign body D .ready)) ∧
        body.wpIn (Fence.wide.inRound l) n P (fun ex _ W3 => ex = .normal ∧ W3.heap[l]? = some (.loop (recOf fn a ps assign body D .busy)) ∧ R (.returned (.bool true)) (W3.putObj l (.loop (recOf fn a ps assign body D .ready)))) a₁
          (w₁.putObj l (.loop (recOf fn a ps assign body D .busy)))) (fun _ _ _ => False))
      { tmps := (ps.zip args).foldl (fun t (p, v) => t.setIfInBounds p v) a.tmps, defers := [] } W) :
    YieldAt Fence.wide n P l args W R := by
  refine ⟨fn, _, assign, body, run_yield hl hs, roundIn_of_wpIn trivial (wpIn_mono h ?_)⟩
  rintro e a' w' hp
  cases e with
  | normal =>
    obtain ⟨h1, h2⟩ := hp
    refine ⟨_, run_beginRound h1 rfl, wpIn_mono h2 ?_⟩
    rintro e a3 W3 ⟨rfl, h3, h4⟩
    exact ⟨_, _, run_endRound none h3, h4⟩
  | ret => exact hp.elim
  | exit id => exact hp.elim
  | goto t => exact hp.elim
  | panic c => exact hp.elim
  | outgrown => exact hp.elim
end Go.Proofs.Qxb6612537a.U

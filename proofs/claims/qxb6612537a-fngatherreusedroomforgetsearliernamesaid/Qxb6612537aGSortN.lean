import Derived.Test.Qxb6612537aGSort
import Derived.Shelf.SlSortCmp.NoneTotal
namespace Go.Proofs.Qxb6612537a.U
open Go.RowKit Go.Proofs.Qxb6612537a.Plain Go.Lib Go.Sort
set_option linter.unusedVariables false
theorem sort39_none (p : Option Addr) (c : Nat) (w : World) : Calls Try.prog 39 #[.slice p 0 c, .func (.func 40) #[] #[]] w (fun e w' => e = .returned (.tuple #[]) ∧ w' = w) :=
  AnyF.slices_SortFunc_none (P := Try.prog) (ρ := sortL_ren) { sortL with } p c (.func (.func 40) #[] #[]) w
theorem sort39_any (base base0 : Nat) (W : Nat → WRec) (aw : Option Addr) (nw cw cnt : Nat) (V : Value) (L : List Nat) (w : World) (hL : ∀ i, i ∈ L → i < nw) (hc : cnt ≤ 4096)
    (own : w.ownsRow base 77 1 V cnt (L.map (ptrAt aw))) (ow : w.ownsRow base0 74 5 (.slice aw nw cw) nw (flat nw fun i => wc (W i))) :
    Calls Try.prog 39 #[V, .func (.func 40) #[] #[]] w (SoPost base W aw V cnt L w) := by
  by_cases h0 : 0 < cnt
  · exact sort39_some base base0 W aw nw cw cnt V L w hL hc h0 own ow
  · have e0 : cnt = 0 := by omega
    subst e0
    have hlen : L.length = 0 := by have := own.1; simpa using this
    have hL0 : L = [] := List.eq_nil_of_length_eq_zero hlen
    subst hL0
    have hv : ∃ p c, V = .slice p 0 c := by
      rcases own.2 with ⟨h, _⟩ | ⟨g, cap, cur, h, _⟩
      · exact ⟨_, _, h⟩
      · exact ⟨_, _, h⟩
    obtain ⟨p, c, rfl⟩ := hv
    refine (sort39_none p c w).mono ?_
    rintro e w' ⟨rfl, rfl⟩
    exact ⟨rfl, [], List.Perm.refl _, List.Pairwise.nil, own, Keeps.refl _ _⟩
end Go.Proofs.Qxb6612537a.U

import Derived.Test.Qxb6612537aMapV
namespace Go.Proofs.Qxb6612537a.U
open Go.RowKit
set_option linter.unusedVariables false

/-- clear(m). -/
theorem MapIs.clear {w : World} {b n : Nat} {m : Int → Option Int} (h : MapIs w b n m) (ty : TypeId) :
    ∃ w', (Builtin.clear_ #[55] ty #[.map (some b)]).run Try.prog w = .ok (.tuple #[]) w' ∧ MapIs w' b 0 (fun _ => none) ∧ w.mapTurned w' b := by
  obtain ⟨D, ⟨es, clock, hb, hF, hs, hd⟩, hD⟩ := h
  refine ⟨Go.ChangeMaps.setBlock w b (.map #[] clock), ?_, ?_, ⟨es, clock, #[], clock, hb, rfl⟩⟩
  · simp [Builtin.clear_, run_underlying Try.underlying55, MapKept.run_getObj_map hb, MapKept.run_setObj_map _ hb, Result.andThen, Go.ChangeMaps.setBlock]
  · refine ⟨.map [], ⟨#[], clock, by rw [show (Go.ChangeMaps.setBlock w b (.map #[] clock)).heap = w.heap.setIfInBounds b (.map #[] clock) from rfl, Array.getElem?_setIfInBounds, if_pos rfl, if_pos (Array.getElem?_eq_some_iff.1 hb).1], ⟨by simp, ?_, by simp⟩, by simp, by simp⟩, fun tx _ => ⟨by simp [Go.Maps.has], fun r h => by cases h⟩⟩
    exact MapKept.stamped_empty _
end Go.Proofs.Qxb6612537a.U

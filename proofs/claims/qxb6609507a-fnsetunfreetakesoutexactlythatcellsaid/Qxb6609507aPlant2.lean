import Derived.Test.Qxb6609507aPlant
namespace Go.Proofs.Qxb6609507a.U
open Go.RowKit Go.Proofs.Qxb6609507a.Plain
set_option linter.unusedVariables false
theorem info62 : (Try.prog.info? 62).map (fun i => (i.zero, i.size, i.bytes)) = some (some (.pointer none), 1, 8) := by kernel_rfl
theorem info104 : (Try.prog.info? 104).map (fun i => (i.zero, i.size, i.bytes)) = some (some (.agg #[.int .i8 0, .int .i32 0, .int .i32 0, .int .i32 0]), 4, 16) := by kernel_rfl
/-- A laid cell's own cells. -/
theorem lay_at (k : Nat) (v : Nat → Nat → Value) (b i r : Nat) (f : Nat → Value) (hi : i < b) (hr : r < k) : lay k v 0 b f (k * i + r) = v i r := by
  unfold lay
  have h1 : k * (i + 1) ≤ k * b := Nat.mul_le_mul_left k hi
  rw [Nat.mul_add, Nat.mul_one] at h1
  rw [if_pos ⟨by rw [Nat.mul_zero]; omega, by omega⟩, Nat.mul_add_div (by omega), Nat.div_eq_of_lt hr, Nat.mul_add_mod, Nat.mod_eq_of_lt hr, Nat.add_zero]
theorem lv_cells {fan t : Nat → Nat} {M j T : Nat} {x : Blk} {lk : Bool} {N : Nat → Nat} {C : Nat → Value} {L : Nat → Nat → Value} {wc : World} (hT : Trees fan t M) (hj : j < M) (hTj : T = t j) (hgN : bs fan t j T < N T) (h : Gst x lk N C (bs fan t (j + 1)) (AJ fan t M (j + 1)) L wc) :
    wc.cell? ⟨x.LV T, bs fan t j T * 6, none⟩ = some (.int .i32 (bs fan t j T : Nat)) ∧ wc.cell? ⟨x.LV T, bs fan t j T * 6 + 3, none⟩ = some (.int .i8 (T : Nat)) ∧ x.LV T < wc.heap.size ∧ bs fan t j T < bs fan t (j + 1) T := by
  have hT4 : T < 5 := by rw [hTj]; have := hT.top j hj; omega
  have h2 : bs fan t j T < bs fan t (j + 1) T := by
    show _ < bs fan t j T + cn fan (t j) T
    rw [hTj, cn_self (hT.pos j hj)]; omega
  have hr := h.lv T hT4
  have e0 : AJ fan t M (j + 1) T (6 * bs fan t j T + 0) = cellV fan t M T (bs fan t j T) 0 := lay_at 6 (cellV fan t M T) (bs fan t (j + 1) T) (bs fan t j T) 0 (fun q => z93 (q % 6)) h2 (by omega)
  have e3 : AJ fan t M (j + 1) T (6 * bs fan t j T + 3) = cellV fan t M T (bs fan t j T) 3 := lay_at 6 (cellV fan t M T) (bs fan t (j + 1) T) (bs fan t j T) 3 (fun q => z93 (q % 6)) h2 (by omega)
  refine ⟨?_, ?_, hr.lt, h2⟩
  · rw [Nat.mul_comm]; exact (hr.cell (by omega)).trans (congrArg some e0)
  · rw [Nat.mul_comm]; exact (hr.cell (by omega)).trans (congrArg some e3)
end Go.Proofs.Qxb6609507a.U

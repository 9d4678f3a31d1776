import Derived.Test.Qxb6609507aTopo
import Derived.RegionTactic
namespace Go.Proofs.Qxb6609507a.U
open Go.RowKit Go.Proofs.Qxb6609507a.Plain
set_option linter.unusedVariables false

def TopoPost (g p s n : Int) (m : Nat) (t : Nat → Int) (w : World) (e : Ending) (w' : World) : Prop :=
  ∃ (a0 a1 a2 a3 a4 b0 b1 b2 b3 b4 b5 : Int) (r : Bool), e = .returned (.tuple #[.agg #[.int .i64 a0, .int .i64 a1, .int .i64 a2, .int .i64 a3, .int .i64 a4], .agg #[.int .i64 b0, .int .i64 b1, .int .i64 b2, .int .i64 b3, .int .i64 b4, .int .i64 b5], .bool r]) ∧
    Below w.heap.size w w' ∧ (r = true → ∃ (G P S N : Nat) (T : Nat → Nat), g = G ∧ p = P ∧ s = S ∧ n = N ∧ Small G P S N ∧ a0 = 1 ∧ a1 = sz (fanOf G P S N) 1 ∧ a2 = sz (fanOf G P S N) 2 ∧ a3 = sz (fanOf G P S N) 3 ∧ a4 = sz (fanOf G P S N) 4 ∧
      b0 = 0 ∧ b1 = G ∧ b2 = P ∧ b3 = S ∧ b4 = N ∧ b5 = 0 ∧ (∀ i, i < m → t i = T i ∧ T i ≤ 4 ∧ Pos (fanOf G P S N) (T i)) ∧ off (fanOf G P S N) T m ≤ 65536)

theorem below4 (w : World) (a b c d : Obj) : Below w.heap.size w ((((w.alloc a).alloc b).alloc c).alloc d) :=
  ((((Below.refl _ _).alloc (Nat.le_refl _) _).alloc (by simp) _).alloc (by simp; omega) _).alloc (by simp; omega) _

set_option maxRecDepth 100000 in
set_option maxHeartbeats 1000000 in
theorem topoBad (g p s n : Int) (a : Option Addr) (m c : Nat) (t : Nat → Int) (w : World)
    (h : Hid (¬ (1 ≤ g ∧ g ≤ 65536 ∧ 1 ≤ p ∧ p ≤ 65536 ∧ 1 ≤ s ∧ s ≤ 65536 ∧ 0 ≤ n ∧ n ≤ 65536))) :
    Calls Try.prog 8 #[.int .i64 g, .int .i64 p, .int .i64 s, .int .i64 n, .slice a m c] w (TopoPost g p s n m t w) := by
  by_cases h0 : g < 1
  · go_enter Try.func8, Try.ntmps8
    go_wp2
    go_region
    all_goals
      go_wp2
      exact bodyPost_ret (v := .tuple #[.agg #[.int .i64 0, .int .i64 0, .int .i64 0, .int .i64 0, .int .i64 0], .agg #[.int .i64 0, .int .i64 0, .int .i64 0, .int .i64 0, .int .i64 0, .int .i64 0], .bool false]) (by simp [results, Try.results8, go_sem]) rfl ⟨0, 0, 0, 0, 0, 0, 0, 0, 0, 0, 0, false, rfl, (below4 w _ _ _ _).drew, fun h => by cases h⟩
  have k0 : 1 ≤ g := by omega
  clear h0
  by_cases h1 : 65536 < g
  · go_enter Try.func8, Try.ntmps8
    go_wp2
    go_region
    all_goals
      go_wp2
      exact bodyPost_ret (v := .tuple #[.agg #[.int .i64 0, .int .i64 0, .int .i64 0, .int .i64 0, .int .i64 0], .agg #[.int .i64 0, .int .i64 0, .int .i64 0, .int .i64 0, .int .i64 0, .int .i64 0], .bool false]) (by simp [results, Try.results8, go_sem]) rfl ⟨0, 0, 0, 0, 0, 0, 0, 0, 0, 0, 0, false, rfl, (below4 w _ _ _ _).drew, fun h => by cases h⟩
  have k1 : g ≤ 65536 := by omega
  clear h1
  by_cases h2 : p < 1
  · go_enter Try.func8, Try.ntmps8
    go_wp2
    go_region
    all_goals
      go_wp2
      exact bodyPost_ret (v := .tuple #[.agg #[.int .i64 0, .int .i64 0, .int .i64 0, .int .i64 0, .int .i64 0], .agg #[.int .i64 0, .int .i64 0, .int .i64 0, .int .i64 0, .int .i64 0, .int .i64 0], .bool false]) (by simp [results, Try.results8, go_sem]) rfl ⟨0, 0, 0, 0, 0, 0, 0, 0, 0, 0, 0, false, rfl, (below4 w _ _ _ _).drew, fun h => by cases h⟩
  have k2 : 1 ≤ p := by omega
  clear h2
  by_cases h3 : 65536 < p
  · go_enter Try.func8, Try.ntmps8
    go_wp2
    go_region
    all_goals
      go_wp2
      exact bodyPost_ret (v := .tuple #[.agg #[.int .i64 0, .int .i64 0, .int .i64 0, .int .i64 0, .int .i64 0], .agg #[.int .i64 0, .int .i64 0, .int .i64 0, .int .i64 0, .int .i64 0, .int .i64 0], .bool false]) (by simp [results, Try.results8, go_sem]) rfl ⟨0, 0, 0, 0, 0, 0, 0, 0, 0, 0, 0, false, rfl, (below4 w _ _ _ _).drew, fun h => by cases h⟩
  have k3 : p ≤ 65536 := by omega
  clear h3
  by_cases h4 : s < 1
  · go_enter Try.func8, Try.ntmps8
    go_wp2
    go_region
    all_goals
      go_wp2
      exact bodyPost_ret (v := .tuple #[.agg #[.int .i64 0, .int .i64 0, .int .i64 0, .int .i64 0, .int .i64 0], .agg #[.int .i64 0, .int .i64 0, .int .i64 0, .int .i64 0, .int .i64 0, .int .i64 0], .bool false]) (by simp [results, Try.results8, go_sem]) rfl ⟨0, 0, 0, 0, 0, 0, 0, 0, 0, 0, 0, false, rfl, (below4 w _ _ _ _).drew, fun h => by cases h⟩
  have k4 : 1 ≤ s := by omega
  clear h4
  by_cases h5 : 65536 < s
  · go_enter Try.func8, Try.ntmps8
    go_wp2
    go_region
    all_goals
      go_wp2
      exact bodyPost_ret (v := .tuple #[.agg #[.int .i64 0, .int .i64 0, .int .i64 0, .int .i64 0, .int .i64 0], .agg #[.int .i64 0, .int .i64 0, .int .i64 0, .int .i64 0, .int .i64 0, .int .i64 0], .bool false]) (by simp [results, Try.results8, go_sem]) rfl ⟨0, 0, 0, 0, 0, 0, 0, 0, 0, 0, 0, false, rfl, (below4 w _ _ _ _).drew, fun h => by cases h⟩
  have k5 : s ≤ 65536 := by omega
  clear h5
  by_cases h6 : n < 0
  · go_enter Try.func8, Try.ntmps8
    go_wp2
    go_region
    all_goals
      go_wp2
      exact bodyPost_ret (v := .tuple #[.agg #[.int .i64 0, .int .i64 0, .int .i64 0, .int .i64 0, .int .i64 0], .agg #[.int .i64 0, .int .i64 0, .int .i64 0, .int .i64 0, .int .i64 0, .int .i64 0], .bool false]) (by simp [results, Try.results8, go_sem]) rfl ⟨0, 0, 0, 0, 0, 0, 0, 0, 0, 0, 0, false, rfl, (below4 w _ _ _ _).drew, fun h => by cases h⟩
  have k6 : 0 ≤ n := by omega
  clear h6
  by_cases h7 : 65536 < n
  · go_enter Try.func8, Try.ntmps8
    go_wp2
    go_region
    all_goals
      go_wp2
      exact bodyPost_ret (v := .tuple #[.agg #[.int .i64 0, .int .i64 0, .int .i64 0, .int .i64 0, .int .i64 0], .agg #[.int .i64 0, .int .i64 0, .int .i64 0, .int .i64 0, .int .i64 0, .int .i64 0], .bool false]) (by simp [results, Try.results8, go_sem]) rfl ⟨0, 0, 0, 0, 0, 0, 0, 0, 0, 0, 0, false, rfl, (below4 w _ _ _ _).drew, fun h => by cases h⟩
  have k7 : n ≤ 65536 := by omega
  clear h7
  exact absurd ⟨k0, k1, k2, k3, k4, k5, k6, k7⟩ h.out

end Go.Proofs.Qxb6609507a.U

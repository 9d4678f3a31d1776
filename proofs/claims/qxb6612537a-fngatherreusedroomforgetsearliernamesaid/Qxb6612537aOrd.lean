import Derived.Test.Qxb6612537aOn
namespace Go.Proofs.Qxb6612537a.U
open Go.RowKit
set_option linter.unusedVariables false
set_option linter.unusedSimpArgs false

/-- cmp.Compare at int64. -/
def cmpI (a b : Int) : Int := if a < b then -1 else if b < a then 1 else 0
theorem compare41_any (a b : Int) (w : World) : Calls Try.prog 41 #[.int .i64 a, .int .i64 b] w (fun e w' => e = .returned (.int .i64 (cmpI a b)) ∧ w' = w) := by
  by_cases h1 : a < b
  · have e : cmpI a b = -1 := by unfold cmpI; rw [if_pos h1]
    rw [e]
    go_enter Try.func41, Try.ntmps41
    go_wp2
    go_ret
    exact ⟨rfl, rfl⟩
  · by_cases h2 : b < a
    · have e : cmpI a b = 1 := by unfold cmpI; rw [if_neg h1, if_pos h2]
      rw [e]
      go_enter Try.func41, Try.ntmps41
      go_wp2
      go_ret
      exact ⟨rfl, rfl⟩
    · have e : cmpI a b = 0 := by unfold cmpI; rw [if_neg h1, if_neg h2]
      rw [e]
      go_enter Try.func41, Try.ntmps41
      go_wp2
      go_ret
      exact ⟨rfl, rfl⟩
theorem order40_any (p q : Nat) (P Q : Nat) (a b : Int) (w : World) (ha : w.cell? ⟨p, P + 2, none⟩ = some (.int .i64 a)) (hb : w.cell? ⟨q, Q + 2, none⟩ = some (.int .i64 b)) :
    Calls Try.prog 40 #[.pointer (some ⟨p, P, none⟩), .pointer (some ⟨q, Q, none⟩)] w (fun e w' => e = .returned (.int .i64 (cmpI a b)) ∧ ∃ m, w' = w.drewN m) := by
  have C := compare41_any a b
  go_enter Try.func40, Try.ntmps40
  go_upto_region 1 with fail
  go_quiet ((go_at_call 41; exact Calls.quiet_of_same (C _)))
  go_wp2
  go_ret
  exact ⟨rfl, _, rfl⟩
end Go.Proofs.Qxb6612537a.U

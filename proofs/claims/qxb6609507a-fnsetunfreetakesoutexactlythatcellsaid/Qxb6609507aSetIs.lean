import Derived.Test.Qxb6609507aAcc
import Derived.Test.Qxb6609507aBody0
/-! WHAT zzSetMatches ASKS OF A SET. -/
namespace Go.Proofs.Qxb6609507a.U
open Go.RowKit Go.Proofs.Qxb6609507a.Plain
set_option linter.unusedVariables false

structure SetIs (w : World) (FF l nn : Nat) (aw : Option Addr) (C : Nat → Value) (D WB cc : Nat) (XB : Nat → Nat) (S : Nat → Bool) (X : Nat → Nat → Nat) : Prop where
  ff : Row w FF 88 40 C
  hl : l < 5
  f0 : C (7 + l * 3) = .slice (some ⟨WB, 0, none⟩) D cc
  f1 : C (7 + l * 3 + 1) = .slice (some ⟨XB 0, 0, none⟩) (wlen nn 0) (wlen nn 0)
  f2 : C (7 + l * 3 + 2) = .int .i64 (cnt S nn : Nat)
  wd : Words w nn D WB XB X
  ok : Ok (wlen nn) D S X
  dp : IsDepth nn D
  n9 : nn ≤ 65536
  out : ∀ i, nn ≤ i → S i = false
  want : ∀ i, i < nn → ∃ gw, aw = some ⟨gw, 0, none⟩ ∧ w.cell? ⟨gw, i, none⟩ = some (.bool (S i))

theorem wlen_le {nn : Nat} (h : nn ≤ 65536) : ∀ k, wlen nn k ≤ 1024
  | 0 => by show max ((nn + 63) / 64) 1 ≤ 1024; omega
  | k + 1 => by have := wlen_le h k; show (wlen nn k + 63) / 64 ≤ 1024; omega
theorem depth_le {nn D : Nat} (h : nn ≤ 65536) (hd : IsDepth nn D) : D ≤ 3 := by
  have h0 := wlen_le h 0
  have h1 : wlen nn 1 = (wlen nn 0 + 63) / 64 := rfl
  have h2 : wlen nn 2 = (wlen nn 1 + 63) / 64 := rfl
  have h3 : wlen nn 3 = (wlen nn 2 + 63) / 64 := rfl
  by_cases e : D ≤ 3
  · exact e
  · have := hd.2.2 2 (by omega)
    omega
theorem bsum_or (f : Nat → Bool) (b : Nat) (h : f b = true) : bsum f b ||| 2 ^ b = bsum f (b + 1) := by
  refine Nat.eq_of_testBit_eq fun c => ?_
  rw [Nat.testBit_or, bsum_bit, bsum_bit, Nat.testBit_two_pow]
  rcases Nat.lt_trichotomy c b with h1 | h1 | h1
  · simp [h1, Nat.lt_succ_of_lt h1, Nat.ne_of_gt h1]
  · subst h1; simp [h]
  · simp [show ¬ c < b by omega, show ¬ c < b + 1 by omega, Nat.ne_of_lt h1]
theorem bsum_no (f : Nat → Bool) (b : Nat) (h : f b = false) : bsum f (b + 1) = bsum f b := by
  show bsum f b + (if f b = true then 2 ^ b else 0) = _
  rw [h]; simp
theorem bsum_lt64 (f : Nat → Bool) {b : Nat} (h : b ≤ 64) : bsum f b < 18446744073709551616 :=
  Nat.lt_of_lt_of_le (bsum_lt f b) (Nat.pow_le_pow_right (by omega) h)
end Go.Proofs.Qxb6609507a.U

import Derived.Test.Qxb6612537aPremise
import Derived.Test.Qxb6612537aShelf
namespace Go.Proofs.Qxb6612537a.U
open Go.RowKit Go.Proofs.Qxb6612537a.Plain Go.Lib
set_option linter.unusedVariables false
set_option linter.unusedSimpArgs false

/-- The name of the method that a function calls by an interface: read off the program's own text. -/
def findInv : Code → Option String
  | .region _ o _ => o.toList.findSome? fun x => match x.op with
    | .call c => match c.callee with
      | .invoke _ m => some m
      | _ => none
    | _ => none
  | .block _ c => findInv c
  | .seq a b => match findInv a with
    | some c => some c
    | none => findInv b
  | .loop c => findInv c
  | .scope c => findInv c
  | .cond _ a b => match findInv a with
    | some c => some c
    | none => findInv b
  | _ => none
theorem meth70 : (fun s => ∀ (V : Value) (w : World), Sem.run Try.prog (method 350 70 V s) w = .ok (96, V) w) ((Try.f47.body.bind findInv).getD "") := by
  intro V w
  kernel_rfl
theorem meth74 : (fun s => ∀ (V : Value) (w : World), Sem.run Try.prog (method 350 74 V s) w = .ok (98, V) w) ((Try.f47.body.bind findInv).getD "") := by
  intro V w
  kernel_rfl
theorem named96_any (r : HRec) (w : World) : Calls Try.prog 96 #[.agg #[.string r.nm, .string r.sv, .int .i64 r.tx]] w (fun e w' => e = .returned (.string r.nm) ∧ Below w.heap.size w w') := by
  go_enter Try.func96, Try.ntmps96
  go_wp2
  go_ret
  exact ⟨rfl, (Below.refl _ _).alloc (Nat.le_refl _) _⟩
set_option maxRecDepth 100000 in
theorem cmp47_any (r : HRec) (s : ByteArray) (w : World) : Calls Try.prog 47 #[.agg #[.string r.nm, .string r.sv, .int .i64 r.tx], .string s] w (fun e w' => e = .returned (.int .i64 (compareBytes (By r.nm) (By s))) ∧ Below w.heap.size w w') := by
  have M := meth70
  conv at M => arg 1; whnf
  go_enter Try.func47, Try.ntmps47
  go_wp2_with (first | (go_at_call 48; refine (strings_Compare _ _ _).mono ?_; rintro e w2 ⟨rfl, rfl⟩) | (go_at_call 96; refine (named96_any _ _).mono ?_; rintro e w2 ⟨rfl, hb⟩))
  go_ret
  exact ⟨rfl, ((Below.refl _ _).alloc (Nat.le_refl _) _).trans (hb.mono (by simp))⟩
theorem named98_any (r : WRec) (w : World) : Calls Try.prog 98 #[.agg #[.string r.nm, .int .i64 r.tx, .int .i64 r.od, .int .i64 r.rk, .bool r.up]] w (fun e w' => e = .returned (.string r.nm) ∧ Below w.heap.size w w') := by
  go_enter Try.func98, Try.ntmps98
  go_wp2
  go_ret
  exact ⟨rfl, (Below.refl _ _).alloc (Nat.le_refl _) _⟩
set_option maxRecDepth 100000 in
theorem cmp52_any (r : WRec) (s : ByteArray) (w : World) : Calls Try.prog 52 #[.agg #[.string r.nm, .int .i64 r.tx, .int .i64 r.od, .int .i64 r.rk, .bool r.up], .string s] w (fun e w' => e = .returned (.int .i64 (compareBytes (By r.nm) (By s))) ∧ Below w.heap.size w w') := by
  have M := meth74
  conv at M => arg 1; whnf
  go_enter Try.func52, Try.ntmps52
  go_wp2_with (first | (go_at_call 48; refine (strings_Compare _ _ _).mono ?_; rintro e w2 ⟨rfl, rfl⟩) | (go_at_call 98; refine (named98_any _ _).mono ?_; rintro e w2 ⟨rfl, hb⟩))
  go_ret
  exact ⟨rfl, ((Below.refl _ _).alloc (Nat.le_refl _) _).trans (hb.mono (by simp))⟩
theorem beneath_any (s : ByteArray) (w : World) (hs : s.size ≤ 1048576) : Calls Try.prog 43 #[.string s] w (fun e w' => (∃ t, e = .returned (.string t) ∧ By t = By s ++ [46]) ∧ w' = w) := by
  go_enter Try.func43, Try.ntmps43
  go_wp2
  go_ret
  exact ⟨⟨_, rfl, by simp [By]⟩, rfl⟩
theorem pre_dec {a b : ByteArray} (h : b.size ≤ a.size) : decide (By b <+: By a) = ((a.extract 0 b.size).toList == b.toList) := by
  rw [by_toList, by_toList, by_head]
  by_cases e : By b = (By a).take b.size
  · rw [decide_eq_true (List.prefix_iff_eq_take.2 (by rw [by_len]; exact e)), ← e]; simp
  · rw [decide_eq_false (fun hp => e (by have := List.prefix_iff_eq_take.1 hp; rwa [by_len] at this))]
    cases e2 : ((By a).take b.size == By b)
    · rfl
    · exact absurd (eq_of_beq e2).symm e
theorem hasPrefix_any (a b : ByteArray) (w : World) (ha : a.size ≤ 1048576) (hb : b.size ≤ 1048580) : Calls Try.prog 45 #[.string a, .string b] w (fun e w' => e = .returned (.bool (decide (By b <+: By a))) ∧ w' = w) := by
  by_cases h : b.size ≤ a.size
  · have hh : (b.size : Int) ≤ (a.size : Int) := by omega
    rw [pre_dec h]
    go_enter Try.func45, Try.ntmps45
    go_wp2
    go_ret
    exact ⟨rfl, rfl⟩
  · have hh : ¬ (b.size : Int) ≤ (a.size : Int) := by omega
    have e : decide (By b <+: By a) = false := decide_eq_false fun hp => by
      have := hp.length_le
      rw [by_len, by_len] at this
      exact h this
    rw [e]
    go_enter Try.func45, Try.ntmps45
    go_wp2
    go_ret
    exact ⟨rfl, rfl⟩
theorem eq_dec (a b : ByteArray) : (a.toList == b.toList) = decide (By a = By b) := by
  rw [by_toList, by_toList]
  by_cases e : By a = By b
  · rw [decide_eq_true e, e]; simp
  · rw [decide_eq_false e]
    cases e2 : (By a == By b)
    · rfl
    · exact absurd (eq_of_beq e2) e
theorem eq42_any (n s : ByteArray) (B : Nat) (w : World) (hB : w.cell? ⟨B, 0, none⟩ = some (.string s)) : Calls Try.prog 42 #[.string n, .pointer (some ⟨B, 0, none⟩)] w (fun e w' => e = .returned (.bool (decide (By n = By s))) ∧ w' = w) := by
  go_enter Try.func42, Try.ntmps42
  go_wp2
  go_ret
  exact ⟨ret_bool (eq_dec n s), rfl⟩
theorem eq49_any (n s : ByteArray) (B : Nat) (w : World) (hB : w.cell? ⟨B, 0, none⟩ = some (.string s)) : Calls Try.prog 49 #[.string n, .pointer (some ⟨B, 0, none⟩)] w (fun e w' => e = .returned (.bool (decide (By n = By s))) ∧ w' = w) := by
  go_enter Try.func49, Try.ntmps49
  go_wp2
  go_ret
  exact ⟨ret_bool (eq_dec n s), rfl⟩
theorem pre44_any (n s : ByteArray) (B : Nat) (w : World) (hB : w.cell? ⟨B, 0, none⟩ = some (.string s)) (hn : n.size ≤ 1048576) (hs : s.size ≤ 1048580) : Calls Try.prog 44 #[.string n, .pointer (some ⟨B, 0, none⟩)] w (fun e w' => e = .returned (.bool (decide (By s <+: By n))) ∧ w' = w) := by
  go_enter Try.func44, Try.ntmps44
  go_wp2_with (go_at_call 45; refine (hasPrefix_any _ _ _ hn hs).mono ?_; rintro e w2 ⟨rfl, rfl⟩)
  go_ret
  exact ⟨rfl, rfl⟩
theorem pre50_any (n s : ByteArray) (B : Nat) (w : World) (hB : w.cell? ⟨B, 0, none⟩ = some (.string s)) (hn : n.size ≤ 1048576) (hs : s.size ≤ 1048580) : Calls Try.prog 50 #[.string n, .pointer (some ⟨B, 0, none⟩)] w (fun e w' => e = .returned (.bool (decide (By s <+: By n))) ∧ w' = w) := by
  go_enter Try.func50, Try.ntmps50
  go_wp2_with (go_at_call 45; refine (hasPrefix_any _ _ _ hn hs).mono ?_; rintro e w2 ⟨rfl, rfl⟩)
  go_ret
  exact ⟨rfl, rfl⟩
end Go.Proofs.Qxb6612537a.U

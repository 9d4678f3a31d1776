import Derived.Test.Qxb6603362aRows
import Derived.WalkKit
import Derived.ProofKit
import Derived.OpenShut
import Derived.ShutString
import Derived.BigQuiet
import Derived.Outline
namespace Go.Proofs.Qxb6603362a.fnPoolRunItemBlindAndUnknownParts
open Go.ChangeShapes Go.WideShapes Go.ChangeAt Go.RowKit
set_option linter.unusedVariables false

theorem Grown.trans {a b c : World} (h : Grown a b) (k : Grown b c) : Grown a c :=
  ⟨World.keptBut_trans h.1 k.1, fun x => (k.2.1 x).trans (h.2.1 x), Nat.le_trans h.2.2 k.2.2⟩

theorem Grown.drewN {a b : World} (h : Grown a b) (n : Nat) : Grown a (b.drewN n) := h

/-- What (poolOp).run hands back for part p, item i, state n. -/
def Run20 (p i n k r : Int) (o : Bool) (x : Int) : Prop := ∀ w : World,
  Calls Try.prog 20 #[.agg #[.int .u8 p, .int .i64 i], .int .i64 n] w fun e w' =>
    e = .returned (.tuple #[.agg #[.int .u8 k, .int .i64 r, .bool o], .int .i64 x]) ∧ Grown w w'

theorem run0 (i n : Int) : Run20 0 i n 0 0 false (wrap64 (n + 1)) := by
  intro w
  go_enter Try.func20, Try.ntmps20
  go_wp2
  exact bodyPost_ret (v := .tuple #[.agg #[.int .u8 0, .int .i64 0, .bool false], .int .i64 (wrap64 (n + 1))]) (by simp [results, Try.results20, go_sem]) rfl ⟨rfl, by repeat (first | exact Grown.refl _ | apply Grown.drew | apply Grown.alloc)⟩

theorem run1z (i : Int) : Run20 1 i 0 5 i false 0 := by
  intro w
  go_enter Try.func20, Try.ntmps20
  go_wp2
  exact bodyPost_ret (v := .tuple #[.agg #[.int .u8 5, .int .i64 i, .bool false], .int .i64 0]) (by simp [results, Try.results20, go_sem]) rfl ⟨rfl, by repeat (first | exact Grown.refl _ | apply Grown.drew | apply Grown.alloc)⟩

theorem run1 (i n : Int) (h : (n == 0) = false) : Run20 1 i n 4 i true (wrap64 (n - 1)) := by
  intro w
  go_enter Try.func20, Try.ntmps20
  go_wp2
  exact bodyPost_ret (v := .tuple #[.agg #[.int .u8 4, .int .i64 i, .bool true], .int .i64 (wrap64 (n - 1))]) (by simp [results, Try.results20, go_sem]) rfl ⟨rfl, by repeat (first | exact Grown.refl _ | apply Grown.drew | apply Grown.alloc)⟩

theorem run2 (i n : Int) : Run20 2 i n 0 0 false (wrap64 (n - 1)) := by
  intro w
  go_enter Try.func20, Try.ntmps20
  go_wp2
  exact bodyPost_ret (v := .tuple #[.agg #[.int .u8 0, .int .i64 0, .bool false], .int .i64 (wrap64 (n - 1))]) (by simp [results, Try.results20, go_sem]) rfl ⟨rfl, by repeat (first | exact Grown.refl _ | apply Grown.drew | apply Grown.alloc)⟩

theorem run3p (i n : Int) (h : 0 < n) : Run20 3 i n 6 0 false n := by
  intro w
  go_enter Try.func20, Try.ntmps20
  go_wp2
  exact bodyPost_ret (v := .tuple #[.agg #[.int .u8 6, .int .i64 0, .bool false], .int .i64 n]) (by simp [results, Try.results20, go_sem]) rfl ⟨rfl, by repeat (first | exact Grown.refl _ | apply Grown.drew | apply Grown.alloc)⟩

theorem run3n (i n : Int) (h : ¬ 0 < n) : Run20 3 i n 4 0 false n := by
  intro w
  go_enter Try.func20, Try.ntmps20
  go_wp2
  exact bodyPost_ret (v := .tuple #[.agg #[.int .u8 4, .int .i64 0, .bool false], .int .i64 n]) (by simp [results, Try.results20, go_sem]) rfl ⟨rfl, by repeat (first | exact Grown.refl _ | apply Grown.drew | apply Grown.alloc)⟩

theorem run4 (p i n : Int) (h0 : (p == 0) = false) (h1 : (p == 1) = false) (h2 : (p == 2) = false) (h3 : (p == 3) = false) : Run20 p i n 2 n false n := by
  intro w
  go_enter Try.func20, Try.ntmps20
  go_wp2
  exact bodyPost_ret (v := .tuple #[.agg #[.int .u8 2, .int .i64 n, .bool false], .int .i64 n]) (by simp [results, Try.results20, go_sem]) rfl ⟨rfl, by repeat (first | exact Grown.refl _ | apply Grown.drew | apply Grown.alloc)⟩

/-- ZZPoolRun: the four numbers laid side by side. -/
theorem zz {p i n k r : Int} {o : Bool} {x : Int} (h : Run20 p i n k r o x) (w : World) :
    Calls Try.prog 8 #[.int .u8 p, .int .i64 i, .int .i64 n] w fun e w' =>
      e = .returned (.tuple #[.int .u8 k, .int .i64 r, .bool o, .int .i64 x]) ∧ Grown w w' := by
  have H : Hid (Run20 p i n k r o x) := h
  clear h
  go_enter Try.func8, Try.ntmps8
  go_wp2_with fail
  refine (H.out _).mono ?_
  rintro e w1 ⟨rfl, hg⟩
  have HG : Hid (Grown w w1) := hg
  clear hg H
  go_wp2
  go_quiet (fail)
  go_wp2
  refine bodyPost_ret (v := .tuple #[.int .u8 k, .int .i64 r, .bool o, .int .i64 x]) (by simp [results, Try.results8, go_sem]) rfl ⟨rfl, ?_⟩
  exact Grown.drewN (Grown.alloc HG.out _ _) _

/-- The law, where the part is a take that found the item. -/
theorem law1 {i1 i2 n k : Int} {o : Bool} {x : Int} (h1 : Run20 1 i1 n k i1 o x) (h2 : Run20 1 i2 n k i2 o x) (w : World) :
    Calls Try.prog 5 #[.int .u8 1, .int .i64 i1, .int .i64 i2, .int .i64 n] w fun e w' => e = .returned (.bool true) ∧ Grown w w' := by
  have H1 : Hid (Run20 1 i1 n k i1 o x) := h1
  have H2 : Hid (Run20 1 i2 n k i2 o x) := h2
  clear h1 h2
  go_enter Try.func5, Try.ntmps5
  go_wp2_with fail
  refine (zz H1.out _).mono ?_
  rintro e w1 ⟨rfl, hg⟩
  have G1 : Hid (Grown w w1) := hg
  clear hg
  go_wp2_with fail
  refine (zz H2.out _).mono ?_
  rintro e w2 ⟨rfl, hg⟩
  have G2 : Hid (Grown w w2) := Grown.trans G1.out hg
  clear hg H1 H2
  go_wp2
  go_ret
  exact ⟨rfl, G2.out⟩

/-- The law at a named part that is no such take. -/
theorem law2 {p i1 i2 n k r : Int} {o : Bool} {x : Int} (hp : (p == 1) = false) (hp5 : p < 5) (h1 : Run20 p i1 n k r o x) (h2 : Run20 p i2 n k r o x) (w : World) :
    Calls Try.prog 5 #[.int .u8 p, .int .i64 i1, .int .i64 i2, .int .i64 n] w fun e w' => e = .returned (.bool true) ∧ Grown w w' := by
  have H1 : Hid (Run20 p i1 n k r o x) := h1
  have H2 : Hid (Run20 p i2 n k r o x) := h2
  clear h1 h2
  go_enter Try.func5, Try.ntmps5
  go_wp2_with fail
  refine (zz H1.out _).mono ?_
  rintro e w1 ⟨rfl, hg⟩
  have G1 : Hid (Grown w w1) := hg
  clear hg
  go_wp2_with fail
  refine (zz H2.out _).mono ?_
  rintro e w2 ⟨rfl, hg⟩
  have G2 : Hid (Grown w w2) := Grown.trans G1.out hg
  clear hg H1 H2
  go_wp2
  go_ret
  exact ⟨rfl, G2.out⟩

/-- The law at a part past the five named ones. -/
theorem law5 {p i1 i2 n k r : Int} {o : Bool} {x : Int} (hp : (p == 1) = false) (hp5 : 5 ≤ p) (h1 : Run20 p i1 n k r o x) (h2 : Run20 p i2 n k r o x) (h3 : Run20 4 i1 n k r o x) (w : World) :
    Calls Try.prog 5 #[.int .u8 p, .int .i64 i1, .int .i64 i2, .int .i64 n] w fun e w' => e = .returned (.bool true) ∧ Grown w w' := by
  have H1 : Hid (Run20 p i1 n k r o x) := h1
  have H2 : Hid (Run20 p i2 n k r o x) := h2
  have H3 : Hid (Run20 4 i1 n k r o x) := h3
  clear h1 h2 h3
  go_enter Try.func5, Try.ntmps5
  go_wp2_with fail
  refine (zz H1.out _).mono ?_
  rintro e w1 ⟨rfl, hg⟩
  have G1 : Hid (Grown w w1) := hg
  clear hg
  go_wp2_with fail
  refine (zz H2.out _).mono ?_
  rintro e w2 ⟨rfl, hg⟩
  have G2 : Hid (Grown w w2) := Grown.trans G1.out hg
  clear hg H1 H2
  go_wp2_with fail
  refine (zz H3.out _).mono ?_
  rintro e w3 ⟨rfl, hg⟩
  have G3 : Hid (Grown w w3) := Grown.trans G2.out hg
  clear hg H3
  go_wp2
  go_ret
  exact ⟨rfl, G3.out⟩

theorem law_any (p i1 i2 n : Int) (w : World) :
    Calls Try.prog 5 #[.int .u8 p, .int .i64 i1, .int .i64 i2, .int .i64 n] w fun e w' => e = .returned (.bool true) ∧ Grown w w' := by
  by_cases h1 : p = 1
  · subst h1
    by_cases hn : n = 0
    · subst hn
      exact law1 (run1z i1) (run1z i2) w
    · exact law1 (run1 i1 n (by simpa using hn)) (run1 i2 n (by simpa using hn)) w
  · have e1 : (p == 1) = false := by simpa using h1
    by_cases h0 : p = 0
    · subst h0
      exact law2 e1 (by decide) (run0 i1 n) (run0 i2 n) w
    · by_cases h2 : p = 2
      · subst h2
        exact law2 e1 (by decide) (run2 i1 n) (run2 i2 n) w
      · by_cases h3 : p = 3
        · subst h3
          by_cases hn : 0 < n
          · exact law2 e1 (by decide) (run3p i1 n hn) (run3p i2 n hn) w
          · exact law2 e1 (by decide) (run3n i1 n hn) (run3n i2 n hn) w
        · have e0 : (p == 0) = false := by simpa using h0
          have e2 : (p == 2) = false := by simpa using h2
          have e3 : (p == 3) = false := by simpa using h3
          by_cases h5 : p < 5
          · exact law2 e1 h5 (run4 p i1 n e0 e1 e2 e3) (run4 p i2 n e0 e1 e2 e3) w
          · exact law5 e1 (by omega) (run4 p i1 n e0 e1 e2 e3) (run4 p i2 n e0 e1 e2 e3) (run4 4 i1 n rfl rfl rfl rfl) w
end Go.Proofs.Qxb6603362a.fnPoolRunItemBlindAndUnknownParts

import Derived.Test.Qxb6609507aSetOps
import Derived.Test.Qxb6609507aTopo
/-! THE SMALL READERS OF A FOREST. -/
namespace Go.Proofs.Qxb6609507a.U
open Go.RowKit Go.Proofs.Qxb6609507a.Plain
set_option linter.unusedVariables false
set_option linter.unusedSimpArgs false

section
variable {w : World} {FF : Nat} {C : Nat → Value}
theorem acc18 (hF : Row w FF 88 40 C) (l D c : Nat) (a : Option Addr) (hl : l < 5) (hc : C (7 + l * 3) = .slice a D c) : Calls Try.prog 18 #[.pointer (some ⟨FF, 0, none⟩), .int .i64 l] w (fun e w' => e = .returned (.int .i64 D) ∧ w' = w) := by
  have c1 : w.cell? ⟨FF, 7 + l * 3, none⟩ = some (.slice a D c) := (hF.cell (by omega)).trans (congrArg some hc)
  go_enter Try.func18, Try.ntmps18
  go_wp2
  go_ret
  exact ⟨rfl, rfl⟩
theorem acc19 (hF : Row w FF 88 40 C) (l : Nat) (n : Int) (hl : l < 5) (hc : C (7 + l * 3 + 2) = .int .i64 n) : Calls Try.prog 19 #[.pointer (some ⟨FF, 0, none⟩), .int .i64 l] w (fun e w' => e = .returned (.int .i64 n) ∧ w' = w) := by
  have c1 : w.cell? ⟨FF, 7 + l * 3 + 2, none⟩ = some (.int .i64 n) := (hF.cell (by omega)).trans (congrArg some hc)
  go_enter Try.func19, Try.ntmps19
  go_wp2
  go_ret
  exact ⟨rfl, rfl⟩
theorem acc20 (hF : Row w FF 88 40 C) (l k D c WB : Nat) (f : Nat → Value) (a : Option Addr) (n c' : Nat) (hl : l < 5) (hc : C (7 + l * 3) = .slice (some ⟨WB, 0, none⟩) D c) (hW : Row w WB 54 D f) (hk : k < D) (hf : f k = .slice a n c') :
    Calls Try.prog 20 #[.pointer (some ⟨FF, 0, none⟩), .int .i64 l, .int .i64 k] w (fun e w' => e = .returned (.int .i64 n) ∧ w' = w) := by
  have c1 : w.cell? ⟨FF, 7 + l * 3, none⟩ = some (.slice (some ⟨WB, 0, none⟩) D c) := (hF.cell (by omega)).trans (congrArg some hc)
  have c2 : w.cell? ⟨WB, k, none⟩ = some (.slice a n c') := (hW.cell hk).trans (congrArg some hf)
  go_enter Try.func20, Try.ntmps20
  go_wp2
  go_ret
  exact ⟨rfl, rfl⟩
theorem acc21 (hF : Row w FF 88 40 C) (l k j D c WB XB : Nat) (f g : Nat → Value) (n c' : Nat) (v : Int) (hl : l < 5) (hc : C (7 + l * 3) = .slice (some ⟨WB, 0, none⟩) D c) (hW : Row w WB 54 D f) (hk : k < D) (hf : f k = .slice (some ⟨XB, 0, none⟩) n c') (hX : Row w XB 55 n g) (hj : j < n) (hg : g j = .int .u64 v) :
    Calls Try.prog 21 #[.pointer (some ⟨FF, 0, none⟩), .int .i64 l, .int .i64 k, .int .i64 j] w (fun e w' => e = .returned (.int .u64 v) ∧ w' = w) := by
  have c1 : w.cell? ⟨FF, 7 + l * 3, none⟩ = some (.slice (some ⟨WB, 0, none⟩) D c) := (hF.cell (by omega)).trans (congrArg some hc)
  have c2 : w.cell? ⟨WB, k, none⟩ = some (.slice (some ⟨XB, 0, none⟩) n c') := (hW.cell hk).trans (congrArg some hf)
  have c3 : w.cell? ⟨XB, j, none⟩ = some (.int .u64 v) := (hX.cell hj).trans (congrArg some hg)
  go_enter Try.func21, Try.ntmps21
  go_wp2
  go_ret
  exact ⟨rfl, rfl⟩
theorem acc25 (hF : Row w FF 88 40 C) (v : Value) (hc : C 22 = v) : Calls Try.prog 25 #[.pointer (some ⟨FF, 0, none⟩)] w (fun e w' => e = .returned v ∧ w' = w) := by
  have c1 : w.cell? ⟨FF, 22, none⟩ = some v := (hF.cell (i := 22) (by omega)).trans (congrArg some hc)
  go_enter Try.func25, Try.ntmps25
  go_wp2
  go_ret
  exact ⟨rfl, rfl⟩
theorem acc26 (hF : Row w FF 88 40 C) (l n c : Nat) (a : Option Addr) (hl : l < 5) (hc : C (2 + l) = .slice a n c) : Calls Try.prog 26 #[.pointer (some ⟨FF, 0, none⟩), .int .i64 l] w (fun e w' => e = .returned (.int .i64 n) ∧ w' = w) := by
  have c1 : w.cell? ⟨FF, 2 + l, none⟩ = some (.slice a n c) := (hF.cell (by omega)).trans (congrArg some hc)
  go_enter Try.func26, Try.ntmps26
  go_wp2
  go_ret
  exact ⟨rfl, rfl⟩
theorem acc27 (hF : Row w FF 88 40 C) (l n c KB : Nat) (a : Option Addr) (f : Nat → Value) (hl : l < 5) (hc : C 22 = .pointer (some ⟨KB, 0, none⟩)) (hK : Row w KB 99 5 f) (hf : f l = .slice a n c) : Calls Try.prog 27 #[.pointer (some ⟨FF, 0, none⟩), .int .i64 l] w (fun e w' => e = .returned (.int .i64 n) ∧ w' = w) := by
  have c1 : w.cell? ⟨FF, 22, none⟩ = some (.pointer (some ⟨KB, 0, none⟩)) := (hF.cell (i := 22) (by omega)).trans (congrArg some hc)
  have c2 : w.cell? ⟨KB, l, none⟩ = some (.slice a n c) := (hK.cell hl).trans (congrArg some hf)
  go_enter Try.func27, Try.ntmps27
  go_wp2
  go_ret
  exact ⟨rfl, rfl⟩
theorem acc28 (hF : Row w FF 88 40 C) (l : Nat) (v : Int) (hl : l < 5) (hc : C (23 + l) = .int .i32 v) : Calls Try.prog 28 #[.pointer (some ⟨FF, 0, none⟩), .int .i64 l] w (fun e w' => e = .returned (.int .i32 v) ∧ w' = w) := by
  have c1 : w.cell? ⟨FF, 23 + l, none⟩ = some (.int .i32 v) := (hF.cell (by omega)).trans (congrArg some hc)
  go_enter Try.func28, Try.ntmps28
  go_wp2
  go_ret
  exact ⟨rfl, rfl⟩
theorem acc29 (hF : Row w FF 88 40 C) (l : Nat) (v : Int) (hl : l < 6) (hc : C (33 + l) = .int .i32 v) : Calls Try.prog 29 #[.pointer (some ⟨FF, 0, none⟩), .int .i64 l] w (fun e w' => e = .returned (.int .i32 v) ∧ w' = w) := by
  have c1 : w.cell? ⟨FF, 33 + l, none⟩ = some (.int .i32 v) := (hF.cell (by omega)).trans (congrArg some hc)
  go_enter Try.func29, Try.ntmps29
  go_wp2
  go_ret
  exact ⟨rfl, rfl⟩
theorem acc30 (hF : Row w FF 88 40 C) (l i n c LB : Nat) (hl : l < 5) (hc : C (2 + l) = .slice (some ⟨LB, 0, none⟩) n c) (hi : i < n) : Calls Try.prog 30 #[.pointer (some ⟨FF, 0, none⟩), .int .i64 l, .int .i64 i] w (fun e w' => e = .returned (.pointer (some ⟨LB, i * 6, none⟩)) ∧ w' = w) := by
  have c1 : w.cell? ⟨FF, 2 + l, none⟩ = some (.slice (some ⟨LB, 0, none⟩) n c) := (hF.cell (by omega)).trans (congrArg some hc)
  go_enter Try.func30, Try.ntmps30
  go_wp2
  go_ret
  exact ⟨rfl, rfl⟩
theorem acc36 (hF : Row w FF 88 40 C) (l : Nat) (v : Int) (hl : l < 5) (hc : C (28 + l) = .int .i32 v) : Calls Try.prog 36 #[.pointer (some ⟨FF, 0, none⟩), .int .i64 l] w (fun e w' => e = .returned (.int .i32 v) ∧ w' = w) := by
  have c1 : w.cell? ⟨FF, 28 + l, none⟩ = some (.int .i32 v) := (hF.cell (by omega)).trans (congrArg some hc)
  go_enter Try.func36, Try.ntmps36
  go_wp2
  go_ret
  exact ⟨rfl, rfl⟩
theorem acc38 (hF : Row w FF 88 40 C) (n c : Nat) (a : Option Addr) (hc : C 0 = .slice a n c) : Calls Try.prog 38 #[.pointer (some ⟨FF, 0, none⟩)] w (fun e w' => e = .returned (.int .i64 n) ∧ w' = w) := by
  have c1 : w.cell? ⟨FF, 0, none⟩ = some (.slice a n c) := (hF.cell (i := 0) (by omega)).trans (congrArg some hc)
  go_enter Try.func38, Try.ntmps38
  go_wp2
  go_ret
  exact ⟨rfl, rfl⟩
theorem acc39 (hF : Row w FF 88 40 C) (j n c RB : Nat) (f : Nat → Value) (hc : C 0 = .slice (some ⟨RB, 0, none⟩) n c) (hR : Row w RB 62 n f) (hj : j < n) : Calls Try.prog 39 #[.pointer (some ⟨FF, 0, none⟩), .int .i64 j] w (fun e w' => e = .returned (f j) ∧ w' = w) := by
  have c1 : w.cell? ⟨FF, 0, none⟩ = some (.slice (some ⟨RB, 0, none⟩) n c) := (hF.cell (i := 0) (by omega)).trans (congrArg some hc)
  have c2 : w.cell? ⟨RB, j, none⟩ = some (f j) := hR.cell hj
  go_enter Try.func39, Try.ntmps39
  go_wp2
  go_ret
  exact ⟨rfl, rfl⟩
theorem acc40 (hF : Row w FF 88 40 C) (n c : Nat) (a : Option Addr) (hc : C 1 = .slice a n c) : Calls Try.prog 40 #[.pointer (some ⟨FF, 0, none⟩)] w (fun e w' => e = .returned (.int .i64 n) ∧ w' = w) := by
  have c1 : w.cell? ⟨FF, 1, none⟩ = some (.slice a n c) := (hF.cell (i := 1) (by omega)).trans (congrArg some hc)
  go_enter Try.func40, Try.ntmps40
  go_wp2
  go_ret
  exact ⟨rfl, rfl⟩
theorem acc42 (hF : Row w FF 88 40 C) (v : Value) (hc : C 39 = v) : Calls Try.prog 42 #[.pointer (some ⟨FF, 0, none⟩)] w (fun e w' => e = .returned v ∧ w' = w) := by
  have c1 : w.cell? ⟨FF, 39, none⟩ = some v := (hF.cell (i := 39) (by omega)).trans (congrArg some hc)
  go_enter Try.func42, Try.ntmps42
  go_wp2
  go_ret
  exact ⟨rfl, rfl⟩
theorem acc44 (hF : Row w FF 88 40 C) (l D c : Nat) (a : Option Addr) (hl : l < 5) (hc : C (7 + l * 3 + 1) = .slice a D c) : Calls Try.prog 44 #[.pointer (some ⟨FF, 0, none⟩), .int .i64 l] w (fun e w' => e = .returned (.int .i64 D) ∧ w' = w) := by
  have c1 : w.cell? ⟨FF, 7 + l * 3 + 1, none⟩ = some (.slice a D c) := (hF.cell (by omega)).trans (congrArg some hc)
  go_enter Try.func44, Try.ntmps44
  go_wp2
  go_ret
  exact ⟨rfl, rfl⟩
theorem acc45 (hF : Row w FF 88 40 C) (l j n c XB : Nat) (g : Nat → Value) (v : Int) (hl : l < 5) (hc : C (7 + l * 3 + 1) = .slice (some ⟨XB, 0, none⟩) n c) (hX : Row w XB 55 n g) (hj : j < n) (hg : g j = .int .u64 v) : Calls Try.prog 45 #[.pointer (some ⟨FF, 0, none⟩), .int .i64 l, .int .i64 j] w (fun e w' => e = .returned (.int .u64 v) ∧ w' = w) := by
  have c1 : w.cell? ⟨FF, 7 + l * 3 + 1, none⟩ = some (.slice (some ⟨XB, 0, none⟩) n c) := (hF.cell (by omega)).trans (congrArg some hc)
  have c3 : w.cell? ⟨XB, j, none⟩ = some (.int .u64 v) := (hX.cell hj).trans (congrArg some hg)
  go_enter Try.func45, Try.ntmps45
  go_wp2
  go_ret
  exact ⟨rfl, rfl⟩
end
/-- ZZcell: a drawn region that only reads. -/
theorem acc37 {w : World} (LB i n : Nat) (f : Nat → Value) (hR : Row w LB 93 (6 * n) f) (hi : i < n) (o b z lv : Int) (tp us : Bool)
    (h0 : f (6 * i) = .int .i32 o) (h1 : f (6 * i + 1) = .int .i32 b) (h2 : f (6 * i + 2) = .int .i32 z) (h3 : f (6 * i + 3) = .int .i8 lv) (h4 : f (6 * i + 4) = .bool tp) (h5 : f (6 * i + 5) = .bool us) :
    Calls Try.prog 37 #[.pointer (some ⟨LB, i * 6, none⟩)] w (fun e w' => e = .returned (.tuple #[.int .i32 o, .int .i32 b, .int .i32 z, .int .i8 lv, .bool tp, .bool us]) ∧ ∃ m, w' = w.drewN m) := by
  have c0 : w.cell? ⟨LB, i * 6, none⟩ = some (.int .i32 o) := by rw [Nat.mul_comm i 6]; exact (hR.cell (by omega)).trans (congrArg some h0)
  have c1 : w.cell? ⟨LB, i * 6 + 1, none⟩ = some (.int .i32 b) := by rw [Nat.mul_comm i 6]; exact (hR.cell (by omega)).trans (congrArg some h1)
  have c2 : w.cell? ⟨LB, i * 6 + 2, none⟩ = some (.int .i32 z) := by rw [Nat.mul_comm i 6]; exact (hR.cell (by omega)).trans (congrArg some h2)
  have c3 : w.cell? ⟨LB, i * 6 + 3, none⟩ = some (.int .i8 lv) := by rw [Nat.mul_comm i 6]; exact (hR.cell (by omega)).trans (congrArg some h3)
  have c4 : w.cell? ⟨LB, i * 6 + 4, none⟩ = some (.bool tp) := by rw [Nat.mul_comm i 6]; exact (hR.cell (by omega)).trans (congrArg some h4)
  have c5 : w.cell? ⟨LB, i * 6 + 5, none⟩ = some (.bool us) := by rw [Nat.mul_comm i 6]; exact (hR.cell (by omega)).trans (congrArg some h5)
  go_enter Try.func37, Try.ntmps37
  go_wp2
  go_quiet (fail)
  go_wp2
  refine bodyPost_ret (v := .tuple #[.int .i32 o, .int .i32 b, .int .i32 z, .int .i8 lv, .bool tp, .bool us]) (by simp [results, Try.results37, go_sem]) rfl ?_
  exact ⟨rfl, _, rfl⟩
theorem acc34 {w : World} {FF : Nat} {C : Nat → Value} (hF : Row w FF 88 40 C) (l i n c KB LK : Nat) (f g : Nat → Value) (hl : l < 5) (hc : C 22 = .pointer (some ⟨KB, 0, none⟩)) (hK : Row w KB 99 5 f) (hf : f l = .slice (some ⟨LK, 0, none⟩) n c) (hR : Row w LK 98 (3 * n) g) (hi : i < n) (a b d : Int)
    (h0 : g (3 * i) = .int .i32 a) (h1 : g (3 * i + 1) = .int .i32 b) (h2 : g (3 * i + 2) = .int .i32 d) :
    Calls Try.prog 34 #[.pointer (some ⟨FF, 0, none⟩), .int .i64 l, .int .i64 i] w (fun e w' => e = .returned (.tuple #[.int .i32 a, .int .i32 b, .int .i32 d]) ∧ ∃ m, w' = w.drewN m) := by
  have cf : w.cell? ⟨FF, 22, none⟩ = some (.pointer (some ⟨KB, 0, none⟩)) := (hF.cell (i := 22) (by omega)).trans (congrArg some hc)
  have ck : w.cell? ⟨KB, l, none⟩ = some (.slice (some ⟨LK, 0, none⟩) n c) := (hK.cell hl).trans (congrArg some hf)
  have c0 : w.cell? ⟨LK, i * 3, none⟩ = some (.int .i32 a) := by rw [Nat.mul_comm i 3]; exact (hR.cell (by omega)).trans (congrArg some h0)
  have c1 : w.cell? ⟨LK, i * 3 + 1, none⟩ = some (.int .i32 b) := by rw [Nat.mul_comm i 3]; exact (hR.cell (by omega)).trans (congrArg some h1)
  have c2 : w.cell? ⟨LK, i * 3 + 2, none⟩ = some (.int .i32 d) := by rw [Nat.mul_comm i 3]; exact (hR.cell (by omega)).trans (congrArg some h2)
  have hl' : ((l : Nat) : Int) < 5 := by omega
  have hi' : ((i : Nat) : Int) < (n : Int) := by omega
  go_enter Try.func34, Try.ntmps34
  go_wp2
  go_quiet (fail)
  go_wp2
  refine bodyPost_ret (v := .tuple #[.int .i32 a, .int .i32 b, .int .i32 d]) (by simp [results, Try.results34, go_sem]) rfl ?_
  exact ⟨rfl, _, rfl⟩
theorem acc41 {w : World} {FF : Nat} {C : Nat → Value} (hF : Row w FF 88 40 C) (k n c RB : Nat) (g : Nat → Value) (hc : C 1 = .slice (some ⟨RB, 0, none⟩) n c) (hR : Row w RB 104 (4 * n) g) (hk : k < n) (lv a b d : Int)
    (h0 : g (4 * k) = .int .i8 lv) (h1 : g (4 * k + 1) = .int .i32 a) (h2 : g (4 * k + 2) = .int .i32 b) (h3 : g (4 * k + 3) = .int .i32 d) :
    Calls Try.prog 41 #[.pointer (some ⟨FF, 0, none⟩), .int .i64 k] w (fun e w' => e = .returned (.tuple #[.int .i8 lv, .int .i32 a, .int .i32 b, .int .i32 d]) ∧ ∃ m, w' = w.drewN m) := by
  have cf : w.cell? ⟨FF, 1, none⟩ = some (.slice (some ⟨RB, 0, none⟩) n c) := (hF.cell (i := 1) (by omega)).trans (congrArg some hc)
  have c0 : w.cell? ⟨RB, k * 4, none⟩ = some (.int .i8 lv) := by rw [Nat.mul_comm k 4]; exact (hR.cell (by omega)).trans (congrArg some h0)
  have c1 : w.cell? ⟨RB, k * 4 + 1, none⟩ = some (.int .i32 a) := by rw [Nat.mul_comm k 4]; exact (hR.cell (by omega)).trans (congrArg some h1)
  have c2 : w.cell? ⟨RB, k * 4 + 2, none⟩ = some (.int .i32 b) := by rw [Nat.mul_comm k 4]; exact (hR.cell (by omega)).trans (congrArg some h2)
  have c3 : w.cell? ⟨RB, k * 4 + 3, none⟩ = some (.int .i32 d) := by rw [Nat.mul_comm k 4]; exact (hR.cell (by omega)).trans (congrArg some h3)
  have hk' : ((k : Nat) : Int) < (n : Int) := by omega
  go_enter Try.func41, Try.ntmps41
  go_wp2
  go_quiet (fail)
  go_wp2
  refine bodyPost_ret (v := .tuple #[.int .i8 lv, .int .i32 a, .int .i32 b, .int .i32 d]) (by simp [results, Try.results41, go_sem]) rfl ?_
  exact ⟨rfl, _, rfl⟩

/-- setFree, setUnfree. -/
theorem setFree_any (FB l n D WB c i : Nat) (XB : Nat → Nat) (S : Nat → Bool) (X : Nat → Nat → Nat) (fc : Nat → Value) (m : Nat) (w : World)
    (hl : l < 5) (hF : Row w FB 88 40 fc) (h0 : fc (7 + l * 3) = .slice (some ⟨WB, 0, none⟩) D c) (h2 : fc (7 + l * 3 + 2) = .int .i64 m) (hm : m ≤ 65536) (hD : D ≤ 65536) (hDp : IsDepth n D) (hn : n ≤ 65536)
    (hW : Words w n D WB XB X) (hOk : Ok (wlen n) D S X) (hi : i < n) (hSi : S i = false) :
    Calls Try.prog 46 #[.pointer (some ⟨FB, 0, none⟩), .int .i8 l, .int .i32 i] w (AddPost FB (7 + l * 3) n D WB XB (fun x => S x || decide (x = i)) fc (m + 1) w) := by
  have H := add_any FB (7 + l * 3) n D WB c i XB S X fc m w (by omega) hF h0 h2 hm hD hDp hn hW hOk hi hSi
  have hi9 : i ≤ 65536 := by omega
  go_enter Try.func46, Try.ntmps46
  go_wp2_with fail
  refine H.mono ?_
  rintro e w' ⟨rfl, hp⟩
  go_wp2
  go_end0
  exact ⟨rfl, hp⟩
theorem setUnfree_any (FB l n D WB c i : Nat) (XB : Nat → Nat) (S : Nat → Bool) (X : Nat → Nat → Nat) (fc : Nat → Value) (m : Nat) (w : World)
    (hl : l < 5) (hF : Row w FB 88 40 fc) (h0 : fc (7 + l * 3) = .slice (some ⟨WB, 0, none⟩) D c) (h2 : fc (7 + l * 3 + 2) = .int .i64 m) (hm : m ≤ 65536) (hD : D ≤ 65536) (hDp : IsDepth n D) (hn : n ≤ 65536)
    (hW : Words w n D WB XB X) (hOk : Ok (wlen n) D S X) (hi : i < n) (hSi : S i = true) :
    Calls Try.prog 43 #[.pointer (some ⟨FB, 0, none⟩), .int .i8 l, .int .i32 i] w (AddPost FB (7 + l * 3) n D WB XB (fun x => S x && !decide (x = i)) fc (m - 1) w) := by
  have H := remove_any FB (7 + l * 3) n D WB c i XB S X fc m w (by omega) hF h0 h2 hm hD hDp hn hW hOk hi hSi
  have hi9 : i ≤ 65536 := by omega
  go_enter Try.func43, Try.ntmps43
  go_wp2_with fail
  refine H.mono ?_
  rintro e w' ⟨rfl, hp⟩
  go_wp2
  go_end0
  exact ⟨rfl, hp⟩
theorem zzSetUnfree_any (FB l n D WB c i : Nat) (XB : Nat → Nat) (S : Nat → Bool) (X : Nat → Nat → Nat) (fc : Nat → Value) (m : Nat) (w : World)
    (hl : l < 5) (hF : Row w FB 88 40 fc) (h0 : fc (7 + l * 3) = .slice (some ⟨WB, 0, none⟩) D c) (h2 : fc (7 + l * 3 + 2) = .int .i64 m) (hm : m ≤ 65536) (hD : D ≤ 65536) (hDp : IsDepth n D) (hn : n ≤ 65536)
    (hW : Words w n D WB XB X) (hOk : Ok (wlen n) D S X) (hi : i < n) (hSi : S i = true) :
    Calls Try.prog 16 #[.pointer (some ⟨FB, 0, none⟩), .int .i8 l, .int .i32 i] w (AddPost FB (7 + l * 3) n D WB XB (fun x => S x && !decide (x = i)) fc (m - 1) w) := by
  have H := setUnfree_any FB l n D WB c i XB S X fc m w hl hF h0 h2 hm hD hDp hn hW hOk hi hSi
  go_enter Try.func16, Try.ntmps16
  go_wp2_with fail
  refine H.mono ?_
  rintro e w' ⟨rfl, hp⟩
  go_wp2
  go_end0
  exact ⟨rfl, hp⟩
end Go.Proofs.Qxb6609507a.U

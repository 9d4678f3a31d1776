import Derived.Test.Qxb6612537aBuild
namespace Go.Proofs.Qxb6612537a.U
open Go.RowKit Go.Proofs.Qxb6612537a.Plain
set_option linter.unusedVariables false
set_option linter.unusedSimpArgs false

theorem holdersLen_any (WB n : Nat) (a : Option Addr) (c : Nat) (w : World) (h : w.cell? ⟨WB, 1, none⟩ = some (.slice a n c)) :
    Calls Try.prog 27 #[.pointer (some ⟨WB, 0, none⟩)] w (fun e w' => e = .returned (.int .i64 (n : Nat)) ∧ w' = w) := by
  go_enter Try.func27, Try.ntmps27
  go_wp2
  go_ret
  exact ⟨rfl, rfl⟩
theorem aroundLen_any (WB n : Nat) (a : Option Addr) (c : Nat) (w : World) (h : w.cell? ⟨WB, 2, none⟩ = some (.slice a n c)) :
    Calls Try.prog 29 #[.pointer (some ⟨WB, 0, none⟩)] w (fun e w' => e = .returned (.int .i64 (n : Nat)) ∧ w' = w) := by
  go_enter Try.func29, Try.ntmps29
  go_wp2
  go_ret
  exact ⟨rfl, rfl⟩
theorem results_tmp5 {fn : Func} {t u v x y : Tmp} (h : fn.results = #[.tmp t, .tmp u, .tmp v, .tmp x, .tmp y]) (tmps : Array Value) (P : Program) (w : World) :
    (results fn tmps).run P w = .ok (.tuple #[tmps.getD t undef, tmps.getD u undef, tmps.getD v undef, tmps.getD x undef, tmps.getD y undef]) w := by
  simp [results, h]
theorem holderAt_any (WB n b off c i : Nat) (tx rk : Int) (w : World) (h : w.cell? ⟨WB, 1, none⟩ = some (.slice (some ⟨b, off, none⟩) n c)) (hi : i < n)
    (h0 : w.cell? ⟨b, off + i * 2, none⟩ = some (.int .i64 tx)) (h1 : w.cell? ⟨b, off + i * 2 + 1, none⟩ = some (.int .i64 rk)) :
    Calls Try.prog 28 #[.pointer (some ⟨WB, 0, none⟩), .int .i64 (i : Nat)] w (fun e w' => e = .returned (.tuple #[.int .i64 tx, .int .i64 rk]) ∧ ∃ m, w' = w.drewN m) := by
  have hiI : ((i : Nat) : Int) < (n : Int) := by omega
  go_enter Try.func28, Try.ntmps28
  go_upto_region 1 with fail
  go_quiet (fail)
  go_wp2
  go_ret2
  exact ⟨rfl, _, rfl⟩
set_option maxHeartbeats 1000000 in
theorem aroundAt_any (WB n b off c i lb lo : Nat) (r : WRec) (w : World) (h : w.cell? ⟨WB, 2, none⟩ = some (.slice (some ⟨b, off, none⟩) n c)) (hi : i < n)
    (hp : w.cell? ⟨b, off + i, none⟩ = some (.pointer (some ⟨lb, lo, none⟩)))
    (h0 : w.cell? ⟨lb, lo, none⟩ = some (.string r.nm)) (h1 : w.cell? ⟨lb, lo + 1, none⟩ = some (.int .i64 r.tx)) (h2 : w.cell? ⟨lb, lo + 2, none⟩ = some (.int .i64 r.od)) (h3 : w.cell? ⟨lb, lo + 3, none⟩ = some (.int .i64 r.rk)) (h4 : w.cell? ⟨lb, lo + 3 + 1, none⟩ = some (.bool r.up)) :
    Calls Try.prog 30 #[.pointer (some ⟨WB, 0, none⟩), .int .i64 (i : Nat)] w (fun e w' => e = .returned (.tuple #[.string r.nm, .int .i64 r.tx, .int .i64 r.od, .int .i64 r.rk, .bool r.up]) ∧ ∃ m, w' = w.drewN m) := by
  have hiI : ((i : Nat) : Int) < (n : Int) := by omega
  go_enter Try.func30, Try.ntmps30
  go_wp2_with fail
  go_quiet (fail)
  go_wp2
  (try simp only [Exit.inBlock, Exit.then]); refine bodyPost_ret (results_tmp5 rfl _ _ _) rfl ?_
  exact ⟨rfl, _, rfl⟩
def four (a b c d : Value) (q : Nat) : Value := if q = 0 then a else if q = 1 then b else if q = 2 then c else d
theorem newWaits_any (w : World) : Calls Try.prog 11 #[] w (fun e w' => e = .returned (.pointer (some ⟨w.heap.size, 0, none⟩)) ∧ Row w' w.heap.size 60 4 (four (.map none) (.slice none 0 0) (.slice none 0 0) (.slice none 0 0)) ∧ Below w.heap.size w w') := by
  go_enter Try.func11, Try.ntmps11
  go_wp2
  go_ret
  refine ⟨rfl, Row.new w _ 60 _ ?_, (Below.refl _ _).alloc (Nat.le_refl _) _⟩
  intro i hi
  have : i = 0 ∨ i = 1 ∨ i = 2 ∨ i = 3 := by simp at hi; omega
  rcases this with rfl | rfl | rfl | rfl <;> rfl
end Go.Proofs.Qxb6612537a.U

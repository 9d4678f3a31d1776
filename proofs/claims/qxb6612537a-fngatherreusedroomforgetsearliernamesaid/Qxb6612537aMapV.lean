import Derived.Test.Qxb6612537aOn
import Derived.Maps.OwnSet
import Derived.Maps.Views
/-! THE MAP strongest, seen as a function. -/
namespace Go.Proofs.Qxb6612537a.U
open Go.RowKit Go.Proofs.Qxb6612537a.Plain
set_option linter.unusedVariables false

theorem keyed2 : Go.Maps.Keyed Try.prog 2 := Go.Maps.int_keyed Try.underlying2
/-- Block b is a map of at most n entries that holds just what m says. -/
def MapIs (w : World) (b n : Nat) (m : Int → Option Int) : Prop :=
  ∃ D : DataW Unit, w.ownsMap Try.prog 2 (plainElem (H := Unit) Try.prog 3) b n D ∧ ∀ tx, (Lit.int .i64 tx).wf = true → Go.Maps.has D (.int .i64 tx) = (m tx).isSome ∧ ∀ r, m tx = some r → D.atKey (.int .i64 tx) (.lit (.int .i64 0)) = .lit (.int .i64 r)
theorem wf0 : (Lit.int .i64 0).wf = true := by decide
theorem MapIs.look {w : World} {b n : Nat} {m : Int → Option Int} (h : MapIs w b n m) {tx : Int} (ht : (Lit.int .i64 tx).wf = true) :
    ∃ c : Int, (∀ r, m tx = some r → c = r) ∧ ∀ w', w'.heap[b]? = w.heap[b]? → (Instr.lookup 55 (.map (some b)) (.int .i64 tx) true).run Try.prog w' = .ok (.tuple #[.int .i64 c, .bool (m tx).isSome]) w' := by
  obtain ⟨D, ho, hD⟩ := h
  obtain ⟨h1, h2⟩ := hD tx ht
  have key : ∀ w', w'.heap[b]? = w.heap[b]? → ∃ c : Int, (Instr.lookup 55 (.map (some b)) (.int .i64 tx) true).run Try.prog w' = .ok (.tuple #[.int .i64 c, .bool (m tx).isSome]) w' ∧ D.atKey (.int .i64 tx) (.lit (.int .i64 0)) = .lit (.int .i64 c) := by
    intro w' e
    obtain ⟨es, clock, hb, hF, hs, hd⟩ := ho
    have ho' : w'.ownsMap Try.prog 2 (plainElem (H := Unit) Try.prog 3) b n D := ⟨es, clock, e.trans hb, hF, hs, hd⟩
    obtain ⟨v, ps, hrun, hv⟩ := ho'.look_ok keyed2 Try.underlying55 (Try.zeroValue3 w') (plainElem_int Try.underlying3 wf0) (Go.Maps.keyOf_int_mk Try.underlying2 ht)
    obtain ⟨c, rfl, hc, hw⟩ := plainElem_int_inv Try.underlying3 hv
    rw [h1] at hrun
    exact ⟨c, hrun, congrArg Prod.fst hc⟩
  obtain ⟨c, hrun, hc⟩ := key w rfl
  refine ⟨c, fun r hr => ?_, fun w' e => ?_⟩
  · rw [h2 r hr] at hc
    simpa using hc.symm
  · obtain ⟨c', hrun', hc'⟩ := key w' e
    rw [hc] at hc'
    have : c = c' := by simpa using hc'
    rw [this]; exact hrun'
theorem MapIs.store {w : World} {b n : Nat} {m : Int → Option Int} (h : MapIs w b n m) (hn : n < maxLen) {tx r : Int} (ht : (Lit.int .i64 tx).wf = true) (hr : (Lit.int .i64 r).wf = true) :
    ∃ w', (Instr.mapUpdate 55 (.map (some b)) (.int .i64 tx) (.int .i64 r)).run Try.prog w = .ok () w' ∧ MapIs w' b (n + 1) (fun t => if t = tx then some r else m t) ∧ w.mapTurned w' b := by
  obtain ⟨D, ho, hD⟩ := h
  have hI := ho.isMap
  obtain ⟨w', hrun, ho', hm⟩ := ho.store keyed2 Try.underlying55 hn (Go.Maps.keyOf_int_mk Try.underlying2 ht) (plainElem_int Try.underlying3 hr)
  refine ⟨w', hrun, ⟨_, ho', fun t hwt => ?_⟩, hm⟩
  dsimp only
  have hkey : WideAt.IsKeyLit (Lit.int .i64 tx) := by trivial
  by_cases e : t = tx
  · subst e
    rw [Go.Maps.has_put_same hI hkey, if_pos rfl]
    refine ⟨rfl, fun r' hr' => ?_⟩
    rw [Go.Maps.atKey_put_same hI hkey, Option.some.inj hr']
  · have hne : (Lit.int .i64 t) ≠ .int .i64 tx := fun h => e (by injection h)
    rw [Go.Maps.has_put_other hne, Go.Maps.atKey_put_other hne, if_neg e]
    exact hD t hwt
theorem MapIs.made (w : World) : MapIs (w.alloc (.map #[] 0)) w.heap.size 0 (fun _ => none) :=
  ⟨_, World.ownsMap_made w Try.prog 2 (plainElem (H := Unit) Try.prog 3), fun tx _ => ⟨by simp [Go.Maps.has], fun r h => by cases h⟩⟩
theorem MapIs.of_block {w w' : World} {b n : Nat} {m : Int → Option Int} (h : MapIs w b n m) (e : w'.heap[b]? = w.heap[b]?) : MapIs w' b n m := by
  obtain ⟨D, ⟨es, clock, hb, hF, hs, hd⟩, hD⟩ := h
  exact ⟨D, ⟨es, clock, e.trans hb, hF, hs, hd⟩, hD⟩
theorem MapIs.lt {w : World} {b n : Nat} {m : Int → Option Int} (h : MapIs w b n m) : b < w.heap.size := by
  obtain ⟨D, ho, _⟩ := h
  exact ho.lt
theorem MapIs.row_ne {w : World} {b n b' k : Nat} {t : TypeId} {f : Nat → Value} {m : Int → Option Int} (h : MapIs w b n m) (hr : Row w b' t k f) : b' ≠ b := by
  rintro rfl
  obtain ⟨D, ⟨es, clock, hb, _⟩, _⟩ := h
  obtain ⟨c, hc, _⟩ := hr
  rw [hb] at hc; cases hc
theorem MapIs.keeps {S : Nat → Prop} {w w' : World} {b n : Nat} {m : Int → Option Int} (h : MapIs w b n m) (k : Keeps S w w') (hs : ¬ S b) : MapIs w' b n m := h.of_block (k.block b h.lt hs)
theorem keeps_turned {w w' : World} {b : Nat} (h : w.mapTurned w' b) : Keeps (fun k => k = b) w w' := by
  have hg := h.grown
  exact ⟨hg.os, hg.tape, hg.output, hg.size, fun k hk hs => hg.block k hk (fun e => hs (by injection e))⟩
end Go.Proofs.Qxb6612537a.U

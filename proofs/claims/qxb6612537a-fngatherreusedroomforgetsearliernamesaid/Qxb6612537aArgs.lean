import Derived.Test.Qxb6612537aIn
import Derived.Deep.Slices
import Derived.ChangeSame
import Derived.ChangeArms
import Derived.OpenShut
/-! THE ARGUMENTS OPENED: rows of records. -/
namespace Go.Proofs.Qxb6612537a.U
open Go.RowKit Go.Proofs.Qxb6612537a.Plain
set_option linter.unusedVariables false
def hrec0 : HRec := ⟨⟨#[]⟩, ⟨#[]⟩, 0⟩
def wrec0 : WRec := ⟨⟨#[]⟩, 0, 0, 0, false⟩
theorem list3 {α : Type} : ∀ {l : List α}, l.length = 3 → ∃ a b c, l = [a, b, c]
  | [a, b, c], _ => ⟨a, b, c, rfl⟩
theorem list5 {α : Type} : ∀ {l : List α}, l.length = 5 → ∃ a b c d e, l = [a, b, c, d, e]
  | [a, b, c, d, e], _ => ⟨a, b, c, d, e, rfl⟩
theorem cells47 : Try.prog.cellsOf 47 = 3 := by kernel_rfl
theorem cells49 : Try.prog.cellsOf 49 = 5 := by kernel_rfl
theorem cells9 : Try.prog.cellsOf 9 = 1 := by kernel_rfl
theorem cells2 : Try.prog.cellsOf 2 = 1 := by kernel_rfl
theorem cells3 : Try.prog.cellsOf 3 = 1 := by kernel_rfl
theorem cells4 : Try.prog.cellsOf 4 = 1 := by kernel_rfl
section
variable {H : Type} {enc : TypeId × Value → H} {w : World} {base : Nat} {spare : Nat → Bool} {held : Bool}
theorem open_hrec {fuel : Nat} {cs : List Value} {x : DataW H × List MemPlace} (h : DataW.trod enc Try.prog w base spare held fuel 47 cs = some x) : ∃ r : HRec, cs = hc r ∧ (Lit.int .i64 r.tx).wf = true := by
  obtain ⟨xs, n, _, rfl, hl, hlen, hf⟩ := DataW.trod_struct Try.underlying47 h
  rw [cells47] at hl
  obtain ⟨c0, c1, c2, rfl⟩ := list3 hl
  obtain ⟨y0, y1, y2, rfl⟩ := list3 hlen
  (have f0 : DataW.trod enc Try.prog w base spare held n 9 (([c0, c1, c2].drop 0).take (Try.prog.cellsOf 9)) = some y0 := hf 0 _ rfl
   have f1 : DataW.trod enc Try.prog w base spare held n 9 (([c0, c1, c2].drop 1).take (Try.prog.cellsOf 9)) = some y1 := hf 1 _ rfl
   have f2 : DataW.trod enc Try.prog w base spare held n 2 (([c0, c1, c2].drop 2).take (Try.prog.cellsOf 2)) = some y2 := hf 2 _ rfl
   rw [cells9] at f0 f1
   rw [cells2] at f2
   obtain ⟨s0, e0, _⟩ := DataW.trod_string Try.underlying9 f0
   obtain ⟨s1, e1, _⟩ := DataW.trod_string Try.underlying9 f1
   obtain ⟨n2, e2, _, hw⟩ := DataW.trod_int Try.underlying2 f2
   simp at e0 e1 e2
   exact ⟨⟨s0, s1, n2⟩, by rw [e0, e1, e2]; rfl, hw⟩)
theorem open_wrec {fuel : Nat} {cs : List Value} {x : DataW H × List MemPlace} (h : DataW.trod enc Try.prog w base spare held fuel 49 cs = some x) : ∃ r : WRec, cs = wc r := by
  obtain ⟨xs, n, _, rfl, hl, hlen, hf⟩ := DataW.trod_struct Try.underlying49 h
  rw [cells49] at hl
  obtain ⟨c0, c1, c2, c3, c4, rfl⟩ := list5 hl
  obtain ⟨y0, y1, y2, y3, y4, rfl⟩ := list5 hlen
  (have f0 : DataW.trod enc Try.prog w base spare held n 9 (([c0, c1, c2, c3, c4].drop 0).take (Try.prog.cellsOf 9)) = some y0 := hf 0 _ rfl
   have f1 : DataW.trod enc Try.prog w base spare held n 2 (([c0, c1, c2, c3, c4].drop 1).take (Try.prog.cellsOf 2)) = some y1 := hf 1 _ rfl
   have f2 : DataW.trod enc Try.prog w base spare held n 2 (([c0, c1, c2, c3, c4].drop 2).take (Try.prog.cellsOf 2)) = some y2 := hf 2 _ rfl
   have f3 : DataW.trod enc Try.prog w base spare held n 3 (([c0, c1, c2, c3, c4].drop 3).take (Try.prog.cellsOf 3)) = some y3 := hf 3 _ rfl
   have f4 : DataW.trod enc Try.prog w base spare held n 4 (([c0, c1, c2, c3, c4].drop 4).take (Try.prog.cellsOf 4)) = some y4 := hf 4 _ rfl
   rw [cells9] at f0
   rw [cells2] at f1 f2
   rw [cells3] at f3
   rw [cells4] at f4
   obtain ⟨s0, e0, _⟩ := DataW.trod_string Try.underlying9 f0
   obtain ⟨n1, e1, _, _⟩ := DataW.trod_int Try.underlying2 f1
   obtain ⟨n2, e2, _, _⟩ := DataW.trod_int Try.underlying2 f2
   obtain ⟨n3, e3, _, _⟩ := DataW.trod_int Try.underlying3 f3
   obtain ⟨b4, e4, _⟩ := DataW.trod_bool Try.underlying4 f4
   simp at e0 e1 e2 e3 e4
   exact ⟨⟨s0, n1, n2, n3, b4⟩, by rw [e0, e1, e2, e3, e4]; rfl⟩)
/-- Cells one by one. -/
theorem in_of_cells {ad : Addr} {l size : Nat} {f : Nat → List Value} (hs : 0 < size) (hlen : ∀ i, (f i).length = size) (h : ∀ i, i < l → w.cells? base (ad.add (i * size)) size = some (f i)) : In w (some ad) size l f := by
  intro h0
  obtain ⟨b, off, spot⟩ := ad
  have each : ∀ i, i < l → ∀ j, j < size → w.cell? ((Addr.mk b off spot).add (i * size + j)) = some ((f i).getD j undef) := fun i hi j hj => by
    obtain ⟨_, hl, hc⟩ := World.cells?_some (h i hi)
    have := hc j hj
    rw [Go.Deep.add_add] at this
    rw [this, List.getD_eq_getElem?_getD, List.getElem?_eq_getElem (by rw [hlen]; exact hj)]; rfl
  have hspot : spot = none := by
    have h1 := each 0 h0 0 hs
    simpa [Addr.add] using World.cell?_spot h1
  subst hspot
  have each' : ∀ i, i < l → ∀ j, j < size → w.cell? ⟨b, off + i * size + j, none⟩ = some ((f i).getD j undef) := fun i hi j hj => by
    have := each i hi j hj
    rw [Go.WideShapes.add_plain] at this
    rwa [← Nat.add_assoc] at this
  refine ⟨b, off, rfl, ?_, each'⟩
  have h1 := each' 0 h0 0 hs
  refine Classical.byContradiction fun hlt => ?_
  have hn : w.heap[b]? = none := Array.getElem?_eq_none (by omega)
  simp [World.cell?, hn] at h1
theorem open_hrecs {fuel : Nat} {a : Option Addr} {l c : Nat} {x : DataW H × List MemPlace} (h : DataW.trod enc Try.prog w base spare held fuel 22 [.slice a l c] = some x) : ∃ R : Nat → HRec, (In w a 3 l fun i => hc (R i)) ∧ ∀ i, i < l → (Lit.int .i64 (R i).tx).wf = true := by
  rcases Go.Deep.open_slice Try.underlying22 h with ⟨e, _⟩ | ⟨ad, len, cap, m, n, D, Pl, e, hb, hl, hm, hmm, _, hx⟩
  · simp at e
    obtain ⟨rfl, rfl, rfl⟩ := e
    exact ⟨fun _ => hrec0, fun h0 => absurd h0 (Nat.lt_irrefl _), fun i hi => absurd hi (Nat.not_lt_zero _)⟩
  · simp at e
    obtain ⟨rfl, rfl, rfl⟩ := e
    have hlm : l ≤ m := by rw [hmm]; split <;> omega
    rw [cells47] at hx
    obtain ⟨R, hR⟩ := @Go.Deep.choose_lt HRec ⟨hrec0⟩ l (fun i (r : HRec) => w.cells? base (ad.add (i * 3)) 3 = some (hc r) ∧ (Lit.int .i64 r.tx).wf = true) (fun i hi => by
      obtain ⟨cs', h1, h2⟩ := hx i (by omega)
      obtain ⟨r, rfl, hw⟩ := open_hrec h2
      exact ⟨r, h1, hw⟩)
    exact ⟨R, in_of_cells (by omega) (fun _ => rfl) (fun i hi => (hR i hi).1), fun i hi => (hR i hi).2⟩
theorem open_wrecs {fuel : Nat} {a : Option Addr} {l c : Nat} {x : DataW H × List MemPlace} (h : DataW.trod enc Try.prog w base spare held fuel 23 [.slice a l c] = some x) : ∃ W : Nat → WRec, In w a 5 l fun i => wc (W i) := by
  rcases Go.Deep.open_slice Try.underlying23 h with ⟨e, _⟩ | ⟨ad, len, cap, m, n, D, Pl, e, hb, hl, hm, hmm, _, hx⟩
  · simp at e
    obtain ⟨rfl, rfl, rfl⟩ := e
    exact ⟨fun _ => wrec0, fun h0 => absurd h0 (Nat.lt_irrefl _)⟩
  · simp at e
    obtain ⟨rfl, rfl, rfl⟩ := e
    have hlm : l ≤ m := by rw [hmm]; split <;> omega
    rw [cells49] at hx
    obtain ⟨R, hR⟩ := @Go.Deep.choose_lt WRec ⟨wrec0⟩ l (fun i (r : WRec) => w.cells? base (ad.add (i * 5)) 5 = some (wc r)) (fun i hi => by
      obtain ⟨cs', h1, h2⟩ := hx i (by omega)
      obtain ⟨r, rfl⟩ := open_wrec h2
      exact ⟨r, h1⟩)
    exact ⟨R, in_of_cells (by omega) (fun _ => rfl) (fun i hi => hR i hi)⟩
theorem slice_len {fuel : Nat} {t e : TypeId} {a : Option Addr} {l c : Nat} {x : DataW H × List MemPlace} (ht : Try.prog.underlying t = some (.slice e)) (h : DataW.trod enc Try.prog w base spare held fuel t [.slice a l c] = some x) : l ≤ 9223372036854775807 := by
  rcases Go.Deep.open_slice ht h with ⟨e, _⟩ | ⟨ad, len, cap, m, n, D, Pl, e, hb, hl, hm, hmm, _, hx⟩
  · simp at e; omega
  · simp at e
    obtain ⟨rfl, rfl, rfl⟩ := e
    unfold maxLen at hm; omega
end
end Go.Proofs.Qxb6612537a.U

import Derived.Test.Qxb6612537aGLin
/-! THE RANGE OVER THE LINEAGE, for whatever body keeps J. -/
namespace Go.Proofs.Qxb6612537a.U
open Go.RowKit Go.Proofs.Qxb6612537a.Plain
set_option linter.unusedVariables false

theorem loop_alien {w : World} {b : Nat} {r : Loop} (h : w.heap[b]? = some (.loop r)) : ∀ o, w.heap[b]? = some o → Alien o := fun o ho => by
  rw [h] at ho
  injection ho with ho
  rw [← ho]; trivial
theorem row9_alien {w : World} {b : Nat} {f : Nat → Value} (h : Row w b 9 1 f) : ∀ o, w.heap[b]? = some o → Alien o := fun o ho => by
  obtain ⟨c, hc, _⟩ := h
  rw [hc] at ho
  injection ho with ho
  rw [← ho]; rfl
theorem row_ne_loop {w : World} {b b' : Nat} {r : Loop} {t : TypeId} {n : Nat} {f : Nat → Value} (h : Row w b t n f) (h' : w.heap[b']? = some (.loop r)) : b ≠ b' := by
  rintro rfl
  obtain ⟨c, hc, _⟩ := h
  rw [hc] at h'; cases h'
theorem row_ne_def {w : World} {b b' : Nat} {d : Option (List Deferred)} {t : TypeId} {n : Nat} {f : Nat → Value} (h : Row w b t n f) (h' : w.heap[b']? = some (.deferred d)) : b ≠ b' := by
  rintro rfl
  obtain ⟨c, hc, _⟩ := h
  rw [hc] at h'; cases h'
theorem range_lineage {n base : Nat} {g : Operand} {ps : Array Tmp} {assign body : Code} {Q : Exit → Act → World → Prop} {a : Act} {w : World} {B N : Nat} {nm : Nat → ByteArray} (J : Nat → World → Prop)
    (hg : a.eval g = .func (.func 53) #[] #[.pointer (some ⟨B, 0, none⟩)]) (hps : ps.size = 1) (hn : LinSeq nm N) (hsz : ∀ k, k < N → (nm k).size ≤ 1048576)
    (hJ : ∀ k W W' b, J k W → Keeps (fun x => x = b) W W' → base ≤ b → (∀ o, W.heap[b]? = some o → Alien o) → J k W')
    (hal : ∀ W', Keeps (fun _ => False) w W' → J 0 w → J 0 W')
    (hround : ∀ k W, k < N → J k W → assign.wpIn (Fence.wide.inRound (w.heap.size + 1)) (n - 1 - 1) Try.prog (Exit.then (fun a₁ w₁ => w₁ = W ∧ ∀ W1, J k W1 → body.wpIn (Fence.wide.inRound (w.heap.size + 1)) (n - 1 - 1) Try.prog (fun ex _ W3 => ex = .normal ∧ J (k + 1) W3 ∧ FK base W1 W3) a₁ W1) (fun _ _ _ => False))
      { tmps := (ps.zip #[.string (nm k)]).foldl (fun t (p, v) => t.setIfInBounds p v) a.tmps, defers := [] } W)
    (hb : base ≤ w.heap.size) (h0 : J 0 w) (hB : Row w B 9 1 (fun _ => .string (nm 0))) (hBb : base ≤ B)
    (hend : ∀ W, J N W → W.heap[w.heap.size]? = some (.deferred (some [])) → Q .normal { a with defers := { target := .collected w.heap.size, args := #[] } :: a.defers } W) :
    (Code.rangeFunc g ps assign body).wpIn Fence.wide n Try.prog Q a w := by
  refine range_enter hg (enters_of Try.func53 (by kernel_rfl) rfl) ?_
  intro fn
  have hk2 : Keeps (fun _ => False) w ((w.alloc (.deferred (some []))).alloc (.loop (recOf fn a ps assign body w.heap.size .ready))) := ((Keeps.refl _ w).alloc _).alloc _
  have hl0 : ((w.alloc (.deferred (some []))).alloc (.loop (recOf fn a ps assign body w.heap.size .ready))).heap[w.heap.size + 1]? = some (.loop (recOf fn a ps assign body w.heap.size .ready)) := by
    have := heap_alloc_new (w.alloc (.deferred (some []))) (.loop (recOf fn a ps assign body w.heap.size .ready))
    rwa [Go.Deep.nblk_alloc] at this
  have hd0 : ((w.alloc (.deferred (some []))).alloc (.loop (recOf fn a ps assign body w.heap.size .ready))).heap[w.heap.size]? = some (.deferred (some [])) :=
    (Go.Deep.blk_alloc_lt _ _ _ (by simp)).trans (heap_alloc_new w _)
  have hB0 := hB.keeps hk2 (fun h => h)
  have H := lin53_any B (w.heap.size + 1) (n - 1) N nm (fun k W => J k W ∧ W.heap[w.heap.size + 1]? = some (.loop (recOf fn a ps assign body w.heap.size .ready)) ∧ W.heap[w.heap.size]? = some (.deferred (some [])) ∧ ∃ v, Row W B 9 1 (fun _ => v))
    ((w.alloc (.deferred (some []))).alloc (.loop (recOf fn a ps assign body w.heap.size .ready))) hn hsz ?_ ?_ ⟨hal _ hk2 h0, hl0, hd0, _, hB0⟩ (hB0.cell (i := 0) (by omega)) (hB0.frozen 0)
  · refine CallsIn.mono H ?_
    rintro e W ⟨⟨v, rfl⟩, hj, hl, hd, v', hr⟩
    have kp := keeps_obj W (w.heap.size + 1) (.loop (recOf fn a ps assign body w.heap.size .exhausted))
    exact ⟨v, rfl, hl, hend _ (hJ _ _ _ _ hj kp (by omega) (loop_alien hl)) ((kp.block _ (Array.getElem?_eq_some_iff.1 hd).1 (by omega)).trans hd)⟩
  · rintro k W v ⟨hj, hl, hd, v', hr⟩
    have kp : Keeps (fun x => x = B) W (W.setCell ⟨B, 0, none⟩ v) := (Keeps.refl (fun x => x = B) W).setCell (a := ⟨B, 0, none⟩) (.inl rfl) v
    refine ⟨hJ _ _ _ _ hj kp hBb (row9_alien hr), (kp.block _ (Array.getElem?_eq_some_iff.1 hl).1 fun e => row_ne_loop hr hl e.symm).trans hl, (kp.block _ (Array.getElem?_eq_some_iff.1 hd).1 fun e => row_ne_def hr hd e.symm).trans hd, v, (hr.set 0 v).congr fun i hi => ?_⟩
    have : i = 0 := by omega
    subst this; rfl
  · rintro k hk W ⟨hj, hl, hd, v', hr⟩ hc hf
    have hv : v' = .string (nm k) := by
      have := hr.cell (i := 0) (by omega)
      rw [hc] at this
      exact (Option.some.inj this).symm
    subst hv
    refine range_round hl (by simp [hps]) (wpIn_mono (hround k W hk hj) ?_)
    intro e a1 w1 hp
    cases e with
    | normal =>
      obtain ⟨rfl, hbody⟩ := hp
      have kp := keeps_obj w1 (w.heap.size + 1) (.loop (recOf fn a ps assign body w.heap.size .busy))
      have hlt := (Array.getElem?_eq_some_iff.1 hl).1
      have hl1 : (w1.putObj (w.heap.size + 1) (.loop (recOf fn a ps assign body w.heap.size .busy))).heap[w.heap.size + 1]? = some (.loop (recOf fn a ps assign body w.heap.size .busy)) := World.putObj_heap_same hlt
      have hd1 := (kp.block _ (Array.getElem?_eq_some_iff.1 hd).1 (by omega)).trans hd
      have hr1 := hr.keeps kp (row_ne_loop hr hl)
      refine ⟨hl, wpIn_mono (hbody _ (hJ _ _ _ _ hj kp (by omega) (loop_alien hl))) ?_⟩
      rintro ex a3 W3 ⟨rfl, hj3, fk⟩
      have hl3 := fk.fx _ _ hl1 trivial
      have hd3 := fk.fx _ _ hd1 trivial
      have hr3 := hr1.fk fk (by decide)
      have kp3 := keeps_obj W3 (w.heap.size + 1) (.loop (recOf fn a ps assign body w.heap.size .ready))
      have hr4 := hr3.keeps kp3 (row_ne_loop hr3 hl3)
      exact ⟨rfl, hl3, rfl, ⟨hJ _ _ _ _ hj3 kp3 (by omega) (loop_alien hl3), World.putObj_heap_same (Array.getElem?_eq_some_iff.1 hl3).1, (kp3.block _ (Array.getElem?_eq_some_iff.1 hd3).1 (by omega)).trans hd3, _, hr4⟩, hr4.cell (i := 0) (by omega), hr4.frozen 0⟩
    | ret => exact hp.elim
    | exit id => exact hp.elim
    | goto t => exact hp.elim
    | panic c => exact hp.elim
    | outgrown => exact hp.elim
end Go.Proofs.Qxb6612537a.U

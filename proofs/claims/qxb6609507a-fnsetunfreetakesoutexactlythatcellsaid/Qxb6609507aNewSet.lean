import Derived.Test.Qxb6609507aSetOps
import Derived.Deep.RegionHeld3
import Derived.Deep.RegionLaw
import Derived.BigRegion
import Derived.Deep.DrawnRows
namespace Go.Proofs.Qxb6609507a.U
open Go.RowKit Go.Proofs.Qxb6609507a.Plain
set_option linter.unusedVariables false

theorem info54 : (Try.prog.info? 54).map (fun i => (i.zero, i.size, i.bytes)) = some (some (.slice none 0 0), 1, 24) := by kernel_rfl
theorem info55 : (Try.prog.info? 55).map (fun i => (i.zero, i.size, i.bytes)) = some (some (.int .u64 0), 1, 8) := by kernel_rfl

def NewSetPost (n : Nat) (w : World) (e : Ending) (w' : World) : Prop :=
  ∃ (D WB c : Nat) (XB : Nat → Nat), e = .returned (.agg #[.slice (some ⟨WB, 0, none⟩) D c, .slice (some ⟨XB 0, 0, none⟩) (wlen n 0) (wlen n 0), .int .i64 0]) ∧ Below w.heap.size w w' ∧
    Words w' n D WB XB (fun _ _ => 0) ∧ IsDepth n D ∧ D ≤ 65536 ∧ w.heap.size ≤ WB ∧ ∀ k, k < D → w.heap.size ≤ XB k

theorem blk2 (w : World) (o1 o2 : Obj) : ((w.alloc o1).alloc o2).heap[w.heap.size + 1]? = some o2 := by
  have h := heap_alloc_new (w.alloc o1) o2
  have e : (w.alloc o1).heap.size = w.heap.size + 1 := Go.Deep.nblk_alloc w o1
  rwa [e] at h

/-- The table's cells. -/
def tab (n : Nat) (XB : Nat → Nat) (k : Nat) : List Value := (List.range k).map fun k' => .slice (some ⟨XB k', 0, none⟩) (wlen n k') (wlen n k')

/-- What a round hands on. -/
structure SetRel (n B : Nat) (w : World) (k : Nat) (XB : Nat → Nat) (V : Value) (wr : World) : Prop where
  big : ∀ k', k' < k → 1 < wlen n k'
  svar : Row wr (B + 1) 79 3 (fun q => if q = 0 then V else if q = 1 then .slice none 0 0 else .int .i64 0)
  res : Row wr B 79 3 (fun q => if q < 2 then .slice none 0 0 else .int .i64 0)
  own : wr.ownsRow (B + 2) 54 1 V k (tab n XB k)
  rows : ∀ k', k' < k → Row wr (XB k') 55 (wlen n k') (fun _ => .int .u64 0) ∧ B + 2 ≤ XB k'
  inj : ∀ k' k'', k' < k → k'' < k → XB k' = XB k'' → k' = k''
  below : Below B w wr

def nextXB (XB : Nat → Nat) (k b : Nat) : Nat → Nat := fun k' => if k' = k then b else XB k'
theorem tab_next (n : Nat) (XB : Nat → Nat) (k b : Nat) : tab n XB k ++ [.slice (some ⟨b, 0, none⟩) (wlen n k) (wlen n k)] = tab n (nextXB XB k b) (k + 1) := by
  unfold tab
  rw [List.range_succ, List.map_append, List.map_cons, List.map_nil]
  congr 1
  · refine List.map_congr_left fun k' hk => ?_
    have : k' < k := List.mem_range.1 hk
    unfold nextXB
    rw [if_neg (by omega)]
  · unfold nextXB
    rw [if_pos rfl]

theorem tab_get (n : Nat) (XB : Nat → Nat) (m i : Nat) (hi : i < m) : (tab n XB m).getD i undef = .slice (some ⟨XB i, 0, none⟩) (wlen n i) (wlen n i) := by
  unfold tab
  rw [List.getD_eq_getElem?_getD, List.getElem?_map, List.getElem?_range hi]; rfl

theorem SetRel.step {n B : Nat} {w wr w1 : World} {k : Nat} {XB : Nat → Nat} {V : Value} {gg cap : Nat} {c2 : Array Value} (h : SetRel n B w k XB V wr) (hB : B + 1 < wr.heap.size)
    (hown : w1.ownsRow (B + 2) 54 1 (.slice (some ⟨gg, 0, none⟩) (k + 1) cap) (k + 1) (tab n XB k ++ [.slice (some ⟨wr.heap.size, 0, none⟩) (wlen n k) (wlen n k)]))
    (hg : ((wr.alloc (.cells (madeCells #[.int .u64 0] (wlen n k)) 55)).alloc (.cells c2 54)).drew.grownBy w1 V.ownBlock) (hat : V.ownBlock = some gg ∨ gg = wr.heap.size + 2) :
    let w2 := w1.setCell ⟨B + 1, 0, none⟩ (.slice (some ⟨gg, 0, none⟩) (k + 1) cap)
    Row w2 (B + 1) 79 3 (fun q => if q = 0 then .slice (some ⟨gg, 0, none⟩) (k + 1) cap else if q = 1 then .slice none 0 0 else .int .i64 0) ∧ Row w2 B 79 3 (fun q => if q < 2 then .slice none 0 0 else .int .i64 0) ∧
    w2.ownsRow (B + 2) 54 1 (.slice (some ⟨gg, 0, none⟩) (k + 1) cap) (k + 1) (tab n (nextXB XB k wr.heap.size) (k + 1)) ∧
    (∀ k', k' < k + 1 → Row w2 (nextXB XB k wr.heap.size k') 55 (wlen n k') (fun _ => .int .u64 0) ∧ B + 2 ≤ nextXB XB k wr.heap.size k') ∧
    (∀ k' k'', k' < k + 1 → k'' < k + 1 → nextXB XB k wr.heap.size k' = nextXB XB k wr.heap.size k'' → k' = k'') ∧ Below B w w2 := by
  intro w2
  have hVlt := h.own.lt
  have n1 : V.ownBlock ≠ some (B + 1) := fun e => by have := (hVlt _ e).1; omega
  have n0 : V.ownBlock ≠ some B := fun e => by have := (hVlt _ e).1; omega
  have nN : V.ownBlock ≠ some wr.heap.size := fun e => by have := (hVlt _ e).2; omega
  have s1 : Row w1 (B + 1) 79 3 _ := ((h.svar.alloc _).alloc _).drew.grown hg n1
  have s0 : Row w1 B 79 3 _ := ((h.res.alloc _).alloc _).drew.grown hg n0
  have sN : Row w1 wr.heap.size 55 (wlen n k) (fun _ => .int .u64 0) := by
    refine Row.grown (w := ((wr.alloc (.cells (madeCells #[.int .u64 0] (wlen n k)) 55)).alloc (.cells c2 54)).drew) ?_ hg nN
    exact Row.alloc ((Row.made wr #[.int .u64 0] (wlen n k) 55 (fun _ => .int .u64 0) (by decide) (fun j hj => by
      have : j = 0 := by simpa using hj
      subst this; rfl)).congr (fun _ _ => rfl)) _
  rw [tab_next] at hown
  refine ⟨?_, ?_, ?_, ?_, ?_, ?_⟩
  · refine (s1.set 0 _).congr fun q hq => ?_
    by_cases e : q = 0
    · rw [if_pos e, if_pos e]
    · rw [if_neg e, if_neg e, if_neg e]
  · exact s0.setOther (a := ⟨B + 1, 0, none⟩) (by show B ≠ B + 1; omega) _
  · exact ownsRow_setCell_below hown (a := ⟨B + 1, 0, none⟩) (by show B + 1 < B + 2; omega) _
  · intro k' hk'
    unfold nextXB
    by_cases e : k' = k
    · subst e
      rw [if_pos rfl]
      exact ⟨sN.setOther (a := ⟨B + 1, 0, none⟩) (by show wr.heap.size ≠ B + 1; omega) _, by omega⟩
    · rw [if_neg e]
      obtain ⟨hr, hb⟩ := h.rows k' (by omega)
      exact ⟨(((hr.alloc _).alloc _).drew.grown hg (own_ne h.own hr (by decide))).setOther (a := ⟨B + 1, 0, none⟩) (by show XB k' ≠ B + 1; omega) _, hb⟩
  · intro k' k'' h1 h2 e
    unfold nextXB at e
    by_cases e1 : k' = k <;> by_cases e2 : k'' = k
    · omega
    · rw [if_pos e1, if_neg e2] at e
      have := (h.rows k'' (by omega)).1.lt
      omega
    · rw [if_neg e1, if_pos e2] at e
      have := (h.rows k' (by omega)).1.lt
      omega
    · rw [if_neg e1, if_neg e2] at e
      exact h.inj k' k'' (by omega) (by omega) e
  · have b1 : Below B w ((wr.alloc (.cells (madeCells #[.int .u64 0] (wlen n k)) 55)).alloc (.cells c2 54)).drew := ((h.below.alloc (by omega) _).alloc (by rw [Go.Deep.nblk_alloc]; omega) _).drew
    have b2 : Below B w w1 := b1.grown hg (by show B ≤ ((wr.alloc _).alloc _).heap.size; rw [Go.Deep.nblk_alloc, Go.Deep.nblk_alloc]; omega) (fun q e => by have := (hVlt q e).1; omega)
    exact b2.setCell (by show B ≤ B + 1; omega) _

set_option maxRecDepth 100000 in
set_option maxHeartbeats 1000000 in
theorem newSet_any (n : Nat) (w : World) (hn : n ≤ 65536) : Calls Try.prog 52 #[.int .i64 n] w (NewSetPost n w) := by
  obtain ⟨i0, hi0, hz0, hz1, hz2⟩ := info_parts info54
  go_enter Try.func52, Try.ntmps52
  go_wp2
  go_loopg [0] n (fun gk s wr => ∃ (k nn : Nat) (XB : Nat → Nat) (V : Value), s = .int .i64 nn ∧ nn = gk ∧ nn ≤ 65536 ∧ k ≤ 65536 - nn ∧ ((k = 0 ∧ nn = n) ∨ (∃ k0, k = k0 + 1 ∧ nn = wlen n k0 ∧ 1 < nn)) ∧ SetRel n w.heap.size w k XB V wr)
  case atStart =>
    refine ⟨0, n, fun _ => 0, .slice none 0 0, rfl, rfl, hn, Nat.zero_le _, .inl ⟨rfl, rfl⟩, ⟨fun k' h => by omega, ?_, ?_, World.ownsRow_nil _ _ _ _, fun k' h => by omega, fun k' k'' h => by omega, ?_⟩⟩
    · refine Row.new2 w _ #[.slice none 0 0, .slice none 0 0, .int .i64 0] 79 _ fun i hi => ?_
      match i, hi with
      | 0, _ => rfl
      | 1, _ => rfl
      | 2, _ => rfl
    · refine (Row.new w #[.slice none 0 0, .slice none 0 0, .int .i64 0] 79 _ fun i hi => ?_).alloc _
      match i, hi with
      | 0, _ => rfl
      | 1, _ => rfl
      | 2, _ => rfl
    · exact ((Below.refl _ _).alloc (Nat.le_refl _) _).alloc (by simp) _
  case round =>
    obtain ⟨k, nn, XB, V, rfl, rfl, hnn, hkn, hst, hrl⟩ := hrel
    obtain ⟨n1, hn1⟩ : ∃ n1, n1 = (nn + 63) / 64 := ⟨_, rfl⟩
    obtain ⟨nk, hnk⟩ : ∃ nk, nk = wlen n k := ⟨_, rfl⟩
    have hq : (((nn : Nat) : Int) + 63) / 64 = (n1 : Int) := by omega
    have hw : wlen n k = max n1 1 := by
      rcases hst with ⟨rfl, rfl⟩ | ⟨k0, rfl, rfl, _⟩
      · rw [hn1]; rfl
      · show (wlen n k0 + 63) / 64 = _
        omega
    have HW : Hid (wlen n k = max n1 1) := hw
    have HNK : Hid (nk = wlen n k) := hnk
    have HS : Hid ((k = 0 ∧ nn = n) ∨ (∃ k0, k = k0 + 1 ∧ nn = wlen n k0 ∧ 1 < nn)) := hst
    have HN1 : Hid (n1 = (nn + 63) / 64) := hn1
    have HR : Hid (SetRel n w.heap.size w k XB V wr) := hrl
    have hown := hrl.own
    have hR1 := hrl.svar
    have c0 : wr.cell? ⟨w.heap.size + 1, 0, none⟩ = some V := hR1.cell (by omega)
    have f1 := hR1.frozen
    have hVne : V.ownBlock ≠ some (w.heap.size + 1) := fun e => by have := (hown.lt _ e).1; omega
    have hb1 : w.heap.size + 1 < wr.heap.size := hR1.lt
    have hnk1 : nk ≤ 65536 := by omega
    have fz2 : ∀ o o', ((wr.alloc o).alloc o').drew.frozen? ⟨w.heap.size + 1, 0, none⟩ = false := fun o o' => ((hR1.alloc o).alloc o').frozen 0
    have cz2 : ∀ o o', ((wr.alloc o).alloc o').drew.cell? ⟨w.heap.size + 1, 0, none⟩ = some V := fun o o' => ((hR1.alloc o).alloc o').cell (by omega)
    have hmax : (if (n1 : Int) < 1 then (1 : Int) else (n1 : Int)) = (nk : Int) := by
      by_cases e : (n1 : Int) < 1
      · rw [if_pos e]; omega
      · rw [if_neg e]; omega
    have hmk := run_make_rows (P := Try.prog) 54 55 (.int .u64 0) 1 8 Try.underlying54 info55 .i64 .i64 nk (by omega) (by omega)
    simp only [Value.cells, Nat.mul_one] at hmk
    clear hst hn1 hw hnk hR1 hrl
    go_wp2
    go_region_law
      ((refine step_append_lies _ (by rfl) _ _ _ (by rfl) (w.heap.size + 2) 54 i0 _ 1 24 Try.underlying49 hi0 hz0 hz1 hz2 rfl (by omega) V k (tab n XB k) (by rfl) (((hown.alloc _).alloc _).drew) ⟨wr.heap.size + 1, 0, none⟩ 1 1 [.slice (some ⟨wr.heap.size, 0, none⟩) nk nk] (by rfl) (by rfl) (World.news_of_block (cs := #[.slice (some ⟨wr.heap.size, 0, none⟩) nk nk]) (t := 54) (fr := (0, 0)) (blk2 wr _ _)) (by simp [Value.oneCell']) (by omega) (by simp [maxLen]; omega) (by omega) (by simp; omega) (wr.heap.size + 2) (by simp) ?_; intro gg cap w1 hown1 hgrow hat hlt; have hc1 := (hgrow.cell_far ⟨w.heap.size + 1, 0, none⟩ (by simp; omega) (Ne.symm hVne)).trans (cz2 _ _); have hf1 := (hgrow.frozen_far ⟨w.heap.size + 1, 0, none⟩ (by simp; omega) (Ne.symm hVne)).trans (fz2 _ _)))
    all_goals
      have HNK2 := HNK.out
      subst HNK2
      have st := HR.out.step hb1 hown1 hgrow hat
      dsimp only at st
      clear hown1 hgrow hat hc1 hf1 hmk hmax fz2 cz2 hown c0 f1
      generalize hwe : w1.setCell ⟨w.heap.size + 1, 0, none⟩ (.slice (some ⟨gg, 0, none⟩) (k + 1) cap) = w2 at st ⊢
      clear hwe
      obtain ⟨t1, t2, t3, t4, t5, t6⟩ := st
      have T1 : Hid (Row w2 (w.heap.size + 1) 79 3 (fun q => if q = 0 then .slice (some ⟨gg, 0, none⟩) (k + 1) cap else if q = 1 then .slice none 0 0 else .int .i64 0)) := t1
      have T2 : Hid (Row w2 w.heap.size 79 3 (fun q => if q < 2 then .slice none 0 0 else .int .i64 0)) := t2
      have T3 : Hid (w2.ownsRow (w.heap.size + 2) 54 1 (.slice (some ⟨gg, 0, none⟩) (k + 1) cap) (k + 1) (tab n (nextXB XB k wr.heap.size) (k + 1))) := t3
      have T4 : Hid (∀ k', k' < k + 1 → Row w2 (nextXB XB k wr.heap.size k') 55 (wlen n k') (fun _ => .int .u64 0) ∧ w.heap.size + 2 ≤ nextXB XB k wr.heap.size k') := t4
      have T5 : Hid (∀ k' k'', k' < k + 1 → k'' < k + 1 → nextXB XB k wr.heap.size k' = nextXB XB k wr.heap.size k'' → k' = k'') := t5
      have T6 : Hid (Below w.heap.size w w2) := t6
      clear t4 t5 t6
      by_cases h1 : n1 ≤ 1
      · have d0 : w2.cell? ⟨w.heap.size + 1, 0, none⟩ = some (.slice (some ⟨gg, 0, none⟩) (k + 1) cap) := t1.cell (by omega)
        have d1 : w2.cell? ⟨w.heap.size + 1, 1, none⟩ = some (.slice none 0 0) := t1.cell (by omega)
        have d2 : w2.cell? ⟨w.heap.size + 1, 2, none⟩ = some (.int .i64 0) := t1.cell (by omega)
        have g1 := t1.frozen
        have r0 : w2.cell? ⟨w.heap.size, 0, none⟩ = some (.slice none 0 0) := t2.cell (by omega)
        have r1 : w2.cell? ⟨w.heap.size, 1, none⟩ = some (.slice none 0 0) := t2.cell (by omega)
        have r2 : w2.cell? ⟨w.heap.size, 2, none⟩ = some (.int .i64 0) := t2.cell (by omega)
        have g2 := t2.frozen
        have e0 : w2.cell? ⟨gg, 0, none⟩ = some (.slice (some ⟨nextXB XB k wr.heap.size 0, 0, none⟩) (wlen n 0) (wlen n 0)) := ((Row.of_own t3).cell (i := 0) (Nat.succ_pos k)).trans (congrArg some (tab_get _ _ _ _ (Nat.succ_pos k)))
        clear t1 t2 t3
        go_wp2
        have hgb : w.heap.size + 2 ≤ gg := (T3.out.lt gg rfl).1
        refine bodyPost_ret (v := .agg #[.slice (some ⟨gg, 0, none⟩) (k + 1) cap, .slice (some ⟨nextXB XB k wr.heap.size 0, 0, none⟩) (wlen n 0) (wlen n 0), .int .i64 0]) (by simp [results, Try.results52, go_sem, r0, r1, r2]) rfl ?_
        refine ⟨k + 1, gg, cap, nextXB XB k wr.heap.size, rfl, ?_, ?_, ?_, by rcases HS.out with h | ⟨k0, h⟩ <;> omega, by omega, fun k' hk' => ?_⟩
        · exact ((((T6.out.setCell (by show w.heap.size ≤ w.heap.size + 1; omega) _).setCell (Nat.le_refl _) _).setCell (Nat.le_refl _) _).setCell (Nat.le_refl _) _)
        · refine ⟨?_, fun k' hk' => ?_, T5.out, fun _ _ _ _ => by decide⟩
          · refine Row.congr (f := fun i => (tab n (nextXB XB k wr.heap.size) (k + 1)).getD i undef) ?_ (fun i hi => tab_get _ _ _ _ hi)
            exact ((((Row.of_own T3.out).setOther (a := ⟨w.heap.size + 1, 1, none⟩) (by show gg ≠ w.heap.size + 1; omega) _).setOther (a := ⟨w.heap.size, 0, none⟩) (by show gg ≠ w.heap.size; omega) _).setOther (a := ⟨w.heap.size, 1, none⟩) (by show gg ≠ w.heap.size; omega) _).setOther (a := ⟨w.heap.size, 2, none⟩) (by show gg ≠ w.heap.size; omega) _
          · obtain ⟨hr, hb⟩ := T4.out k' hk'
            generalize nextXB XB k wr.heap.size k' = xb at hr hb
            exact ((((hr).setOther (a := ⟨w.heap.size + 1, 1, none⟩) (by show xb ≠ w.heap.size + 1; omega) _).setOther (a := ⟨w.heap.size, 0, none⟩) (by show xb ≠ w.heap.size; omega) _).setOther (a := ⟨w.heap.size, 1, none⟩) (by show xb ≠ w.heap.size; omega) _).setOther (a := ⟨w.heap.size, 2, none⟩) (by show xb ≠ w.heap.size; omega) _
        · have := HW.out
          exact ⟨Nat.succ_pos k, by show wlen n k = 1; omega, fun k' hk' => HR.out.big k' (by omega)⟩
        · have := (T4.out k' hk').2
          omega
      · clear t1 t2 t3
        go_wp2
        go_roundg n1
        case measure =>
          have := HN1.out
          omega
        case rel =>
          have := HW.out
          have := HN1.out
          refine ⟨k + 1, n1, nextXB XB k wr.heap.size, .slice (some ⟨gg, 0, none⟩) (k + 1) cap, rfl, rfl, by omega, by omega, .inr ⟨k, rfl, by omega, by omega⟩, ⟨fun k' hk' => ?_, T1.out, T2.out, T3.out, T4.out, T5.out, T6.out⟩⟩
          by_cases e : k' = k
          · subst e; omega
          · exact HR.out.big k' (by omega)
end Go.Proofs.Qxb6609507a.U

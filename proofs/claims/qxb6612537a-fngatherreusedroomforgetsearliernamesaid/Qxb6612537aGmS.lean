import Derived.Test.Qxb6612537aGmP
import Derived.Test.Qxb6612537aGRs
/-! gatherMatches: memory. -/
namespace Go.Proofs.Qxb6612537a.U
open Go.RowKit Go.Proofs.Qxb6612537a.Plain
set_option linter.unusedVariables false

theorem info2 : (Try.prog.info? 2).map (fun i => (i.zero, i.size, i.bytes)) = some (some (.int .i64 0), 1, 8) := by kernel_rfl
theorem info3 : (Try.prog.info? 3).map (fun i => (i.zero, i.size, i.bytes)) = some (some (.int .i64 0), 1, 8) := by kernel_rfl
theorem info4 : (Try.prog.info? 4).map (fun i => (i.zero, i.size, i.bytes)) = some (some (.bool false), 1, 1) := by kernel_rfl
theorem cell_lt {w : World} {a : Addr} {v : Value} (h : w.cell? a = some v) : a.block < w.heap.size := by
  refine Nat.not_le.1 fun hle => ?_
  unfold World.cell? at h
  rw [Array.getElem?_eq_none hle] at h
  simp at h
theorem cell_bl {w wr : World} {a : Addr} {v : Value} (h : w.cell? a = some v) (hb : Below w.heap.size w wr) : wr.cell? a = some v := (hb.cell (cell_lt h)).trans h
/-- make([]T, 0, n). -/
theorem run_make0 {P : Program} (t e : TypeId) (z : Value) (bytes : Nat) (ht : P.underlying t = some (.slice e)) (hinfo : (P.info? e).map (fun i => (i.zero, i.size, i.bytes)) = some (some z, 1, bytes)) (n : Nat) (hbytes : bytes * n ≤ 281474976710656) (h63 : n ≤ 9223372036854775807) (w : World) :
    (Instr.makeSlice t (.int .i64 0) (.int .i64 (n : Int))).run P w = .ok (.slice (some ⟨w.heap.size, 0, none⟩) 0 n) (w.alloc (.cells (madeCells z.cells n) e)) := by
  obtain ⟨i, hi, hzz⟩ := Option.map_eq_some_iff.1 hinfo
  simp only [Prod.mk.injEq] at hzz
  obtain ⟨hz, hs, hb⟩ := hzz
  have hb' : (i.bytes : Int) * (n : Int) ≤ 281474976710656 := by
    have h : ((i.bytes * n : Nat) : Int) ≤ 281474976710656 := by rw [hb]; omega
    rwa [Int.natCast_mul] at h
  have hr := run_make (P := P) w t e i z ht hi hz .i64 .i64 0 n (by omega) (by omega) hb' (by omega)
  simp only [Int.toNat_natCast, hs, Nat.mul_one] at hr
  exact hr
theorem own_made0 (w : World) (z : Array Value) (n : Nat) (e : TypeId) (base : Nat) (hb : base ≤ w.heap.size) (hn : n ≤ maxLen) : (w.alloc (.cells (madeCells z n) e)).ownsRow base e 1 (.slice (some ⟨w.heap.size, 0, none⟩) 0 n) 0 [] :=
  ⟨by simp, .inr ⟨w.heap.size, n, madeCells z n, rfl, hb, Go.Deep.blk_alloc_new _ _, Nat.zero_le _, hn, by rw [size_madeCells]; omega, by simp⟩⟩
theorem own_set {w : World} {base : Nat} {e : TypeId} {n : Nat} {xs : List Value} {g cap : Nat} (h : w.ownsRow base e 1 (.slice (some ⟨g, 0, none⟩) n cap) n xs) (k : Nat) (x : Value) : (w.setCell ⟨g, k, none⟩ x).ownsRow base e 1 (.slice (some ⟨g, 0, none⟩) n cap) n (xs.set k x) := by
  obtain ⟨hl, h | ⟨g', cap', cur, hv, hb, hg, hn, hc, hs, ht⟩⟩ := h
  · exact absurd h.1 (by simp)
  · simp only [Value.slice.injEq, Option.some.injEq, Addr.mk.injEq] at hv
    obtain ⟨⟨rfl, _, _⟩, _, rfl⟩ := hv
    refine ⟨by simpa using hl, .inr ⟨g, cap, cur.setIfInBounds k x, rfl, hb, ?_, hn, hc, by simpa using hs, ?_⟩⟩
    · simp [World.setCell, Array.getElem?_modify, hg]
    · rw [Array.toList_setIfInBounds, List.take_set, ht]
theorem own_cell {w : World} {base : Nat} {e : TypeId} {n : Nat} {xs : List Value} {g cap : Nat} (h : w.ownsRow base e 1 (.slice (some ⟨g, 0, none⟩) n cap) n xs) {j : Nat} (hj : j < n) : w.cell? ⟨g, j, none⟩ = some (xs.getD j undef) := (Row.of_own h).cell hj
theorem own_frozen {w : World} {base : Nat} {e : TypeId} {n : Nat} {xs : List Value} {g cap : Nat} (h : w.ownsRow base e 1 (.slice (some ⟨g, 0, none⟩) n cap) n xs) (j : Nat) : w.frozen? ⟨g, j, none⟩ = false := (Row.of_own h).frozen j
theorem own_lt {w : World} {base : Nat} {e : TypeId} {n : Nat} {xs : List Value} {g cap : Nat} (h : w.ownsRow base e 1 (.slice (some ⟨g, 0, none⟩) n cap) n xs) : base ≤ g ∧ g < w.heap.size := own_ge h rfl
def key (L : AL) (i : Nat) : Int := (L.getD i (0, 0)).1
def val (L : AL) (i : Nat) : Int := (L.getD i (0, 0)).2
theorem key_eq {L : AL} {i : Nat} (hi : i < L.length) : key L i = L[i].1 := by unfold key; rw [List.getD_eq_getElem?_getD, List.getElem?_eq_getElem hi]; rfl
theorem val_eq {L : AL} {i : Nat} (hi : i < L.length) : val L i = L[i].2 := by unfold val; rw [List.getD_eq_getElem?_getD, List.getElem?_eq_getElem hi]; rfl
def k1s (L : AL) : List Value := L.map fun p => .int .i64 p.1
def k2s (L : AL) : List Value := L.map fun p => .int .i64 p.2
theorem k1s_get {L : AL} {i : Nat} (hi : i < L.length) : (k1s L).getD i undef = .int .i64 (key L i) := by
  rw [key_eq hi]; unfold k1s
  rw [List.getD_eq_getElem?_getD, List.getElem?_map, List.getElem?_eq_getElem hi]; rfl
theorem k2s_get {L : AL} {i : Nat} (hi : i < L.length) : (k2s L).getD i undef = .int .i64 (val L i) := by
  rw [val_eq hi]; unfold k2s
  rw [List.getD_eq_getElem?_getD, List.getElem?_map, List.getElem?_eq_getElem hi]; rfl
/-- mtx and mrank hold L. -/
structure MSt (w0 : World) (g1 c1 g2 c2 : Nat) (L : AL) (wr : World) : Prop where
  o1 : wr.ownsRow w0.heap.size 2 1 (.slice (some ⟨g1, 0, none⟩) L.length c1) L.length (k1s L)
  o2 : wr.ownsRow w0.heap.size 3 1 (.slice (some ⟨g2, 0, none⟩) L.length c2) L.length (k2s L)
  bl : Below w0.heap.size w0 wr
theorem MSt.c1 {w0 : World} {g1 c1 g2 c2 : Nat} {L : AL} {wr : World} (h : MSt w0 g1 c1 g2 c2 L wr) {j : Nat} (hj : j < L.length) : wr.cell? ⟨g1, j, none⟩ = some (.int .i64 (key L j)) := (own_cell h.o1 hj).trans (by rw [k1s_get hj])
theorem MSt.c2 {w0 : World} {g1 c1 g2 c2 : Nat} {L : AL} {wr : World} (h : MSt w0 g1 c1 g2 c2 L wr) {j : Nat} (hj : j < L.length) : wr.cell? ⟨g2, j, none⟩ = some (.int .i64 (val L j)) := (own_cell h.o2 hj).trans (by rw [k2s_get hj])
theorem MSt.keeps0 {w0 : World} {g1 c1 g2 c2 : Nat} {L : AL} {wr w' : World} (h : MSt w0 g1 c1 g2 c2 L wr) (k : Keeps (fun _ => False) wr w') : MSt w0 g1 c1 g2 c2 L w' :=
  ⟨own_keeps h.o1 k (fun _ _ h => h), own_keeps h.o2 k (fun _ _ h => h), h.bl.trans (k.below h.bl.size (fun _ h => h.elim))⟩
theorem MSt.ne {w0 : World} {g1 c1 g2 c2 : Nat} {L : AL} {wr : World} (h : MSt w0 g1 c1 g2 c2 L wr) : g1 ≠ g2 := by
  rintro rfl
  exact own_apart h.o1 h.o2 (by decide) rfl rfl
/-- mrank[k] = r. -/
theorem MSt.set {w0 : World} {g1 c1 g2 c2 : Nat} {L : AL} {wr : World} (h : MSt w0 g1 c1 g2 c2 L wr) {k : Nat} {tx r : Int} (hk : k < L.length) (he : L[k].1 = tx) : MSt w0 g1 c1 g2 c2 (L.set k (tx, r)) (wr.setCell ⟨g2, k, none⟩ (.int .i64 r)) := by
  have e1 : k1s (L.set k (tx, r)) = k1s L := by
    unfold k1s
    rw [List.map_set]
    refine List.ext_getElem (by simp) fun i h1 h2 => ?_
    rw [List.getElem_set]
    by_cases e : k = i
    · subst e
      rw [if_pos rfl, List.getElem_map, he]
    · rw [if_neg e]
  have e2 : k2s (L.set k (tx, r)) = (k2s L).set k (.int .i64 r) := by unfold k2s; rw [List.map_set]
  have o1 := ownsRow_setCell_other h.o1 (a := ⟨g2, k, none⟩) (fun e => h.ne (by injection e)) (.int .i64 r)
  have o2 := own_set h.o2 k (.int .i64 r)
  refine ⟨?_, ?_, h.bl.trans (((Keeps.refl (fun b => b = g2) wr).setCell (a := ⟨g2, k, none⟩) (.inl rfl) _).below h.bl.size (by rintro b rfl; exact (own_lt h.o2).1))⟩
  · rw [e1, List.length_set]; exact o1
  · rw [e2, List.length_set]; exact o2
/-- Both grow by one. -/
theorem MSt.push {w0 : World} {g1 c1 g2 c2 : Nat} {L : AL} {wr Wa w1 Wb w2 : World} {tx r : Int} {gg cap gg' cap' : Nat} (h : MSt w0 g1 c1 g2 c2 L wr)
    (ka : Keeps (fun _ => False) wr Wa) (ho1 : w1.ownsRow w0.heap.size 2 1 (.slice (some ⟨gg, 0, none⟩) (L.length + 1) cap) (L.length + 1) (k1s L ++ [.int .i64 tx])) (hg1 : Wa.grownBy w1 (some g1))
    (kb : Keeps (fun _ => False) w1 Wb) (ho2 : w2.ownsRow w0.heap.size 3 1 (.slice (some ⟨gg', 0, none⟩) (L.length + 1) cap') (L.length + 1) (k2s L ++ [.int .i64 r])) (hg2 : Wb.grownBy w2 (some g2)) :
    MSt w0 gg cap gg' cap' (L ++ [(tx, r)]) w2 := by
  have kk1 : Keeps (fun b => b = g1) Wa w1 := (Keeps.refl (fun b => b = g1) Wa).grown hg1 fun k e => .inl (by injection e with e; exact e.symm)
  have kk2 : Keeps (fun b => b = g2) Wb w2 := (Keeps.refl (fun b => b = g2) Wb).grown hg2 fun k e => .inl (by injection e with e; exact e.symm)
  have o2w1 := own_keeps (own_keeps h.o2 ka (fun _ _ h => h)) kk1 (fun b hb e => h.ne (by rw [← e]; injection hb with hb; exact hb.symm))
  have b1 : Below w0.heap.size w0 Wa := h.bl.trans (ka.below h.bl.size (fun _ h => h.elim))
  have b2 : Below w0.heap.size w0 w1 := b1.trans (kk1.below b1.size (by rintro b rfl; exact (own_lt h.o1).1))
  have b3 : Below w0.heap.size w0 Wb := b2.trans (kb.below b2.size (fun _ h => h.elim))
  have e1 : k1s (L ++ [(tx, r)]) = k1s L ++ [.int .i64 tx] := by unfold k1s; rw [List.map_append]; rfl
  have e2 : k2s (L ++ [(tx, r)]) = k2s L ++ [.int .i64 r] := by unfold k2s; rw [List.map_append]; rfl
  have el : (L ++ [(tx, r)]).length = L.length + 1 := by simp
  have oo := own_keeps ho1 kb (fun _ _ h => h)
  refine ⟨?_, ?_, b3.trans (kk2.below b3.size (by rintro b rfl; exact (own_lt h.o2).1))⟩
  · rw [e1, el]
    refine own_keeps oo kk2 (fun b hb e => ?_)
    have o2' := own_keeps o2w1 kb (fun _ _ h => h)
    exact own_apart oo o2' (by decide) hb (by rw [e]; rfl)
  · rw [e2, el]; exact ho2
theorem MSt.o2mid {w0 : World} {g1 c1 g2 c2 : Nat} {L : AL} {wr Wa w1 : World} (h : MSt w0 g1 c1 g2 c2 L wr) (ka : Keeps (fun _ => False) wr Wa) (hg1 : Wa.grownBy w1 (some g1)) : w1.ownsRow w0.heap.size 3 1 (.slice (some ⟨g2, 0, none⟩) L.length c2) L.length (k2s L) := by
  have kk1 : Keeps (fun b => b = g1) Wa w1 := (Keeps.refl (fun b => b = g1) Wa).grown hg1 fun k e => .inl (by injection e with e; exact e.symm)
  exact own_keeps (own_keeps h.o2 ka (fun _ _ h => h)) kk1 (fun b hb e => h.ne (by rw [← e]; injection hb with hb; exact hb.symm))
end Go.Proofs.Qxb6612537a.U

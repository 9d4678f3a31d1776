import Derived.Test.Qxb6609507aTopoBad
namespace Go.Proofs.Qxb6609507a.U
open Go.RowKit Go.Proofs.Qxb6609507a.Plain
set_option linter.unusedVariables false

theorem row_lit5 (w : World) (b : Nat) (t : TypeId) (x0 x1 x2 x3 x4 : Value) (h : w.heap[b]? = some (.cells #[x0, x1, x2, x3, x4] t (0, 0))) (f : Nat → Value) (h0 : f 0 = x0) (h1 : f 1 = x1) (h2 : f 2 = x2) (h3 : f 3 = x3) (h4 : f 4 = x4) : Row w b t 5 f :=
  ⟨_, h, Nat.le_refl _, fun i hi => by
    match i, hi with
    | 0, _ => exact congrArg some h0.symm
    | 1, _ => exact congrArg some h1.symm
    | 2, _ => exact congrArg some h2.symm
    | 3, _ => exact congrArg some h3.symm
    | 4, _ => exact congrArg some h4.symm⟩
theorem row_lit6 (w : World) (b : Nat) (t : TypeId) (x0 x1 x2 x3 x4 x5 : Value) (h : w.heap[b]? = some (.cells #[x0, x1, x2, x3, x4, x5] t (0, 0))) (f : Nat → Value) (h0 : f 0 = x0) (h1 : f 1 = x1) (h2 : f 2 = x2) (h3 : f 3 = x3) (h4 : f 4 = x4) (h5 : f 5 = x5) : Row w b t 6 f :=
  ⟨_, h, Nat.le_refl _, fun i hi => by
    match i, hi with
    | 0, _ => exact congrArg some h0.symm
    | 1, _ => exact congrArg some h1.symm
    | 2, _ => exact congrArg some h2.symm
    | 3, _ => exact congrArg some h3.symm
    | 4, _ => exact congrArg some h4.symm
    | 5, _ => exact congrArg some h5.symm⟩
theorem heap4_0 (w : World) (a b c d : Obj) : ((((w.alloc a).alloc b).alloc c).alloc d).heap[w.heap.size]? = some a := by
  rw [Go.Deep.blk_alloc_lt _ _ _ (by simp; omega), Go.Deep.blk_alloc_lt _ _ _ (by simp; omega), Go.Deep.blk_alloc_lt _ _ _ (by simp), Go.Deep.blk_alloc_new]
theorem heap4_1 (w : World) (a b c d : Obj) : ((((w.alloc a).alloc b).alloc c).alloc d).heap[w.heap.size + 1]? = some b := by
  have h := Go.Deep.blk_alloc_new (w.alloc a) b
  rw [Go.Deep.nblk_alloc] at h
  rw [Go.Deep.blk_alloc_lt _ _ _ (by simp), Go.Deep.blk_alloc_lt _ _ _ (by simp), h]
theorem heap4_2 (w : World) (a b c d : Obj) : ((((w.alloc a).alloc b).alloc c).alloc d).heap[w.heap.size + 2]? = some c := by
  have h := Go.Deep.blk_alloc_new ((w.alloc a).alloc b) c
  rw [Go.Deep.nblk_alloc, Go.Deep.nblk_alloc] at h
  rw [Go.Deep.blk_alloc_lt _ _ _ (by simp), h]
theorem heap4_3 (w : World) (a b c d : Obj) : ((((w.alloc a).alloc b).alloc c).alloc d).heap[w.heap.size + 3]? = some d := by
  have h := Go.Deep.blk_alloc_new (((w.alloc a).alloc b).alloc c) d
  rw [Go.Deep.nblk_alloc, Go.Deep.nblk_alloc, Go.Deep.nblk_alloc] at h
  exact h

theorem below11 {w wr : World} (hb : Below w.heap.size w wr) (x0 x1 x2 x3 x4 x5 x6 x7 x8 x9 x10 : Value) : Below w.heap.size w ((((((((((((wr.setCell ⟨w.heap.size, 0, none⟩ x0).setCell ⟨w.heap.size, 1, none⟩ x1).setCell ⟨w.heap.size, 2, none⟩ x2).setCell ⟨w.heap.size, 3, none⟩ x3).setCell ⟨w.heap.size, 4, none⟩ x4).setCell ⟨w.heap.size + 1, 0, none⟩ x5).setCell ⟨w.heap.size + 1, 1, none⟩ x6).setCell ⟨w.heap.size + 1, 2, none⟩ x7).setCell ⟨w.heap.size + 1, 3, none⟩ x8).setCell ⟨w.heap.size + 1, 4, none⟩ x9).setCell ⟨w.heap.size + 1, 5, none⟩ x10).drew) :=
  Below.drew (Below.setCell (Below.setCell (Below.setCell (Below.setCell (Below.setCell (Below.setCell (Below.setCell (Below.setCell (Below.setCell (Below.setCell (Below.setCell hb (p := ⟨w.heap.size, 0, none⟩) (Nat.le_refl _) _) (p := ⟨w.heap.size, 1, none⟩) (Nat.le_refl _) _) (p := ⟨w.heap.size, 2, none⟩) (Nat.le_refl _) _) (p := ⟨w.heap.size, 3, none⟩) (Nat.le_refl _) _) (p := ⟨w.heap.size, 4, none⟩) (Nat.le_refl _) _) (p := ⟨w.heap.size + 1, 0, none⟩) (Nat.le_succ _) _) (p := ⟨w.heap.size + 1, 1, none⟩) (Nat.le_succ _) _) (p := ⟨w.heap.size + 1, 2, none⟩) (Nat.le_succ _) _) (p := ⟨w.heap.size + 1, 3, none⟩) (Nat.le_succ _) _) (p := ⟨w.heap.size + 1, 4, none⟩) (Nat.le_succ _) _) (p := ⟨w.heap.size + 1, 5, none⟩) (Nat.le_succ _) _)

theorem tk_eq {x : Int} {T : Nat} (h : x = T) : x.toNat = T := by omega




set_option maxRecDepth 100000 in
set_option maxHeartbeats 8000000 in
theorem topoOK_any (G P S N : Nat) (a : Option Addr) (m c : Nat) (t : Nat → Int) (w : World) (hm : m ≤ 65536) (ht : Tops w a m t) (h8 : ∀ i, i < m → -128 ≤ t i ∧ t i ≤ 127) (hg0 : 1 ≤ G) (hg1 : G ≤ 65536) (hp0 : 1 ≤ P) (hp1 : P ≤ 65536) (hs0 : 1 ≤ S) (hs1 : S ≤ 65536) (hn1 : N ≤ 65536) :
    Calls Try.prog 8 #[.int .i64 G, .int .i64 P, .int .i64 S, .int .i64 N, .slice a m c] w (TopoPost G P S N m t w) := by
  have HT : Hid (Tops w a m t) := ht
  have H8 : Hid (∀ i, i < m → -128 ≤ t i ∧ t i ≤ 127) := h8
  clear ht h8
  have z2 : 0 ≤ (G : Int) * P := by rw [← Int.natCast_mul]; omega
  have z3 : 0 ≤ (G : Int) * P * S := by rw [← Int.natCast_mul, ← Int.natCast_mul]; omega
  have z4 : 0 ≤ (G : Int) * P * S * N := by rw [← Int.natCast_mul, ← Int.natCast_mul, ← Int.natCast_mul]; omega
  have u2 : (G : Int) * P ≤ 4294967296 := by
    have := Nat.mul_le_mul hg1 hp1
    rw [← Int.natCast_mul]; omega
  have u3 : (G : Int) * P * S ≤ 281474976710656 := by
    have := Nat.mul_le_mul (Nat.mul_le_mul hg1 hp1) hs1
    rw [← Int.natCast_mul, ← Int.natCast_mul]; omega
  by_cases h3 : (G : Int) * P * S ≤ 2147483647
  · have u4 : (G : Int) * P * S * N ≤ 140737488289792 := by
      have h3' : G * P * S ≤ 2147483647 := by rw [← Int.natCast_mul, ← Int.natCast_mul] at h3; omega
      have := Nat.mul_le_mul h3' hn1
      rw [← Int.natCast_mul, ← Int.natCast_mul, ← Int.natCast_mul]; omega
    by_cases h4 : (G : Int) * P * S * N ≤ 2147483647
    · go_enter Try.func8, Try.ntmps8
      go_wp2
      go_loopw [15, 16] (fun s15 s16 wr => ∃ k : Nat, k ≤ m ∧ s16 = .int .i64 k ∧ s15 = .int .i64 (off (fanOf G P S N) (fun i => (t i).toNat) k) ∧ off (fanOf G P S N) (fun i => (t i).toNat) k ≤ 65536 ∧
          (∀ i, i < k → 0 ≤ t i ∧ t i ≤ 4 ∧ Pos (fanOf G P S N) (t i).toNat) ∧
          Row wr w.heap.size 24 5 (fun _ => .int .i64 0) ∧ Row wr (w.heap.size + 1) 25 6 (fun _ => .int .i64 0) ∧ Row wr (w.heap.size + 1 + 1) 24 5 (i64s (sz (fanOf G P S N))) ∧ Row wr (w.heap.size + 1 + 1 + 1) 25 6 (i64s (fanOf G P S N)) ∧ Below w.heap.size w wr)
        (fun _ s16 _ => m - (intOf s16).toNat)
      case atStart =>
        refine ⟨0, Nat.zero_le _, rfl, rfl, Nat.zero_le _, fun i hi => by omega, ?_, ?_, ?_, ?_, below4 w _ _ _ _⟩
        · exact row_lit5 _ _ _ _ _ _ _ _ (heap4_0 w _ _ _ _) _ rfl rfl rfl rfl rfl
        · exact row_lit6 _ _ _ _ _ _ _ _ _ (heap4_1 w _ _ _ _) _ rfl rfl rfl rfl rfl rfl
        · exact row_lit5 _ _ _ _ _ _ _ _ (heap4_2 w _ _ _ _) _ rfl (by unfold i64s; rw [sz_1]) (by unfold i64s; rw [sz_2]; simp) (by unfold i64s; rw [sz_3]; simp) (by unfold i64s; rw [sz_4]; simp)
        · exact row_lit6 _ _ _ _ _ _ _ _ _ (heap4_3 w _ _ _ _) _ rfl rfl rfl rfl rfl rfl
      case round =>
        obtain ⟨k, hk, rfl, rfl, hoff, hall, hr0, hr1, hr2, hr3, hbel⟩ := hrel
        have HB : Hid (Below w.heap.size w wr) := hbel
        have HA : Hid (∀ i, i < k → 0 ≤ t i ∧ t i ≤ 4 ∧ Pos (fanOf G P S N) (t i).toNat) := hall
        have SM : Hid (Small G P S N) := by
          refine ⟨hg0, hg1, hp0, hp1, hs0, hs1, hn1, ?_, ?_⟩
          · rw [← Int.natCast_mul, ← Int.natCast_mul] at h3; omega
          · rw [← Int.natCast_mul, ← Int.natCast_mul, ← Int.natCast_mul] at h4; omega
        have q0 : ∀ l, l < 5 → wr.cell? ⟨w.heap.size, l, none⟩ = some (.int .i64 0) := fun l hl => hr0.cell hl
        have q1 : ∀ l, l < 6 → wr.cell? ⟨w.heap.size + 1, l, none⟩ = some (.int .i64 0) := fun l hl => hr1.cell hl
        have q2 : ∀ l, l < 5 → wr.cell? ⟨w.heap.size + 1 + 1, l, none⟩ = some (.int .i64 (sz (fanOf G P S N) l)) := fun l hl => hr2.cell hl
        have q3 : ∀ l, l < 6 → wr.cell? ⟨w.heap.size + 1 + 1 + 1, l, none⟩ = some (.int .i64 (fanOf G P S N l)) := fun l hl => hr3.cell hl
        have f0 := hr0.frozen
        have f1 := hr1.frozen
        have RS : Hid (Row wr w.heap.size 24 5 (fun _ => .int .i64 0) ∧ Row wr (w.heap.size + 1) 25 6 (fun _ => .int .i64 0) ∧ Row wr (w.heap.size + 1 + 1) 24 5 (i64s (sz (fanOf G P S N))) ∧ Row wr (w.heap.size + 1 + 1 + 1) 25 6 (i64s (fanOf G P S N))) := ⟨hr0, hr1, hr2, hr3⟩
        clear hbel hall hr0 hr1 hr2 hr3 z2 z3 z4 u2 u3 u4 h3 h4
        by_cases hlt : k < m
        · obtain ⟨b, ob, rfl, hb, hc⟩ := HT.out (by omega)
          have ct : wr.cell? ⟨b, ob + k, none⟩ = some (.int .i8 (t k)) := (HB.out.cell (by exact hb)).trans (hc k hlt)
          obtain ⟨h8a, h8b⟩ := H8.out k hlt
          clear hc
          by_cases htk : 0 ≤ t k ∧ t k ≤ 4
          · obtain ⟨T, hT⟩ : ∃ T : Nat, t k = T := ⟨(t k).toNat, by omega⟩
            have HTk : Hid (t k = T) := hT
            have hT4 : T ≤ 4 := by omega
            rw [hT] at ct
            clear htk hT h8a h8b
            by_cases h40 : T = 4 ∧ N = 0
            · have b1 : (((T : Nat) : Int) == 4) = true := beqT (b := 4) h40.1
              have b2 : (((N : Nat) : Int) == 0) = true := beqT (b := 0) h40.2
              clear h40
              go_wp2
              go_region
              all_goals
                go_wp2
                refine bodyPost_ret (v := .tuple #[.agg #[.int .i64 (sz (fanOf G P S N) 0), .int .i64 (sz (fanOf G P S N) 1), .int .i64 (sz (fanOf G P S N) 2), .int .i64 (sz (fanOf G P S N) 3), .int .i64 (sz (fanOf G P S N) 4)], .agg #[.int .i64 (fanOf G P S N 0), .int .i64 (fanOf G P S N 1), .int .i64 (fanOf G P S N 2), .int .i64 (fanOf G P S N 3), .int .i64 (fanOf G P S N 4), .int .i64 (fanOf G P S N 5)], .bool false]) (by simp [results, Try.results8, go_sem, q0, q1]) rfl ⟨_, _, _, _, _, _, _, _, _, _, _, false, rfl, ?_, fun h => by cases h⟩
                exact below11 HB.out _ _ _ _ _ _ _ _ _ _ _
            · have hcT : wr.cell? ⟨w.heap.size + 1 + 1, T, none⟩ = some (.int .i64 (sz (fanOf G P S N) T)) := q2 T (by omega)
              have hsz : sz (fanOf G P S N) T ≤ 2147483647 := SM.out.sz_le T (by omega)
              have hPos : Hid (Pos (fanOf G P S N) T) := by
                have h1 := SM.out
                intro l hl1 hl2
                match l, hl1, hl2 with
                | 1, _, _ => exact h1.g0
                | 2, _, _ => exact h1.p0
                | 3, _, _ => exact h1.s0
                | 4, _, h => exact Nat.pos_of_ne_zero fun e => h40 ⟨by omega, e⟩
                | l + 5, _, h => omega
              by_cases hT5 : T = 4
              · have hN0 : (((N : Nat) : Int) == 0) = false := beqF (b := 0) (fun e3 => h40 ⟨hT5, e3⟩)
                clear h40
                subst hT5
                by_cases hto : off (fanOf G P S N) (fun i => (t i).toNat) k + sz (fanOf G P S N) 4 ≤ 65536
                · clear q0 q1 q2 q3
                  go_wp2
                  all_goals
                    go_roundw
                    case rel =>
                      have e1 := tk_eq HTk.out
                      have e2 : off (fanOf G P S N) (fun i => (t i).toNat) (k + 1) = off (fanOf G P S N) (fun i => (t i).toNat) k + sz (fanOf G P S N) 4 := by
                        show off (fanOf G P S N) (fun i => (t i).toNat) k + sz (fanOf G P S N) (t k).toNat = _
                        rw [e1]
                      obtain ⟨r0, r1, r2, r3⟩ := RS.out
                      refine ⟨k + 1, by omega, by go_num, by rw [e2]; go_num, by rw [e2]; exact hto, fun i hi => ?_, r0, r1, r2, r3, HB.out⟩
                      by_cases e : i = k
                      · subst e
                        have := HTk.out
                        refine ⟨by omega, by omega, ?_⟩
                        rw [e1]; exact hPos.out
                      · exact HA.out i (by omega)
                    case measure => simp [intOf]; omega
                · have hto' : 65536 < ((off (fanOf G P S N) (fun i => (t i).toNat) k : Nat) : Int) + (sz (fanOf G P S N) 4 : Nat) := by omega
                  clear hto
                  go_wp2
                  go_region
                  all_goals
                    go_wp2
                    refine bodyPost_ret (v := .tuple #[.agg #[.int .i64 (sz (fanOf G P S N) 0), .int .i64 (sz (fanOf G P S N) 1), .int .i64 (sz (fanOf G P S N) 2), .int .i64 (sz (fanOf G P S N) 3), .int .i64 (sz (fanOf G P S N) 4)], .agg #[.int .i64 (fanOf G P S N 0), .int .i64 (fanOf G P S N 1), .int .i64 (fanOf G P S N 2), .int .i64 (fanOf G P S N 3), .int .i64 (fanOf G P S N 4), .int .i64 (fanOf G P S N 5)], .bool false]) (by simp [results, Try.results8, go_sem, q0, q1]) rfl ⟨_, _, _, _, _, _, _, _, _, _, _, false, rfl, ?_, fun h => by cases h⟩
                    exact below11 HB.out _ _ _ _ _ _ _ _ _ _ _
              · have hTb : (((T : Nat) : Int) == 4) = false := beqF (b := 4) hT5
                clear h40 hT5
                by_cases hto : off (fanOf G P S N) (fun i => (t i).toNat) k + sz (fanOf G P S N) T ≤ 65536
                · clear q0 q1 q2 q3
                  go_wp2
                  all_goals
                    go_roundw
                    case rel =>
                      have e1 := tk_eq HTk.out
                      have e2 : off (fanOf G P S N) (fun i => (t i).toNat) (k + 1) = off (fanOf G P S N) (fun i => (t i).toNat) k + sz (fanOf G P S N) T := by
                        show off (fanOf G P S N) (fun i => (t i).toNat) k + sz (fanOf G P S N) (t k).toNat = _
                        rw [e1]
                      obtain ⟨r0, r1, r2, r3⟩ := RS.out
                      refine ⟨k + 1, by omega, by go_num, by rw [e2]; go_num, by rw [e2]; exact hto, fun i hi => ?_, r0, r1, r2, r3, HB.out⟩
                      by_cases e : i = k
                      · subst e
                        have := HTk.out
                        refine ⟨by omega, by omega, ?_⟩
                        rw [e1]; exact hPos.out
                      · exact HA.out i (by omega)
                    case measure => simp [intOf]; omega
                · have hto' : 65536 < ((off (fanOf G P S N) (fun i => (t i).toNat) k : Nat) : Int) + (sz (fanOf G P S N) T : Nat) := by omega
                  clear hto
                  go_wp2
                  go_region
                  all_goals
                    go_wp2
                    refine bodyPost_ret (v := .tuple #[.agg #[.int .i64 (sz (fanOf G P S N) 0), .int .i64 (sz (fanOf G P S N) 1), .int .i64 (sz (fanOf G P S N) 2), .int .i64 (sz (fanOf G P S N) 3), .int .i64 (sz (fanOf G P S N) 4)], .agg #[.int .i64 (fanOf G P S N 0), .int .i64 (fanOf G P S N 1), .int .i64 (fanOf G P S N 2), .int .i64 (fanOf G P S N 3), .int .i64 (fanOf G P S N 4), .int .i64 (fanOf G P S N 5)], .bool false]) (by simp [results, Try.results8, go_sem, q0, q1]) rfl ⟨_, _, _, _, _, _, _, _, _, _, _, false, rfl, ?_, fun h => by cases h⟩
                    exact below11 HB.out _ _ _ _ _ _ _ _ _ _ _
          · by_cases htk0 : t k < 0
            · clear htk
              go_wp2
              go_region
              all_goals
                go_wp2
                refine bodyPost_ret (v := .tuple #[.agg #[.int .i64 (sz (fanOf G P S N) 0), .int .i64 (sz (fanOf G P S N) 1), .int .i64 (sz (fanOf G P S N) 2), .int .i64 (sz (fanOf G P S N) 3), .int .i64 (sz (fanOf G P S N) 4)], .agg #[.int .i64 (fanOf G P S N 0), .int .i64 (fanOf G P S N 1), .int .i64 (fanOf G P S N 2), .int .i64 (fanOf G P S N 3), .int .i64 (fanOf G P S N 4), .int .i64 (fanOf G P S N 5)], .bool false]) (by simp [results, Try.results8, go_sem, q0, q1]) rfl ⟨_, _, _, _, _, _, _, _, _, _, _, false, rfl, ?_, fun h => by cases h⟩
                exact below11 HB.out _ _ _ _ _ _ _ _ _ _ _
            · have htk1 : 4 < t k := by omega
              clear htk htk0
              go_wp2
              go_region
              all_goals
                go_wp2
                refine bodyPost_ret (v := .tuple #[.agg #[.int .i64 (sz (fanOf G P S N) 0), .int .i64 (sz (fanOf G P S N) 1), .int .i64 (sz (fanOf G P S N) 2), .int .i64 (sz (fanOf G P S N) 3), .int .i64 (sz (fanOf G P S N) 4)], .agg #[.int .i64 (fanOf G P S N 0), .int .i64 (fanOf G P S N 1), .int .i64 (fanOf G P S N 2), .int .i64 (fanOf G P S N 3), .int .i64 (fanOf G P S N 4), .int .i64 (fanOf G P S N 5)], .bool false]) (by simp [results, Try.results8, go_sem, q0, q1]) rfl ⟨_, _, _, _, _, _, _, _, _, _, _, false, rfl, ?_, fun h => by cases h⟩
                exact below11 HB.out _ _ _ _ _ _ _ _ _ _ _
        · have hkm : k = m := by omega
          have HM : Hid (k = m) := hkm
          clear hkm
          go_wp2
          go_region
          all_goals
            go_wp2
            refine bodyPost_ret (v := .tuple #[.agg #[.int .i64 (sz (fanOf G P S N) 0), .int .i64 (sz (fanOf G P S N) 1), .int .i64 (sz (fanOf G P S N) 2), .int .i64 (sz (fanOf G P S N) 3), .int .i64 (sz (fanOf G P S N) 4)], .agg #[.int .i64 (fanOf G P S N 0), .int .i64 (fanOf G P S N 1), .int .i64 (fanOf G P S N 2), .int .i64 (fanOf G P S N 3), .int .i64 (fanOf G P S N 4), .int .i64 (fanOf G P S N 5)], .bool true]) (by simp [results, Try.results8, go_sem, q0, q1]) rfl ⟨_, _, _, _, _, _, _, _, _, _, _, true, rfl, ?_, fun _ => ?_⟩
            · exact below11 HB.out _ _ _ _ _ _ _ _ _ _ _
            · have e := HM.out
              subst e
              exact ⟨G, P, S, N, fun i => (t i).toNat, rfl, rfl, rfl, rfl, SM.out, rfl, rfl, rfl, rfl, rfl, rfl, rfl, rfl, rfl, rfl, rfl, fun i hi => ⟨(Int.toNat_of_nonneg (HA.out i hi).1).symm, by show (t i).toNat ≤ 4; have := (HA.out i hi).2.1; omega, (HA.out i hi).2.2⟩, hoff⟩
    · have h4' : 2147483647 < (G : Int) * P * S * N := by omega
      clear h4
      go_enter Try.func8, Try.ntmps8
      go_wp2
      go_region
      all_goals
        go_wp2
        exact bodyPost_ret (v := .tuple #[.agg #[.int .i64 1, .int .i64 G, .int .i64 (G * P), .int .i64 (G * P * S), .int .i64 (G * P * S * N)], .agg #[.int .i64 0, .int .i64 0, .int .i64 0, .int .i64 0, .int .i64 0, .int .i64 0], .bool false]) (by simp [results, Try.results8, go_sem]) rfl ⟨_, _, _, _, _, _, _, _, _, _, _, false, rfl, (below4 w _ _ _ _).drew, fun h => by cases h⟩
  · have h3' : 2147483647 < (G : Int) * P * S := by omega
    clear h3
    go_enter Try.func8, Try.ntmps8
    go_wp2
    go_region
    all_goals
      go_wp2
      exact bodyPost_ret (v := .tuple #[.agg #[.int .i64 1, .int .i64 G, .int .i64 (G * P), .int .i64 (G * P * S), .int .i64 0], .agg #[.int .i64 0, .int .i64 0, .int .i64 0, .int .i64 0, .int .i64 0, .int .i64 0], .bool false]) (by simp [results, Try.results8, go_sem]) rfl ⟨_, _, _, _, _, _, _, _, _, _, _, false, rfl, (below4 w _ _ _ _).drew, fun h => by cases h⟩

theorem zzTopo_any (g p s n : Int) (a : Option Addr) (m c : Nat) (t : Nat → Int) (w : World) (hm : m ≤ 65536) (ht : Tops w a m t) (hi8 : ∀ i, i < m → -128 ≤ t i ∧ t i ≤ 127) :
    Calls Try.prog 8 #[.int .i64 g, .int .i64 p, .int .i64 s, .int .i64 n, .slice a m c] w (TopoPost g p s n m t w) := by
  by_cases h : 1 ≤ g ∧ g ≤ 65536 ∧ 1 ≤ p ∧ p ≤ 65536 ∧ 1 ≤ s ∧ s ≤ 65536 ∧ 0 ≤ n ∧ n ≤ 65536
  · obtain ⟨h1, h2, h3, h4, h5, h6, h7, h8⟩ := h
    obtain ⟨G, rfl⟩ : ∃ G : Nat, g = G := ⟨g.toNat, by omega⟩
    obtain ⟨P, rfl⟩ : ∃ P : Nat, p = P := ⟨p.toNat, by omega⟩
    obtain ⟨S, rfl⟩ : ∃ S : Nat, s = S := ⟨s.toNat, by omega⟩
    obtain ⟨N, rfl⟩ : ∃ N : Nat, n = N := ⟨n.toNat, by omega⟩
    exact topoOK_any G P S N a m c t w hm ht hi8 (by omega) (by omega) (by omega) (by omega) (by omega) (by omega) (by omega)
  · exact topoBad g p s n a m c t w h
end Go.Proofs.Qxb6609507a.U

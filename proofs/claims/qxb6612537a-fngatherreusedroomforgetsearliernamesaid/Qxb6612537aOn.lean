import Derived.Test.Qxb6612537aBs
namespace Go.Proofs.Qxb6612537a.U
open Go.RowKit Go.Proofs.Qxb6612537a.Plain Go.Lib
set_option linter.unusedVariables false
set_option linter.unusedSimpArgs false

/-- A slice over n records. -/
def Sl2 (w : World) (a : Option Addr) (n c size : Nat) (f : Nat → List Value) : Prop :=
  (a = none ∧ n = 0 ∧ c = 0) ∨ ∃ b off, a = some ⟨b, off, none⟩ ∧ n ≤ c ∧ b < w.heap.size ∧ Cells w b off size n f
theorem Sl2.inn {w : World} {a : Option Addr} {n c size : Nat} {f : Nat → List Value} (h : Sl2 w a n c size f) : In w a size n f := fun h0 => by
  rcases h with ⟨_, h, _⟩ | ⟨b, off, h1, _, h2, h3⟩
  · omega
  · exact ⟨b, off, h1, h2, h3⟩
/-- What on hands back: the records that p holds of, in one run. -/
def OnPost (a : Option Addr) (n size : Nat) (p : Nat → Prop) (w : World) (e : Ending) (w' : World) : Prop :=
  ∃ (i j : Nat) (A : Option Addr) (C : Nat), i ≤ j ∧ j ≤ n ∧ j - i ≤ C ∧ (∀ k, k < n → ((i ≤ k ∧ k < j) ↔ p k)) ∧ e = .returned (.slice A (j - i) C) ∧ (i < j → ∃ b off, a = some ⟨b, off, none⟩ ∧ A = some ⟨b, off + i * size, none⟩) ∧ Below w.heap.size w w'
theorem box1 (w : World) (o : Obj) (v : Value) (t : TypeId) : ((w.alloc (.cells #[v] t)).alloc o).cell? ⟨w.heap.size, 0, none⟩ = some v :=
  ((Row.new w #[v] t (fun _ => v) (fun i hi => by
    have : i = 0 := by simp at hi; omega
    subst this; rfl)).alloc o).cell (i := 0) (by simp)
theorem box2 (w : World) (o : Obj) (v : Value) (t : TypeId) : ((w.alloc o).alloc (.cells #[v] t)).cell? ⟨w.heap.size + 1, 0, none⟩ = some v :=
  (Row.new2 w o #[v] t (fun _ => v) (fun i hi => by
    have : i = 0 := by simp at hi; omega
    subst this; rfl)).cell (i := 0) (by simp)
theorem Run.grow {q : Nat → Prop} {n i e : Nat} (h1 : i ≤ e) (h2 : e < n) (h : ∀ k, i ≤ k → k < e → q k) (h3 : q e) : ∀ k, i ≤ k → k < e + 1 → q k := fun k hk hk2 => by
  by_cases c : k = e
  · subst c; exact h3
  · exact h k hk (by omega)
set_option maxRecDepth 100000 in
set_option maxHeartbeats 2000000 in
theorem on36t_any (a : Option Addr) (n c : Nat) (R : Nat → HRec) (name : ByteArray) (w : World) (hsl : Sl2 w a n c 3 fun i => hc (R i)) (hn : n ≤ 4096) (hc4 : c ≤ 9223372036854775807) (ha : Asc (fun i => By (R i).nm) n) (hR : HSmall R n) (hname : name.size ≤ 1048576) :
    Calls Try.prog 36 #[.slice a n c, .string name, .bool true] w (OnPost a n 3 (fun k => (By name ++ [46]) <+: By (R k).nm) w) := by
  have HIn : Hid (∀ o1 o2, In ((w.alloc o1).alloc o2) a 3 n fun i => hc (R i)) := fun o1 o2 => hsl.inn.below (((Below.refl _ _).alloc (Nat.le_refl _) _).alloc (by simp) _)
  have HB0 : Hid (∀ o1 o2, Below w.heap.size w ((w.alloc o1).alloc o2)) := fun o1 o2 => ((Below.refl _ _).alloc (Nat.le_refl _) _).alloc (by simp) _
  have HSl := hid hsl
  have HA := hid ha
  have HS := hid hR
  have M := meth70
  conv at M => arg 1; whnf
  clear hsl ha hR
  go_enter Try.func36, Try.ntmps36
  go_wp2_with (first | (go_at_call 43; refine (beneath_any _ _ hname).mono ?_; rintro e w2 ⟨⟨t, rfl, ht⟩, rfl⟩) | (go_at_call 46; refine (bs46_any _ _ _ R _ _ (HIn.out _ _) hn HA.out).mono ?_; rintro e w2 ⟨i, r, rfl, hlow, hb⟩))
  have hts : t.size ≤ 1048580 := by
    have h := congrArg List.length ht
    rw [by_len, List.length_append, by_len] at h
    simp at h; omega
  have HBx : Hid (w2.cell? ⟨w.heap.size + 1, 0, none⟩ = some (.string t) ∧ w.heap.size + 1 < w2.heap.size) := by
    have hlt : w.heap.size + 1 < w2.heap.size := by have := hb.size; simp at this; omega
    refine ⟨(hb.cell (by simp)).trans ?_, hlt⟩
    exact box2 _ _ _ _
  have HB2 : Hid (Below w.heap.size w w2) := (HB0.out _ _).trans (hb.mono (by simp; omega))
  have hil : i ≤ n := hlow.le
  have HL := hid hlow
  clear hb hlow
  go_wp2_with fail
  go_loopg [11] (n - i) (fun gk s11 wr => ∃ j : Nat, gk = n - j ∧ s11 = .int .i64 (j : Nat) ∧ i ≤ j ∧ j ≤ n ∧ Below w.heap.size w wr ∧ Below w2.heap.size w2 wr ∧ (∀ k, i ≤ k → k < j → By t <+: By (R k).nm))
  case atStart => exact ⟨i, rfl, rfl, Nat.le_refl _, hil, HB2.out, Below.refl _ _, fun k h1 h2 => absurd h1 (by omega)⟩
  case round =>
    obtain ⟨j, rfl, rfl, hij, hjn, hB, hBB, hall⟩ := hrel
    have HB := hid hB
    have HBB := hid hBB
    have HAll := hid hall
    clear hB hBB hall
    by_cases hlt : j < n
    · have hltI : (j : Int) < (n : Int) := by omega
      rcases HSl.out with ⟨rfl, h, _⟩ | ⟨ba, off, rfl, hnc, hba, hcs⟩
      · omega
      · replace hcs := hcs.below HB.out hba j hlt
        have c0 : wr.cell? ⟨ba, off + j * 3, none⟩ = some (.string (R j).nm) := hcs 0 (by omega)
        have c1 : wr.cell? ⟨ba, off + j * 3 + 1, none⟩ = some (.string (R j).sv) := hcs 1 (by omega)
        have c2 : wr.cell? ⟨ba, off + j * 3 + 2, none⟩ = some (.int .i64 (R j).tx) := hcs 2 (by omega)
        have cB : wr.cell? ⟨w.heap.size + 1, 0, none⟩ = some (.string t) := (HBB.out.cell HBx.out.2).trans HBx.out.1
        have hBlt : w.heap.size + 1 < wr.heap.size := Nat.lt_of_lt_of_le HBx.out.2 HBB.out.size
        have CN := named96_any (R j) wr
        clear hcs
        have CC : ∀ w3, Below wr.heap.size wr w3 → Calls Try.prog 44 #[.string (R j).nm, .pointer (some ⟨w.heap.size + 1, 0, none⟩)] w3 (fun e w' => e = .returned (.bool (decide (By t <+: By (R j).nm))) ∧ w' = w3) :=
          fun w3 h3 => pre44_any _ _ _ _ ((h3.cell hBlt).trans cB) (HS.out j hlt).1 hts
        by_cases hq : By t <+: By (R j).nm
        · have HAll' : Hid (∀ k, i ≤ k → k < j + 1 → By t <+: By (R k).nm) := Run.grow (q := (fun k => By t <+: By (R k).nm)) hij hlt HAll.out hq
          rw [decide_eq_true hq] at CC
          clear hq HAll
          go_wp2_with (first | (go_at_call 96; refine CN.mono ?_; rintro e w3 ⟨rfl, hb3⟩) | (go_at_call 44; refine (CC _ hb3).mono ?_; rintro e w4 ⟨rfl, rfl⟩))
          go_roundg (n - (j + 1))
          case measure => omega
          case rel => exact ⟨j + 1, rfl, by go_num, by omega, by omega, HB.out.trans (hb3.mono HB.out.size), HBB.out.trans (hb3.mono HBB.out.size), HAll'.out⟩
        · have HR : Hid (Run (fun k => By t <+: By (R k).nm) n i j) := ⟨hij, hjn, HAll.out, fun _ => hq⟩
          rw [decide_eq_false hq] at CC
          clear hq HAll
          have hijI : (i : Int) ≤ (j : Int) := by omega
          have hjc : (j : Int) ≤ (c : Int) := by omega
          go_wp2_with (first | (go_at_call 96; refine CN.mono ?_; rintro e w3 ⟨rfl, hb3⟩) | (go_at_call 44; refine (CC _ hb3).mono ?_; rintro e w4 ⟨rfl, rfl⟩))
          go_ret
          exact ⟨i, j, _, _, hij, hjn, by omega, fun k hk => by show _ ↔ (By name ++ [46]) <+: By (R k).nm; rw [← ht]; exact run_prefix HA.out HL.out HR.out k hk, rfl, fun _ => ⟨ba, off, rfl, rfl⟩, HB.out.trans (hb3.mono HB.out.size)⟩
    · have hltI : ¬ (j : Int) < (n : Int) := by omega
      have HR : Hid (Run (fun k => By t <+: By (R k).nm) n i j) := ⟨hij, hjn, HAll.out, fun h => absurd h hlt⟩
      have hijI : (i : Int) ≤ (j : Int) := by omega
      clear hlt HAll
      rcases HSl.out with ⟨rfl, rfl, rfl⟩ | ⟨ba, off, rfl, hnc, hba, hcs⟩
      · obtain rfl : i = 0 := by omega
        obtain rfl : j = 0 := by omega
        go_wp2
        go_ret
        exact ⟨0, 0, _, _, Nat.le_refl _, Nat.le_refl _, by omega, fun k hk => by show _ ↔ (By name ++ [46]) <+: By (R k).nm; rw [← ht]; exact run_prefix HA.out HL.out HR.out k hk, rfl, fun h => absurd h (by omega), HB.out⟩
      · clear hcs
        have hjc : (j : Int) ≤ (c : Int) := by omega
        go_wp2
        all_goals
          go_ret
          first
          | exact ⟨i, j, _, _, hij, hjn, by omega, fun k hk => by show _ ↔ (By name ++ [46]) <+: By (R k).nm; rw [← ht]; exact run_prefix HA.out HL.out HR.out k hk, rfl, fun _ => ⟨ba, off, rfl, rfl⟩, HB.out⟩
          | exact ⟨i, j, _, _, hij, hjn, by omega, fun k hk => by show _ ↔ (By name ++ [46]) <+: By (R k).nm; rw [← ht]; exact run_prefix HA.out HL.out HR.out k hk, rfl, fun h => absurd h (by omega), HB.out⟩
set_option maxRecDepth 100000 in
set_option maxHeartbeats 2000000 in
theorem on36f_any (a : Option Addr) (n c : Nat) (R : Nat → HRec) (name : ByteArray) (w : World) (hsl : Sl2 w a n c 3 fun i => hc (R i)) (hn : n ≤ 4096) (hc4 : c ≤ 9223372036854775807) (ha : Asc (fun i => By (R i).nm) n) (hR : HSmall R n) (hname : name.size ≤ 1048576) :
    Calls Try.prog 36 #[.slice a n c, .string name, .bool false] w (OnPost a n 3 (fun k => By (R k).nm = By name) w) := by
  have HIn : Hid (∀ o1 o2, In ((w.alloc o1).alloc o2) a 3 n fun i => hc (R i)) := fun o1 o2 => hsl.inn.below (((Below.refl _ _).alloc (Nat.le_refl _) _).alloc (by simp) _)
  have HB0 : Hid (∀ o1 o2, Below w.heap.size w ((w.alloc o1).alloc o2)) := fun o1 o2 => ((Below.refl _ _).alloc (Nat.le_refl _) _).alloc (by simp) _
  have HSl := hid hsl
  have HA := hid ha
  have HS := hid hR
  have M := meth70
  conv at M => arg 1; whnf
  clear hsl ha hR
  go_enter Try.func36, Try.ntmps36
  go_wp2_with (first | (go_at_call 46; refine (bs46_any _ _ _ R _ _ (HIn.out _ _) hn HA.out).mono ?_; rintro e w2 ⟨i, r, rfl, hlow, hb⟩))
  have HBx : Hid (w2.cell? ⟨w.heap.size, 0, none⟩ = some (.string name) ∧ w.heap.size < w2.heap.size) := by
    have hlt : w.heap.size < w2.heap.size := by have := hb.size; simp at this; omega
    refine ⟨(hb.cell (by simp; omega)).trans ?_, hlt⟩
    exact box1 _ _ _ _
  have HB2 : Hid (Below w.heap.size w w2) := (HB0.out _ _).trans (hb.mono (by simp; omega))
  have hil : i ≤ n := hlow.le
  have HL := hid hlow
  clear hb hlow
  go_wp2_with fail
  go_loopg [11] (n - i) (fun gk s11 wr => ∃ j : Nat, gk = n - j ∧ s11 = .int .i64 (j : Nat) ∧ i ≤ j ∧ j ≤ n ∧ Below w.heap.size w wr ∧ Below w2.heap.size w2 wr ∧ (∀ k, i ≤ k → k < j → By (R k).nm = By name))
  case atStart => exact ⟨i, rfl, rfl, Nat.le_refl _, hil, HB2.out, Below.refl _ _, fun k h1 h2 => absurd h1 (by omega)⟩
  case round =>
    obtain ⟨j, rfl, rfl, hij, hjn, hB, hBB, hall⟩ := hrel
    have HB := hid hB
    have HBB := hid hBB
    have HAll := hid hall
    clear hB hBB hall
    by_cases hlt : j < n
    · have hltI : (j : Int) < (n : Int) := by omega
      rcases HSl.out with ⟨rfl, h, _⟩ | ⟨ba, off, rfl, hnc, hba, hcs⟩
      · omega
      · replace hcs := hcs.below HB.out hba j hlt
        have c0 : wr.cell? ⟨ba, off + j * 3, none⟩ = some (.string (R j).nm) := hcs 0 (by omega)
        have c1 : wr.cell? ⟨ba, off + j * 3 + 1, none⟩ = some (.string (R j).sv) := hcs 1 (by omega)
        have c2 : wr.cell? ⟨ba, off + j * 3 + 2, none⟩ = some (.int .i64 (R j).tx) := hcs 2 (by omega)
        have cB : wr.cell? ⟨w.heap.size, 0, none⟩ = some (.string name) := (HBB.out.cell HBx.out.2).trans HBx.out.1
        have hBlt : w.heap.size < wr.heap.size := Nat.lt_of_lt_of_le HBx.out.2 HBB.out.size
        have CN := named96_any (R j) wr
        clear hcs
        have CC : ∀ w3, Below wr.heap.size wr w3 → Calls Try.prog 42 #[.string (R j).nm, .pointer (some ⟨w.heap.size, 0, none⟩)] w3 (fun e w' => e = .returned (.bool (decide (By (R j).nm = By name))) ∧ w' = w3) :=
          fun w3 h3 => eq42_any _ _ _ _ ((h3.cell hBlt).trans cB) 
        by_cases hq : By (R j).nm = By name
        · have HAll' : Hid (∀ k, i ≤ k → k < j + 1 → By (R k).nm = By name) := Run.grow (q := (fun k => By (R k).nm = By name)) hij hlt HAll.out hq
          rw [decide_eq_true hq] at CC
          clear hq HAll
          go_wp2_with (first | (go_at_call 96; refine CN.mono ?_; rintro e w3 ⟨rfl, hb3⟩) | (go_at_call 42; refine (CC _ hb3).mono ?_; rintro e w4 ⟨rfl, rfl⟩))
          go_roundg (n - (j + 1))
          case measure => omega
          case rel => exact ⟨j + 1, rfl, by go_num, by omega, by omega, HB.out.trans (hb3.mono HB.out.size), HBB.out.trans (hb3.mono HBB.out.size), HAll'.out⟩
        · have HR : Hid (Run (fun k => By (R k).nm = By name) n i j) := ⟨hij, hjn, HAll.out, fun _ => hq⟩
          rw [decide_eq_false hq] at CC
          clear hq HAll
          have hijI : (i : Int) ≤ (j : Int) := by omega
          have hjc : (j : Int) ≤ (c : Int) := by omega
          go_wp2_with (first | (go_at_call 96; refine CN.mono ?_; rintro e w3 ⟨rfl, hb3⟩) | (go_at_call 42; refine (CC _ hb3).mono ?_; rintro e w4 ⟨rfl, rfl⟩))
          go_ret
          exact ⟨i, j, _, _, hij, hjn, by omega, fun k hk => run_eq HA.out HL.out HR.out k hk, rfl, fun _ => ⟨ba, off, rfl, rfl⟩, HB.out.trans (hb3.mono HB.out.size)⟩
    · have hltI : ¬ (j : Int) < (n : Int) := by omega
      have HR : Hid (Run (fun k => By (R k).nm = By name) n i j) := ⟨hij, hjn, HAll.out, fun h => absurd h hlt⟩
      have hijI : (i : Int) ≤ (j : Int) := by omega
      clear hlt HAll
      rcases HSl.out with ⟨rfl, rfl, rfl⟩ | ⟨ba, off, rfl, hnc, hba, hcs⟩
      · obtain rfl : i = 0 := by omega
        obtain rfl : j = 0 := by omega
        go_wp2
        go_ret
        exact ⟨0, 0, _, _, Nat.le_refl _, Nat.le_refl _, by omega, fun k hk => run_eq HA.out HL.out HR.out k hk, rfl, fun h => absurd h (by omega), HB.out⟩
      · clear hcs
        have hjc : (j : Int) ≤ (c : Int) := by omega
        go_wp2
        all_goals
          go_ret
          first
          | exact ⟨i, j, _, _, hij, hjn, by omega, fun k hk => run_eq HA.out HL.out HR.out k hk, rfl, fun _ => ⟨ba, off, rfl, rfl⟩, HB.out⟩
          | exact ⟨i, j, _, _, hij, hjn, by omega, fun k hk => run_eq HA.out HL.out HR.out k hk, rfl, fun h => absurd h (by omega), HB.out⟩
set_option maxRecDepth 100000 in
set_option maxHeartbeats 2000000 in
theorem on37t_any (a : Option Addr) (n c : Nat) (R : Nat → WRec) (name : ByteArray) (w : World) (hsl : Sl2 w a n c 5 fun i => wc (R i)) (hn : n ≤ 4096) (hc4 : c ≤ 9223372036854775807) (ha : Asc (fun i => By (R i).nm) n) (hR : WSmall R n) (hname : name.size ≤ 1048576) :
    Calls Try.prog 37 #[.slice a n c, .string name, .bool true] w (OnPost a n 5 (fun k => (By name ++ [46]) <+: By (R k).nm) w) := by
  have HIn : Hid (∀ o1 o2, In ((w.alloc o1).alloc o2) a 5 n fun i => wc (R i)) := fun o1 o2 => hsl.inn.below (((Below.refl _ _).alloc (Nat.le_refl _) _).alloc (by simp) _)
  have HB0 : Hid (∀ o1 o2, Below w.heap.size w ((w.alloc o1).alloc o2)) := fun o1 o2 => ((Below.refl _ _).alloc (Nat.le_refl _) _).alloc (by simp) _
  have HSl := hid hsl
  have HA := hid ha
  have HS := hid hR
  have M := meth74
  conv at M => arg 1; whnf
  clear hsl ha hR
  go_enter Try.func37, Try.ntmps37
  go_wp2_with (first | (go_at_call 43; refine (beneath_any _ _ hname).mono ?_; rintro e w2 ⟨⟨t, rfl, ht⟩, rfl⟩) | (go_at_call 51; refine (bs51_any _ _ _ R _ _ (HIn.out _ _) hn HA.out).mono ?_; rintro e w2 ⟨i, r, rfl, hlow, hb⟩))
  have hts : t.size ≤ 1048580 := by
    have h := congrArg List.length ht
    rw [by_len, List.length_append, by_len] at h
    simp at h; omega
  have HBx : Hid (w2.cell? ⟨w.heap.size + 1, 0, none⟩ = some (.string t) ∧ w.heap.size + 1 < w2.heap.size) := by
    have hlt : w.heap.size + 1 < w2.heap.size := by have := hb.size; simp at this; omega
    refine ⟨(hb.cell (by simp)).trans ?_, hlt⟩
    exact box2 _ _ _ _
  have HB2 : Hid (Below w.heap.size w w2) := (HB0.out _ _).trans (hb.mono (by simp; omega))
  have hil : i ≤ n := hlow.le
  have HL := hid hlow
  clear hb hlow
  go_wp2_with fail
  go_loopg [11] (n - i) (fun gk s11 wr => ∃ j : Nat, gk = n - j ∧ s11 = .int .i64 (j : Nat) ∧ i ≤ j ∧ j ≤ n ∧ Below w.heap.size w wr ∧ Below w2.heap.size w2 wr ∧ (∀ k, i ≤ k → k < j → By t <+: By (R k).nm))
  case atStart => exact ⟨i, rfl, rfl, Nat.le_refl _, hil, HB2.out, Below.refl _ _, fun k h1 h2 => absurd h1 (by omega)⟩
  case round =>
    obtain ⟨j, rfl, rfl, hij, hjn, hB, hBB, hall⟩ := hrel
    have HB := hid hB
    have HBB := hid hBB
    have HAll := hid hall
    clear hB hBB hall
    by_cases hlt : j < n
    · have hltI : (j : Int) < (n : Int) := by omega
      rcases HSl.out with ⟨rfl, h, _⟩ | ⟨ba, off, rfl, hnc, hba, hcs⟩
      · omega
      · replace hcs := hcs.below HB.out hba j hlt
        have c0 : wr.cell? ⟨ba, off + j * 5, none⟩ = some (.string (R j).nm) := hcs 0 (by omega)
        have c1 : wr.cell? ⟨ba, off + j * 5 + 1, none⟩ = some (.int .i64 (R j).tx) := hcs 1 (by omega)
        have c2 : wr.cell? ⟨ba, off + j * 5 + 2, none⟩ = some (.int .i64 (R j).od) := hcs 2 (by omega)
        have c3 : wr.cell? ⟨ba, off + j * 5 + 3, none⟩ = some (.int .i64 (R j).rk) := hcs 3 (by omega)
        have c4 : wr.cell? ⟨ba, off + j * 5 + 4, none⟩ = some (.bool (R j).up) := hcs 4 (by omega)
        have cB : wr.cell? ⟨w.heap.size + 1, 0, none⟩ = some (.string t) := (HBB.out.cell HBx.out.2).trans HBx.out.1
        have hBlt : w.heap.size + 1 < wr.heap.size := Nat.lt_of_lt_of_le HBx.out.2 HBB.out.size
        have CN := named98_any (R j) wr
        clear hcs
        have CC : ∀ w3, Below wr.heap.size wr w3 → Calls Try.prog 50 #[.string (R j).nm, .pointer (some ⟨w.heap.size + 1, 0, none⟩)] w3 (fun e w' => e = .returned (.bool (decide (By t <+: By (R j).nm))) ∧ w' = w3) :=
          fun w3 h3 => pre50_any _ _ _ _ ((h3.cell hBlt).trans cB) (HS.out j hlt) hts
        by_cases hq : By t <+: By (R j).nm
        · have HAll' : Hid (∀ k, i ≤ k → k < j + 1 → By t <+: By (R k).nm) := Run.grow (q := (fun k => By t <+: By (R k).nm)) hij hlt HAll.out hq
          rw [decide_eq_true hq] at CC
          clear hq HAll
          go_wp2_with (first | (go_at_call 98; refine CN.mono ?_; rintro e w3 ⟨rfl, hb3⟩) | (go_at_call 50; refine (CC _ hb3).mono ?_; rintro e w4 ⟨rfl, rfl⟩))
          go_roundg (n - (j + 1))
          case measure => omega
          case rel => exact ⟨j + 1, rfl, by go_num, by omega, by omega, HB.out.trans (hb3.mono HB.out.size), HBB.out.trans (hb3.mono HBB.out.size), HAll'.out⟩
        · have HR : Hid (Run (fun k => By t <+: By (R k).nm) n i j) := ⟨hij, hjn, HAll.out, fun _ => hq⟩
          rw [decide_eq_false hq] at CC
          clear hq HAll
          have hijI : (i : Int) ≤ (j : Int) := by omega
          have hjc : (j : Int) ≤ (c : Int) := by omega
          go_wp2_with (first | (go_at_call 98; refine CN.mono ?_; rintro e w3 ⟨rfl, hb3⟩) | (go_at_call 50; refine (CC _ hb3).mono ?_; rintro e w4 ⟨rfl, rfl⟩))
          go_ret
          exact ⟨i, j, _, _, hij, hjn, by omega, fun k hk => by show _ ↔ (By name ++ [46]) <+: By (R k).nm; rw [← ht]; exact run_prefix HA.out HL.out HR.out k hk, rfl, fun _ => ⟨ba, off, rfl, rfl⟩, HB.out.trans (hb3.mono HB.out.size)⟩
    · have hltI : ¬ (j : Int) < (n : Int) := by omega
      have HR : Hid (Run (fun k => By t <+: By (R k).nm) n i j) := ⟨hij, hjn, HAll.out, fun h => absurd h hlt⟩
      have hijI : (i : Int) ≤ (j : Int) := by omega
      clear hlt HAll
      rcases HSl.out with ⟨rfl, rfl, rfl⟩ | ⟨ba, off, rfl, hnc, hba, hcs⟩
      · obtain rfl : i = 0 := by omega
        obtain rfl : j = 0 := by omega
        go_wp2
        go_ret
        exact ⟨0, 0, _, _, Nat.le_refl _, Nat.le_refl _, by omega, fun k hk => by show _ ↔ (By name ++ [46]) <+: By (R k).nm; rw [← ht]; exact run_prefix HA.out HL.out HR.out k hk, rfl, fun h => absurd h (by omega), HB.out⟩
      · clear hcs
        have hjc : (j : Int) ≤ (c : Int) := by omega
        go_wp2
        all_goals
          go_ret
          first
          | exact ⟨i, j, _, _, hij, hjn, by omega, fun k hk => by show _ ↔ (By name ++ [46]) <+: By (R k).nm; rw [← ht]; exact run_prefix HA.out HL.out HR.out k hk, rfl, fun _ => ⟨ba, off, rfl, rfl⟩, HB.out⟩
          | exact ⟨i, j, _, _, hij, hjn, by omega, fun k hk => by show _ ↔ (By name ++ [46]) <+: By (R k).nm; rw [← ht]; exact run_prefix HA.out HL.out HR.out k hk, rfl, fun h => absurd h (by omega), HB.out⟩
set_option maxRecDepth 100000 in
set_option maxHeartbeats 2000000 in
theorem on37f_any (a : Option Addr) (n c : Nat) (R : Nat → WRec) (name : ByteArray) (w : World) (hsl : Sl2 w a n c 5 fun i => wc (R i)) (hn : n ≤ 4096) (hc4 : c ≤ 9223372036854775807) (ha : Asc (fun i => By (R i).nm) n) (hR : WSmall R n) (hname : name.size ≤ 1048576) :
    Calls Try.prog 37 #[.slice a n c, .string name, .bool false] w (OnPost a n 5 (fun k => By (R k).nm = By name) w) := by
  have HIn : Hid (∀ o1 o2, In ((w.alloc o1).alloc o2) a 5 n fun i => wc (R i)) := fun o1 o2 => hsl.inn.below (((Below.refl _ _).alloc (Nat.le_refl _) _).alloc (by simp) _)
  have HB0 : Hid (∀ o1 o2, Below w.heap.size w ((w.alloc o1).alloc o2)) := fun o1 o2 => ((Below.refl _ _).alloc (Nat.le_refl _) _).alloc (by simp) _
  have HSl := hid hsl
  have HA := hid ha
  have HS := hid hR
  have M := meth74
  conv at M => arg 1; whnf
  clear hsl ha hR
  go_enter Try.func37, Try.ntmps37
  go_wp2_with (first | (go_at_call 51; refine (bs51_any _ _ _ R _ _ (HIn.out _ _) hn HA.out).mono ?_; rintro e w2 ⟨i, r, rfl, hlow, hb⟩))
  have HBx : Hid (w2.cell? ⟨w.heap.size, 0, none⟩ = some (.string name) ∧ w.heap.size < w2.heap.size) := by
    have hlt : w.heap.size < w2.heap.size := by have := hb.size; simp at this; omega
    refine ⟨(hb.cell (by simp; omega)).trans ?_, hlt⟩
    exact box1 _ _ _ _
  have HB2 : Hid (Below w.heap.size w w2) := (HB0.out _ _).trans (hb.mono (by simp; omega))
  have hil : i ≤ n := hlow.le
  have HL := hid hlow
  clear hb hlow
  go_wp2_with fail
  go_loopg [11] (n - i) (fun gk s11 wr => ∃ j : Nat, gk = n - j ∧ s11 = .int .i64 (j : Nat) ∧ i ≤ j ∧ j ≤ n ∧ Below w.heap.size w wr ∧ Below w2.heap.size w2 wr ∧ (∀ k, i ≤ k → k < j → By (R k).nm = By name))
  case atStart => exact ⟨i, rfl, rfl, Nat.le_refl _, hil, HB2.out, Below.refl _ _, fun k h1 h2 => absurd h1 (by omega)⟩
  case round =>
    obtain ⟨j, rfl, rfl, hij, hjn, hB, hBB, hall⟩ := hrel
    have HB := hid hB
    have HBB := hid hBB
    have HAll := hid hall
    clear hB hBB hall
    by_cases hlt : j < n
    · have hltI : (j : Int) < (n : Int) := by omega
      rcases HSl.out with ⟨rfl, h, _⟩ | ⟨ba, off, rfl, hnc, hba, hcs⟩
      · omega
      · replace hcs := hcs.below HB.out hba j hlt
        have c0 : wr.cell? ⟨ba, off + j * 5, none⟩ = some (.string (R j).nm) := hcs 0 (by omega)
        have c1 : wr.cell? ⟨ba, off + j * 5 + 1, none⟩ = some (.int .i64 (R j).tx) := hcs 1 (by omega)
        have c2 : wr.cell? ⟨ba, off + j * 5 + 2, none⟩ = some (.int .i64 (R j).od) := hcs 2 (by omega)
        have c3 : wr.cell? ⟨ba, off + j * 5 + 3, none⟩ = some (.int .i64 (R j).rk) := hcs 3 (by omega)
        have c4 : wr.cell? ⟨ba, off + j * 5 + 4, none⟩ = some (.bool (R j).up) := hcs 4 (by omega)
        have cB : wr.cell? ⟨w.heap.size, 0, none⟩ = some (.string name) := (HBB.out.cell HBx.out.2).trans HBx.out.1
        have hBlt : w.heap.size < wr.heap.size := Nat.lt_of_lt_of_le HBx.out.2 HBB.out.size
        have CN := named98_any (R j) wr
        clear hcs
        have CC : ∀ w3, Below wr.heap.size wr w3 → Calls Try.prog 49 #[.string (R j).nm, .pointer (some ⟨w.heap.size, 0, none⟩)] w3 (fun e w' => e = .returned (.bool (decide (By (R j).nm = By name))) ∧ w' = w3) :=
          fun w3 h3 => eq49_any _ _ _ _ ((h3.cell hBlt).trans cB) 
        by_cases hq : By (R j).nm = By name
        · have HAll' : Hid (∀ k, i ≤ k → k < j + 1 → By (R k).nm = By name) := Run.grow (q := (fun k => By (R k).nm = By name)) hij hlt HAll.out hq
          rw [decide_eq_true hq] at CC
          clear hq HAll
          go_wp2_with (first | (go_at_call 98; refine CN.mono ?_; rintro e w3 ⟨rfl, hb3⟩) | (go_at_call 49; refine (CC _ hb3).mono ?_; rintro e w4 ⟨rfl, rfl⟩))
          go_roundg (n - (j + 1))
          case measure => omega
          case rel => exact ⟨j + 1, rfl, by go_num, by omega, by omega, HB.out.trans (hb3.mono HB.out.size), HBB.out.trans (hb3.mono HBB.out.size), HAll'.out⟩
        · have HR : Hid (Run (fun k => By (R k).nm = By name) n i j) := ⟨hij, hjn, HAll.out, fun _ => hq⟩
          rw [decide_eq_false hq] at CC
          clear hq HAll
          have hijI : (i : Int) ≤ (j : Int) := by omega
          have hjc : (j : Int) ≤ (c : Int) := by omega
          go_wp2_with (first | (go_at_call 98; refine CN.mono ?_; rintro e w3 ⟨rfl, hb3⟩) | (go_at_call 49; refine (CC _ hb3).mono ?_; rintro e w4 ⟨rfl, rfl⟩))
          go_ret
          exact ⟨i, j, _, _, hij, hjn, by omega, fun k hk => run_eq HA.out HL.out HR.out k hk, rfl, fun _ => ⟨ba, off, rfl, rfl⟩, HB.out.trans (hb3.mono HB.out.size)⟩
    · have hltI : ¬ (j : Int) < (n : Int) := by omega
      have HR : Hid (Run (fun k => By (R k).nm = By name) n i j) := ⟨hij, hjn, HAll.out, fun h => absurd h hlt⟩
      have hijI : (i : Int) ≤ (j : Int) := by omega
      clear hlt HAll
      rcases HSl.out with ⟨rfl, rfl, rfl⟩ | ⟨ba, off, rfl, hnc, hba, hcs⟩
      · obtain rfl : i = 0 := by omega
        obtain rfl : j = 0 := by omega
        go_wp2
        go_ret
        exact ⟨0, 0, _, _, Nat.le_refl _, Nat.le_refl _, by omega, fun k hk => run_eq HA.out HL.out HR.out k hk, rfl, fun h => absurd h (by omega), HB.out⟩
      · clear hcs
        have hjc : (j : Int) ≤ (c : Int) := by omega
        go_wp2
        all_goals
          go_ret
          first
          | exact ⟨i, j, _, _, hij, hjn, by omega, fun k hk => run_eq HA.out HL.out HR.out k hk, rfl, fun _ => ⟨ba, off, rfl, rfl⟩, HB.out⟩
          | exact ⟨i, j, _, _, hij, hjn, by omega, fun k hk => run_eq HA.out HL.out HR.out k hk, rfl, fun h => absurd h (by omega), HB.out⟩
end Go.Proofs.Qxb6612537a.U

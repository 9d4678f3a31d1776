import Derived.Test.Qxb6612537aLin
import Derived.OneCell
import Derived.Laws.OwnMore
namespace Go.Proofs.Qxb6612537a.U
open Go.RowKit Go.Proofs.Qxb6612537a.Plain
set_option linter.unusedVariables false
set_option linter.unusedSimpArgs false

def pair (a b : Value) (q : Nat) : Value := if q = 0 then a else b
theorem info70 : (Try.prog.info? 70).map (fun i => (i.zero, i.size, i.bytes)) = some (some (.agg #[.string ⟨#[]⟩, .string ⟨#[]⟩, .int .i64 0]), 3, 40) := by kernel_rfl
theorem info74 : (Try.prog.info? 74).map (fun i => (i.zero, i.size, i.bytes)) = some (some (.agg #[.string ⟨#[]⟩, .int .i64 0, .int .i64 0, .int .i64 0, .bool false]), 5, 48) := by kernel_rfl

def AddPost (LB base : Nat) (e : TypeId) (size n : Nat) (V : Value) (xs new : List Value) (f : Value → Nat → Value) (w : World) (en : Ending) (w' : World) : Prop :=
  en = .returned (.tuple #[]) ∧ ∃ V', w'.ownsRow base e size V' (n + 1) (xs ++ new) ∧ Row w' LB 30 2 (f V') ∧ Keeps (fun b => b = LB ∨ V.ownBlock = some b) w w'

theorem keeps_of_grown {S : Nat → Prop} {w W w1 : World} {row : Option Nat} (k : Keeps S w W) (hg : W.grownBy w1 row) (hr : ∀ b, row = some b → S b) : Keeps S w w1 :=
  k.grown hg (fun b e => .inl (hr b e))

set_option maxHeartbeats 1000000 in
theorem addHeld_any (LB base n : Nat) (V0 V1 : Value) (xs : List Value) (nm sv : ByteArray) (tx : Int) (w : World) (hr : Row w LB 30 2 (pair V0 V1)) (ho : w.ownsRow base 70 3 V0 n xs) (hb : base ≤ w.heap.size) (hn : n ≤ 4096) :
    Calls Try.prog 22 #[.pointer (some ⟨LB, 0, none⟩), .string nm, .string sv, .int .i64 tx] w (AddPost LB base 70 3 n V0 xs [.string nm, .string sv, .int .i64 tx] (fun V => pair V V1) w) := by
  obtain ⟨i0, hi0, hz0, hz1, hz2⟩ := info_parts info70
  have HR := hid hr
  have HO := hid ho
  have c0 : w.cell? ⟨LB, 0, none⟩ = some V0 := hr.cell (i := 0) (by omega)
  have fz := hr.frozen
  have hLB := hr.lt
  have hVne : V0.ownBlock ≠ some LB := own_ne ho hr (by decide)
  have cz : ∀ o, (w.alloc o).cell? ⟨LB, 0, none⟩ = some V0 := fun o => (World.cell?_alloc_lt _ _ _ hLB).trans c0
  have gz : ∀ o, (w.alloc o).frozen? ⟨LB, 0, none⟩ = false := fun o => (HR.out.alloc o).frozen 0
  clear hr
  go_enter Try.func22, Try.ntmps22
  go_wp2_with ((at_builtin; refine wpList_append_lies _ (by rfl) _ _ 27 (by rfl) base 70 i0 _ 3 40 Try.underlying27 hi0 hz0 hz1 hz2 rfl (by omega) V0 n xs (by rfl) (ho.alloc _) ⟨w.heap.size, 0, none⟩ 1 1 [.string nm, .string sv, .int .i64 tx] (by rfl) (by rfl) (World.news_of_block (cs := #[.string nm, .string sv, .int .i64 tx]) (t := 70) (fr := (0, 0)) (heap_alloc_new w _)) (by simp [Value.oneCell']) (by omega) (by simp [maxLen]; omega) (by omega) (by simp; omega) (w.heap.size + 1) (by simp) ?_; intro gg cap w1 hown1 hgrow hat hlt1; have hc1 := (hgrow.cell_far ⟨LB, 0, none⟩ (by simp; omega) (Ne.symm hVne)).trans (cz _); have hf1 := (hgrow.frozen_far ⟨LB, 0, none⟩ (by simp; omega) (Ne.symm hVne)).trans (gz _)))
  go_end0
  refine ⟨rfl, .slice (some ⟨gg, 0, none⟩) (n + 1) cap, ?_, ?_, ?_⟩
  · exact ownsRow_setCell_other hown1 (a := ⟨LB, 0, none⟩) (own_ne hown1 ((HR.out.alloc _).grown hgrow hVne) (by decide)) _
  · refine (((HR.out.alloc _).grown hgrow hVne).set 0 _).congr (fun q hq => ?_)
    by_cases e : q = 0 <;> simp [pair, e]
  · exact (((Keeps.refl _ w).alloc _).grown hgrow (fun b e => .inl (.inr e))).setCell (a := ⟨LB, 0, none⟩) (.inl (.inl rfl)) _
set_option maxHeartbeats 1000000 in
theorem addWaiting_any (LB base n : Nat) (V0 V1 : Value) (xs : List Value) (nm : ByteArray) (tx od rk : Int) (up : Bool) (w : World) (hr : Row w LB 30 2 (pair V0 V1)) (ho : w.ownsRow base 74 5 V1 n xs) (hb : base ≤ w.heap.size) (hn : n ≤ 4096) :
    Calls Try.prog 23 #[.pointer (some ⟨LB, 0, none⟩), .string nm, .int .i64 tx, .int .i64 od, .int .i64 rk, .bool up] w (AddPost LB base 74 5 n V1 xs [.string nm, .int .i64 tx, .int .i64 od, .int .i64 rk, .bool up] (fun V => pair V0 V) w) := by
  obtain ⟨i0, hi0, hz0, hz1, hz2⟩ := info_parts info74
  have HR := hid hr
  have HO := hid ho
  have c0 : w.cell? ⟨LB, 1, none⟩ = some V1 := hr.cell (i := 1) (by omega)
  have fz := hr.frozen
  have hLB := hr.lt
  have hVne : V1.ownBlock ≠ some LB := own_ne ho hr (by decide)
  have cz : ∀ o, (w.alloc o).cell? ⟨LB, 1, none⟩ = some V1 := fun o => (World.cell?_alloc_lt _ _ _ hLB).trans c0
  have gz : ∀ o, (w.alloc o).frozen? ⟨LB, 1, none⟩ = false := fun o => (HR.out.alloc o).frozen 1
  clear hr
  go_enter Try.func23, Try.ntmps23
  go_wp2_with ((at_builtin; refine wpList_append_lies _ (by rfl) _ _ 28 (by rfl) base 74 i0 _ 5 48 Try.underlying28 hi0 hz0 hz1 hz2 rfl (by omega) V1 n xs (by rfl) (ho.alloc _) ⟨w.heap.size, 0, none⟩ 1 1 [.string nm, .int .i64 tx, .int .i64 od, .int .i64 rk, .bool up] (by rfl) (by rfl) (World.news_of_block (cs := #[.string nm, .int .i64 tx, .int .i64 od, .int .i64 rk, .bool up]) (t := 74) (fr := (0, 0)) (heap_alloc_new w _)) (by simp [Value.oneCell']) (by omega) (by simp [maxLen]; omega) (by omega) (by simp; omega) (w.heap.size + 1) (by simp) ?_; intro gg cap w1 hown1 hgrow hat hlt1; have hc1 := (hgrow.cell_far ⟨LB, 1, none⟩ (by simp; omega) (Ne.symm hVne)).trans (cz _); have hf1 := (hgrow.frozen_far ⟨LB, 1, none⟩ (by simp; omega) (Ne.symm hVne)).trans (gz _)))
  go_end0
  refine ⟨rfl, .slice (some ⟨gg, 0, none⟩) (n + 1) cap, ?_, ?_, ?_⟩
  · exact ownsRow_setCell_other hown1 (a := ⟨LB, 1, none⟩) (own_ne hown1 ((HR.out.alloc _).grown hgrow hVne) (by decide)) _
  · refine (((HR.out.alloc _).grown hgrow hVne).set 1 _).congr (fun q hq => ?_)
    by_cases e : q = 1
    · simp [pair, e]
    · have e0 : q = 0 := by omega
      simp [pair, e0]
  · exact (((Keeps.refl _ w).alloc _).grown hgrow (fun b e => .inl (.inr e))).setCell (a := ⟨LB, 1, none⟩) (.inl (.inl rfl)) _
end Go.Proofs.Qxb6612537a.U

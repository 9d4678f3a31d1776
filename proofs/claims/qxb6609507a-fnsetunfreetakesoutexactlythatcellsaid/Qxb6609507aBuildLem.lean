import Derived.Test.Qxb6609507aBuildDefs
import Derived.Test.Qxb6609507aNewSet
import Derived.Test.Qxb6609507aTopoOK
namespace Go.Proofs.Qxb6609507a.U
open Go.RowKit Go.Proofs.Qxb6609507a.Plain
set_option linter.unusedVariables false

theorem info21 : (Try.prog.info? 21).map (fun i => (i.zero, i.size, i.bytes)) = some (some (.int .i32 0), 1, 4) := by kernel_rfl
theorem info4 : (Try.prog.info? 4).map (fun i => (i.zero, i.size, i.bytes)) = some (some (.bool false), 1, 1) := by kernel_rfl
theorem info45 : (Try.prog.info? 45).map (fun i => (i.zero, i.size, i.bytes)) = some (some (.int .i8 0), 1, 1) := by kernel_rfl

/-- What is known of the trees. -/
structure Trees (fan t : Nat → Nat) (M : Nat) : Prop where
  szle : ∀ l, l < 5 → sz fan l ≤ 2147483647
  fanle : ∀ l, fan l ≤ 65536
  top : ∀ j, j < M → t j ≤ 4
  pos : ∀ j, j < M → Pos fan (t j)
  all : off fan t M ≤ 65536
  few : M ≤ 65536

def BuildPost (fan t : Nat → Nat) (M : Nat) (w : World) (e : Ending) (w' : World) : Prop :=
  ∃ V : Nat → Value, e = .returned (.agg (((List.range 36).map (layC fan V)).toArray)) ∧ Below w.heap.size w w' ∧
    ∀ q, 11 ≤ q → q < 36 → Sl w' (V q) (ty q) (xsA fan t M (bs fan t M) (bs fan t M) (bs fan t M) (bs fan t M) M M M M M q).length (fun i => (xsA fan t M (bs fan t M) (bs fan t M) (bs fan t M) (bs fan t M) M M M M M q).getD i undef)

def xsT (fan t : Nat → Nat) (M j : Nat) : Nat → List Value := xsA fan t M (bs fan t j) (bs fan t j) (bs fan t j) (bs fan t j) j j j j j
/-- How many cells of each level there are when of tree j the levels below l and k cells of level l are laid. -/
def Lj (fan t : Nat → Nat) (j l k : Nat) : Nat → Nat := fun l' => if l' < l then bs fan t (j + 1) l' else if l' = l then bs fan t j l' + k else bs fan t j l'
def xsK (fan t : Nat → Nat) (M j l k : Nat) : Nat → List Value := xsA fan t M (Lj fan t j l k) (Lj fan t j l k) (Lj fan t j l k) (Lj fan t j l k) j j j j j

theorem row_of_lit (w : World) (b : Nat) (t : TypeId) (c : Array Value) (h : w.heap[b]? = some (.cells c t (0, 0))) (n : Nat) (hn : c.size = n) (f : Nat → Value) (hf : (List.range n).map f = c.toList) : Row w b t n f :=
  ⟨c, h, by omega, fun i hi => by
    rw [← Array.getElem?_toList, ← hf, List.getElem?_map, List.getElem?_range hi]; rfl⟩
theorem own_form {w : World} {base : Nat} {e : TypeId} {v : Value} {n : Nat} {xs : List Value} (h : w.ownsRow base e 1 v n xs) : ∃ a c, v = .slice a n c := by
  rcases h.2 with ⟨rfl, rfl⟩ | ⟨g, cap, cur, rfl, _⟩
  · exact ⟨none, 0, rfl⟩
  · exact ⟨_, cap, rfl⟩

theorem xsT_zero (fan t : Nat → Nat) (M q : Nat) : xsT fan t M 0 q = [] := by
  unfold xsT xsA
  split
  · rfl
  split
  · rfl
  split
  · rfl
  split
  · rfl
  split
  · rfl
  split
  · rfl
  split
  · rfl
  split
  · rfl
  split
  · rfl
  split
  · rfl
  · rfl
theorem Lj_zero (fan t : Nat → Nat) (j : Nat) : Lj fan t j 0 0 = bs fan t j := by
  funext l'
  unfold Lj
  rw [if_neg (by omega)]
  by_cases e : l' = 0
  · rw [if_pos e]; rfl
  · rw [if_neg e]
theorem Lj_next (fan t : Nat → Nat) (j l : Nat) : Lj fan t j l (cn fan (t j) l) = Lj fan t j (l + 1) 0 := by
  funext l'
  unfold Lj
  by_cases e : l' < l
  · rw [if_pos e, if_pos (by omega)]
  · rw [if_neg e]
    by_cases e2 : l' = l
    · subst e2
      rw [if_pos rfl, if_pos (by omega)]; rfl
    · rw [if_neg e2, if_neg (by omega)]
      by_cases e3 : l' = l + 1
      · rw [if_pos e3]; rfl
      · rw [if_neg e3]
theorem Lj_last (fan t : Nat → Nat) (j : Nat) : Lj fan t j (t j + 1) 0 = bs fan t (j + 1) := by
  funext l'
  unfold Lj
  by_cases e : l' < t j + 1
  · rw [if_pos e]
  · rw [if_neg e]
    have hz : cn fan (t j) l' = 0 := cn_out (by omega)
    by_cases e2 : l' = t j + 1
    · rw [if_pos e2]
      show bs fan t j l' + 0 = bs fan t j l' + cn fan (t j) l'
      rw [hz]
    · rw [if_neg e2]
      show bs fan t j l' = bs fan t j l' + cn fan (t j) l'
      rw [hz]; rfl
theorem Lj_at (fan t : Nat → Nat) (j l k : Nat) : Lj fan t j l k l = bs fan t j l + k := by
  unfold Lj; rw [if_neg (by omega), if_pos rfl]
theorem Lj_step (fan t : Nat → Nat) (j l k : Nat) : upN (Lj fan t j l k) l (Lj fan t j l k l + 1) = Lj fan t j l (k + 1) := by
  funext l'
  unfold upN
  by_cases e : l' = l
  · subst e; rw [if_pos rfl, Lj_at, Lj_at]; rfl
  · rw [if_neg e]
    unfold Lj
    by_cases e2 : l' < l
    · rw [if_pos e2, if_pos e2]
    · rw [if_neg e2, if_neg e2, if_neg e, if_neg e]
theorem lenF {fan t : Nat → Nat} {M : Nat} {LF LP LC LT : Nat → Nat} {jr jl jf jo jc l : Nat} (hl : l < 5) : (xsA fan t M LF LP LC LT jr jl jf jo jc (11 + l)).length = LF l := by rw [xsA_atF hl, List.length_map, List.length_range]
theorem lenP {fan t : Nat → Nat} {M : Nat} {LF LP LC LT : Nat → Nat} {jr jl jf jo jc l : Nat} (hl : l < 5) : (xsA fan t M LF LP LC LT jr jl jf jo jc (16 + l)).length = LP l := by rw [xsA_atP hl, List.length_map, List.length_range]
theorem lenC {fan t : Nat → Nat} {M : Nat} {LF LP LC LT : Nat → Nat} {jr jl jf jo jc l : Nat} (hl : l < 5) : (xsA fan t M LF LP LC LT jr jl jf jo jc (21 + l)).length = LC l := by rw [xsA_atC hl, List.length_map, List.length_range]
theorem lenT {fan t : Nat → Nat} {M : Nat} {LF LP LC LT : Nat → Nat} {jr jl jf jo jc l : Nat} (hl : l < 5) : (xsA fan t M LF LP LC LT jr jl jf jo jc (26 + l)).length = LT l := by rw [xsA_atT hl, List.length_map, List.length_range]
theorem ty21 {q : Nat} (h : q < 26) : ty q = 21 := if_pos h
theorem ty4 {q : Nat} (h1 : 26 ≤ q) (h2 : q < 31) : ty q = 4 := by unfold ty; rw [if_neg (by omega), if_pos h2]
theorem wrap_i64 {x : Int} (h0 : -9223372036854775808 ≤ x) (h1 : x ≤ 9223372036854775807) : IntKind.i64.wrap x = x := by rw [IntKind.wrap_i64]; omega
theorem wrap_i32 {x : Int} (h0 : -2147483648 ≤ x) (h1 : x ≤ 2147483647) : IntKind.i32.wrap x = x := by rw [IntKind.wrap_i32]; omega
theorem wrap_i8 {x : Int} (h0 : -128 ≤ x) (h1 : x ≤ 127) : IntKind.i8.wrap x = x := by
  have e : IntKind.i8.wrap x = if 128 ≤ x % 256 then x % 256 - 256 else x % 256 := by simp [IntKind.wrap, IntKind.bits, IntKind.signed]
  rw [e]; split <;> omega
theorem layC_V (fan : Nat → Nat) (V : Nat → Value) {q : Nat} (h : 11 ≤ q) : layC fan V q = V q := by unfold layC; rw [if_neg (by omega), if_neg (by omega)]

/-- What the walk wants of field q, ahead of an append to it. -/
theorem Lay.at {w : World} {B : Nat} {fan : Nat → Nat} {V : Nat → Value} {xs : Nat → List Value} {wr : World} (h : Lay w B fan V xs wr) {q : Nat} (h1 : 11 ≤ q) (h2 : q < 36) {e : TypeId} (he : ty q = e) {n : Nat} (hn : (xs q).length = n) :
    wr.ownsRow (B + 4) e 1 (V q) n (xs q) ∧ wr.cell? ⟨B + 1 + 1 + 1, q, none⟩ = some (V q) ∧ (∀ i, wr.frozen? ⟨B + 1 + 1 + 1, i, none⟩ = false) ∧ B + 1 + 1 + 1 < wr.heap.size ∧ (V q).ownBlock ≠ some (B + 1 + 1 + 1) ∧
    (∀ o, (wr.alloc o).cell? ⟨B + 1 + 1 + 1, q, none⟩ = some (V q)) ∧ (∀ o, (wr.alloc o).frozen? ⟨B + 1 + 1 + 1, q, none⟩ = false) ∧
    (∀ o, (wr.alloc o).drew.cell? ⟨B + 1 + 1 + 1, q, none⟩ = some (V q)) ∧ (∀ o, (wr.alloc o).drew.frozen? ⟨B + 1 + 1 + 1, q, none⟩ = false) := by
  subst he hn
  have own := h.own q h1 h2
  have cz : ∀ o, (wr.alloc o).cell? ⟨B + 1 + 1 + 1, q, none⟩ = some (V q) := fun o => ((h.mrow.alloc o).cell h2).trans (congrArg some (layC_V fan V h1))
  have fz : ∀ o, (wr.alloc o).frozen? ⟨B + 1 + 1 + 1, q, none⟩ = false := fun o => (h.mrow.alloc o).frozen _
  exact ⟨own, (h.mrow.cell h2).trans (congrArg some (layC_V fan V h1)), h.mrow.frozen, h.lt, fun e => by have := (own.lt _ e).1; omega, cz, fz, cz, fz⟩
theorem Lay.addF {w : World} {B : Nat} {fan t : Nat → Nat} {M : Nat} {V : Nat → Value} {LF LP LC LT : Nat → Nat} {jr jl jf jo jc l : Nat} {wr W w1 : World} (h : Lay w B fan V (xsA fan t M LF LP LC LT jr jl jf jo jc) wr) (hl : l < 5) (k : Keeps (fun _ => False) wr W) {n gg cap : Nat} {x : Int} (hn : LF l = n)
    (hown : w1.ownsRow (B + 4) 21 1 (.slice (some ⟨gg, 0, none⟩) (n + 1) cap) (n + 1) (xsA fan t M LF LP LC LT jr jl jf jo jc (11 + l) ++ [.int .i32 x])) (hx : x = ((F fan t M l (LF l) : Nat) : Int)) (hg : W.grownBy w1 (V (11 + l)).ownBlock) (hat : (V (11 + l)).ownBlock = some gg ∨ gg = wr.heap.size + 1)
    {BB : Nat} {f : Nat → Value} (hr : Row wr BB 24 5 f) (hBB : BB ≠ B + 1 + 1 + 1) :
    Lay w B fan (updV V (11 + l) (.slice (some ⟨gg, 0, none⟩) (n + 1) cap)) (xsA fan t M (upN LF l (LF l + 1)) LP LC LT jr jl jf jo jc) (w1.setCell ⟨B + 1 + 1 + 1, 11 + l, none⟩ (.slice (some ⟨gg, 0, none⟩) (n + 1) cap)) ∧
    Row (w1.setCell ⟨B + 1 + 1 + 1, 11 + l, none⟩ (.slice (some ⟨gg, 0, none⟩) (n + 1) cap)) BB 24 5 f := by
  subst hn hx
  have LN := h.app (q := 11 + l) (by omega) (by omega) k (by rw [ty21 (by omega)]; exact hown) (by rw [List.length_append, lenF hl]; rfl) hg (by rcases hat with h | h; exact .inl h; exact .inr (by omega))
  rw [xsA_F hl] at LN
  exact ⟨LN, h.appRow (by omega) (by omega) k hg hr (by decide) (by decide) (by decide) hBB _⟩
theorem Lay.addP {w : World} {B : Nat} {fan t : Nat → Nat} {M : Nat} {V : Nat → Value} {LF LP LC LT : Nat → Nat} {jr jl jf jo jc l : Nat} {wr W w1 : World} (h : Lay w B fan V (xsA fan t M LF LP LC LT jr jl jf jo jc) wr) (hl : l < 5) (k : Keeps (fun _ => False) wr W) {n gg cap : Nat} {x : Int} (hn : LP l = n)
    (hown : w1.ownsRow (B + 4) 21 1 (.slice (some ⟨gg, 0, none⟩) (n + 1) cap) (n + 1) (xsA fan t M LF LP LC LT jr jl jf jo jc (16 + l) ++ [.int .i32 x])) (hx : x = Pa fan t M l (LP l)) (hg : W.grownBy w1 (V (16 + l)).ownBlock) (hat : (V (16 + l)).ownBlock = some gg ∨ gg = wr.heap.size + 1)
    {BB : Nat} {f : Nat → Value} (hr : Row wr BB 24 5 f) (hBB : BB ≠ B + 1 + 1 + 1) :
    Lay w B fan (updV V (16 + l) (.slice (some ⟨gg, 0, none⟩) (n + 1) cap)) (xsA fan t M LF (upN LP l (LP l + 1)) LC LT jr jl jf jo jc) (w1.setCell ⟨B + 1 + 1 + 1, 16 + l, none⟩ (.slice (some ⟨gg, 0, none⟩) (n + 1) cap)) ∧
    Row (w1.setCell ⟨B + 1 + 1 + 1, 16 + l, none⟩ (.slice (some ⟨gg, 0, none⟩) (n + 1) cap)) BB 24 5 f := by
  subst hn hx
  have LN := h.app (q := 16 + l) (by omega) (by omega) k (by rw [ty21 (by omega)]; exact hown) (by rw [List.length_append, lenP hl]; rfl) hg (by rcases hat with h | h; exact .inl h; exact .inr (by omega))
  rw [xsA_P hl] at LN
  exact ⟨LN, h.appRow (by omega) (by omega) k hg hr (by decide) (by decide) (by decide) hBB _⟩
theorem Lay.addC {w : World} {B : Nat} {fan t : Nat → Nat} {M : Nat} {V : Nat → Value} {LF LP LC LT : Nat → Nat} {jr jl jf jo jc l : Nat} {wr W w1 : World} (h : Lay w B fan V (xsA fan t M LF LP LC LT jr jl jf jo jc) wr) (hl : l < 5) (k : Keeps (fun _ => False) wr W) {n gg cap : Nat} {x : Int} (hn : LC l = n)
    (hown : w1.ownsRow (B + 4) 21 1 (.slice (some ⟨gg, 0, none⟩) (n + 1) cap) (n + 1) (xsA fan t M LF LP LC LT jr jl jf jo jc (21 + l) ++ [.int .i32 x])) (hx : x = Ch fan t M l (LC l)) (hg : W.grownBy w1 (V (21 + l)).ownBlock) (hat : (V (21 + l)).ownBlock = some gg ∨ gg = wr.heap.size + 1)
    {BB : Nat} {f : Nat → Value} (hr : Row wr BB 24 5 f) (hBB : BB ≠ B + 1 + 1 + 1) :
    Lay w B fan (updV V (21 + l) (.slice (some ⟨gg, 0, none⟩) (n + 1) cap)) (xsA fan t M LF LP (upN LC l (LC l + 1)) LT jr jl jf jo jc) (w1.setCell ⟨B + 1 + 1 + 1, 21 + l, none⟩ (.slice (some ⟨gg, 0, none⟩) (n + 1) cap)) ∧
    Row (w1.setCell ⟨B + 1 + 1 + 1, 21 + l, none⟩ (.slice (some ⟨gg, 0, none⟩) (n + 1) cap)) BB 24 5 f := by
  subst hn hx
  have LN := h.app (q := 21 + l) (by omega) (by omega) k (by rw [ty21 (by omega)]; exact hown) (by rw [List.length_append, lenC hl]; rfl) hg (by rcases hat with h | h; exact .inl h; exact .inr (by omega))
  rw [xsA_C hl] at LN
  exact ⟨LN, h.appRow (by omega) (by omega) k hg hr (by decide) (by decide) (by decide) hBB _⟩
theorem Lay.addT {w : World} {B : Nat} {fan t : Nat → Nat} {M : Nat} {V : Nat → Value} {LF LP LC LT : Nat → Nat} {jr jl jf jo jc l : Nat} {wr W w1 : World} (h : Lay w B fan V (xsA fan t M LF LP LC LT jr jl jf jo jc) wr) (hl : l < 5) (k : Keeps (fun _ => False) wr W) {n gg cap : Nat} {x : Bool} (hn : LT l = n)
    (hown : w1.ownsRow (B + 4) 4 1 (.slice (some ⟨gg, 0, none⟩) (n + 1) cap) (n + 1) (xsA fan t M LF LP LC LT jr jl jf jo jc (26 + l) ++ [.bool x])) (hx : x = Tp fan t M l (LT l)) (hg : W.grownBy w1 (V (26 + l)).ownBlock) (hat : (V (26 + l)).ownBlock = some gg ∨ gg = wr.heap.size + 1)
    {BB : Nat} {f : Nat → Value} (hr : Row wr BB 24 5 f) (hBB : BB ≠ B + 1 + 1 + 1) :
    Lay w B fan (updV V (26 + l) (.slice (some ⟨gg, 0, none⟩) (n + 1) cap)) (xsA fan t M LF LP LC (upN LT l (LT l + 1)) jr jl jf jo jc) (w1.setCell ⟨B + 1 + 1 + 1, 26 + l, none⟩ (.slice (some ⟨gg, 0, none⟩) (n + 1) cap)) ∧
    Row (w1.setCell ⟨B + 1 + 1 + 1, 26 + l, none⟩ (.slice (some ⟨gg, 0, none⟩) (n + 1) cap)) BB 24 5 f := by
  subst hn hx
  have LN := h.app (q := 26 + l) (by omega) (by omega) k (by rw [ty4 (by omega) (by omega)]; exact hown) (by rw [List.length_append, lenT hl]; rfl) hg (by rcases hat with h | h; exact .inl h; exact .inr (by omega))
  rw [xsA_T hl] at LN
  exact ⟨LN, h.appRow (by omega) (by omega) k hg hr (by decide) (by decide) (by decide) hBB _⟩
end Go.Proofs.Qxb6609507a.U

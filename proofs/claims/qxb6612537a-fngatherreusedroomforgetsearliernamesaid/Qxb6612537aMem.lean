import Derived.Test.Qxb6612537aRows
import Derived.WalkKit
import Derived.ProofKit
import Derived.Deep.OwnRows
import Derived.WalkLawsBesides
import Derived.WalkSpells
import Derived.BigQuiet
import Derived.Deep.LoopGhost
import Derived.Deep.AppendLies
import Derived.Outline
/-! WORDS ON MEMORY: a row known by its first n cells; a world that is another but for some blocks. -/
namespace Go.Proofs.Qxb6612537a.U
open Go.RowKit
set_option linter.unusedVariables false

/-- w' is w but for the blocks of S (and new ones). -/
structure Keeps (S : Nat → Prop) (w w' : World) : Prop where
  os : w'.os = w.os
  tape : w'.tape = w.tape
  output : w'.output = w.output
  size : w.heap.size ≤ w'.heap.size
  block : ∀ k, k < w.heap.size → ¬ S k → w'.heap[k]? = w.heap[k]?
namespace Keeps
variable {S : Nat → Prop} {w w' w'' : World}
theorem refl (S : Nat → Prop) (w : World) : Keeps S w w := ⟨rfl, rfl, rfl, Nat.le_refl _, fun _ _ _ => rfl⟩
theorem trans (h : Keeps S w w') (k : Keeps S w' w'') : Keeps S w w'' :=
  ⟨k.os.trans h.os, k.tape.trans h.tape, k.output.trans h.output, Nat.le_trans h.size k.size, fun i hi hs => (k.block i (Nat.lt_of_lt_of_le hi h.size) hs).trans (h.block i hi hs)⟩
theorem alloc (h : Keeps S w w') (o : Obj) : Keeps S w (w'.alloc o) :=
  h.trans ⟨rfl, rfl, rfl, by simp, fun k hk _ => Below.heap_alloc _ _ _ hk⟩
theorem setCell (h : Keeps S w w') {a : Addr} (ha : S a.block ∨ w.heap.size ≤ a.block) (v : Value) : Keeps S w (w'.setCell a v) :=
  ⟨h.os, h.tape, h.output, by simpa [World.setCell] using h.size, fun k hk hs => (Below.heap_setCell _ _ _ _ (by
    rintro rfl
    rcases ha with ha | ha
    · exact hs ha
    · omega)).trans (h.block k hk hs)⟩
theorem setCells {b : Nat} (ha : S b ∨ w.heap.size ≤ b) : ∀ (vs : List Value) (o : Nat) (w' : World), Keeps S w w' → Keeps S w (w'.setCells b o vs)
  | [], _, _, h => h
  | v :: r, o, w', h => setCells ha r (o + 1) _ (h.setCell (a := ⟨b, o, none⟩) ha v)
theorem drewN (h : Keeps S w w') (n : Nat) : Keeps S w (w'.drewN n) := ⟨h.os, h.tape, h.output, h.size, h.block⟩
theorem drew (h : Keeps S w w') : Keeps S w w'.drew := ⟨h.os, h.tape, h.output, h.size, h.block⟩
theorem of_below (h : Below w.heap.size w w') : Keeps S w w' := ⟨h.os, h.tape, h.output, h.size, fun k hk _ => h.block k hk⟩
theorem below (h : Keeps S w w') {B : Nat} (hB : B ≤ w.heap.size) (hs : ∀ k, S k → B ≤ k) : Below B w w' :=
  ⟨h.os, h.tape, h.output, h.size, fun k hk => h.block k (by omega) (fun s => by have := hs k s; omega)⟩
theorem more {S' : Nat → Prop} (h : Keeps S w w') (hs : ∀ k, S k → S' k ∨ w.heap.size ≤ k) : Keeps S' w w' := ⟨h.os, h.tape, h.output, h.size, fun k hk n => h.block k hk fun s => by
  rcases hs k s with h1 | h1
  · exact n h1
  · omega⟩
theorem grown (h : Keeps S w w') {row : Option Nat} (hg : w'.grownBy w'' row) (hr : ∀ k, row = some k → S k ∨ w.heap.size ≤ k) : Keeps S w w'' :=
  ⟨hg.os.trans h.os, hg.tape.trans h.tape, hg.output.trans h.output, Nat.le_trans h.size hg.size, fun k hk hs => by
    refine (hg.block k (Nat.lt_of_lt_of_le hk h.size) fun e => ?_).trans (h.block k hk hs)
    rcases hr k e.symm with h1 | h1
    · exact hs h1
    · omega⟩
end Keeps

/-- The first n cells of block b, a row of type t that may be written, are f's. -/
def Row (w : World) (b : Nat) (t : TypeId) (n : Nat) (f : Nat → Value) : Prop :=
  ∃ c : Array Value, w.heap[b]? = some (.cells c t (0, 0)) ∧ n ≤ c.size ∧ ∀ i, i < n → c[i]? = some (f i)
namespace Row
variable {w w' : World} {b : Nat} {t : TypeId} {n : Nat} {f g : Nat → Value}
theorem cell (h : Row w b t n f) {i : Nat} (hi : i < n) : w.cell? ⟨b, i, none⟩ = some (f i) := by
  obtain ⟨c, hb, _, hc⟩ := h
  simp [World.cell?, hb, hc i hi]
theorem frozen (h : Row w b t n f) (i : Nat) : w.frozen? ⟨b, i, none⟩ = false := by
  obtain ⟨c, hb, _, _⟩ := h
  simp [World.frozen?, hb]
theorem lt (h : Row w b t n f) : b < w.heap.size := by
  obtain ⟨c, hb, _, _⟩ := h
  exact (Array.getElem?_eq_some_iff.1 hb).1
theorem congr (h : Row w b t n f) (e : ∀ i, i < n → f i = g i) : Row w b t n g := by
  obtain ⟨c, hb, hn, hc⟩ := h
  exact ⟨c, hb, hn, fun i hi => by rw [hc i hi, e i hi]⟩
theorem less (h : Row w b t n f) {m : Nat} (hm : m ≤ n) : Row w b t m f := by
  obtain ⟨c, hb, hn, hc⟩ := h
  exact ⟨c, hb, by omega, fun i hi => hc i (by omega)⟩
theorem of_block (h : Row w b t n f) (e : w'.heap[b]? = w.heap[b]?) : Row w' b t n f := by
  obtain ⟨c, hb, hn, hc⟩ := h
  exact ⟨c, e.trans hb, hn, hc⟩
theorem set (h : Row w b t n f) (i : Nat) (v : Value) : Row (w.setCell ⟨b, i, none⟩ v) b t n (fun j => if j = i then v else f j) := by
  obtain ⟨c, hb, hn, hc⟩ := h
  refine ⟨c.setIfInBounds i v, ?_, by simpa using hn, fun j hj => ?_⟩
  · simp [World.setCell, Array.getElem?_modify, hb]
  · rw [Array.getElem?_setIfInBounds]
    by_cases e : j = i
    · subst e
      rw [if_pos rfl, if_pos (by omega)]
      show _ = some (if j = j then v else f j)
      rw [if_pos rfl]
    · rw [if_neg (fun h => e h.symm)]
      show c[j]? = some (if j = i then v else f j)
      rw [if_neg e]
      exact hc j hj
theorem setOther (h : Row w b t n f) {a : Addr} (ha : b ≠ a.block) (v : Value) : Row (w.setCell a v) b t n f := h.of_block (Go.Deep.blk_setCell_other _ _ _ _ ha)
theorem alloc (h : Row w b t n f) (o : Obj) : Row (w.alloc o) b t n f := h.of_block (Go.Deep.blk_alloc_lt _ _ _ h.lt)
theorem drewN (h : Row w b t n f) (m : Nat) : Row (w.drewN m) b t n f := h
theorem drew (h : Row w b t n f) : Row w.drew b t n f := h
theorem ne {b' : Nat} {t' : TypeId} {n' : Nat} (h : Row w b t n f) (h' : Row w b' t' n' g) (ht : t ≠ t') : b ≠ b' := by
  rintro rfl
  obtain ⟨c, hb, _⟩ := h
  obtain ⟨c', hb', _⟩ := h'
  rw [hb] at hb'
  simp only [Option.some.injEq, Obj.cells.injEq] at hb'
  exact ht hb'.2.1
theorem of_rowIs (h : w.rowIs b t n f) : Row w b t n f := by
  obtain ⟨c, hb, hn, hc⟩ := h
  exact ⟨c, hb, by omega, hc⟩
theorem setCells : ∀ (vs : List Value) (o : Nat) (w : World) (f : Nat → Value), Row w b t n f →
    Row (w.setCells b o vs) b t n (fun j => if o ≤ j ∧ j < o + vs.length then vs.getD (j - o) undef else f j)
  | [], o, w, f, h => by
    refine h.congr fun i hi => ?_
    show f i = if o ≤ i ∧ i < o + 0 then _ else f i
    rw [if_neg (by omega)]
  | v :: r, o, w, f, h => by
    refine (setCells r (o + 1) _ _ (h.set o v)).congr fun i hi => ?_
    show (if o + 1 ≤ i ∧ i < o + 1 + r.length then r.getD (i - (o + 1)) undef else if i = o then v else f i) = if o ≤ i ∧ i < o + (r.length + 1) then (v :: r).getD (i - o) undef else f i
    by_cases e : i = o
    · subst e
      rw [if_neg (by omega), if_pos rfl, if_pos (by omega), Nat.sub_self]; rfl
    · rw [if_neg e]
      by_cases e2 : o + 1 ≤ i ∧ i < o + 1 + r.length
      · rw [if_pos e2, if_pos (by omega), show i - o = (i - (o + 1)) + 1 by omega, List.getD_cons_succ]
      · rw [if_neg e2, if_neg (by omega)]
theorem setCellsOther {b' : Nat} (hne : b ≠ b') : ∀ (vs : List Value) (o : Nat) (w : World), Row w b t n f → Row (w.setCells b' o vs) b t n f
  | [], _, _, h => h
  | v :: r, o, w, h => setCellsOther hne r (o + 1) _ (h.setOther (a := ⟨b', o, none⟩) hne v)
theorem new (w : World) (c : Array Value) (t : TypeId) (f : Nat → Value) (hc : ∀ i, i < c.size → c[i]? = some (f i)) : Row (w.alloc (.cells c t)) w.heap.size t c.size f :=
  ⟨c, Go.Deep.blk_alloc_new _ _, Nat.le_refl _, hc⟩
theorem new2 (w : World) (o : Obj) (c : Array Value) (t : TypeId) (f : Nat → Value) (hc : ∀ i, i < c.size → c[i]? = some (f i)) : Row ((w.alloc o).alloc (.cells c t)) (w.heap.size + 1) t c.size f := by
  have h := new (w.alloc o) c t f hc
  rwa [Go.Deep.nblk_alloc] at h
theorem made (w : World) (z : Array Value) (n : Nat) (t : TypeId) (f : Nat → Value) (hz : 0 < z.size) (hf : ∀ j, j < z.size → z[j]? = some (f j)) :
    Row (w.alloc (.cells (madeCells z n) t)) w.heap.size t n (fun i => f (i % z.size)) :=
  ⟨_, Go.Deep.blk_alloc_new _ _, by rw [size_madeCells]; exact Nat.le_refl _, fun i hi => by
    have hlt : i % z.size < z.size := Nat.mod_lt _ hz
    have h := hf (i % z.size) hlt
    rw [Array.getElem?_eq_getElem hlt] at h
    simp only [Option.some.injEq] at h
    simp [madeCells, hi, hlt, h]⟩
theorem keeps {S : Nat → Prop} (h : Row w b t n f) (k : Keeps S w w') (hs : ¬ S b) : Row w' b t n f := h.of_block (k.block b h.lt hs)
theorem below {B : Nat} (h : Row w b t n f) (k : Below B w w') (hb : b < B) : Row w' b t n f := h.of_block (k.block b hb)
/-- What a slice of the call's own holds. -/
theorem of_own {base : Nat} {e : TypeId} {xs : List Value} {g cap : Nat} (h : w.ownsRow base e 1 (.slice (some ⟨g, 0, none⟩) n cap) n xs) : Row w g e n (fun i => xs.getD i undef) := by
  obtain ⟨hl, h | ⟨g', cap', cur, hv, _, hg, hn, _, hc, ht⟩⟩ := h
  · exact absurd h.1 (by simp)
  · simp only [Value.slice.injEq, Option.some.injEq, Addr.mk.injEq] at hv
    obtain ⟨⟨rfl, _, _⟩, _, rfl⟩ := hv
    refine ⟨cur, hg, by omega, fun i hi => ?_⟩
    have hi2 : i < xs.length := by omega
    show cur[i]? = some (xs.getD i undef)
    rw [List.getD_eq_getElem?_getD, List.getElem?_eq_getElem hi2, Option.getD_some, ← Array.getElem?_toList, ← List.getElem?_eq_getElem hi2, ← ht, List.getElem?_take]
    rw [if_pos (by omega)]
end Row

theorem own_ne {w : World} {base : Nat} {e t : TypeId} {v : Value} {n m size : Nat} {xs : List Value} {b : Nat} {f : Nat → Value} (h : w.ownsRow base e size v n xs) (hr : Row w b t m f) (ht : e ≠ t) : v.ownBlock ≠ some b := by
  intro hb
  obtain ⟨_, h | ⟨g, cap, cur, hv, _, hg, _⟩⟩ := h
  · rw [h.1] at hb; cases hb
  · rw [hv] at hb
    have hgb : g = b := by simpa [Value.ownBlock] using hb
    subst hgb
    obtain ⟨c, hc, _⟩ := hr
    rw [hg] at hc
    simp only [Option.some.injEq, Obj.cells.injEq] at hc
    exact ht hc.2.1
theorem Row.grown {w w' : World} {b : Nat} {t : TypeId} {n : Nat} {f : Nat → Value} {row : Option Nat} (h : Row w b t n f) (hg : w.grownBy w' row) (hne : row ≠ some b) : Row w' b t n f :=
  h.of_block (hg.block b h.lt (Ne.symm hne))

/-- A slice value of n elements of one cell each that begins at its block's head; f: what it holds. -/
def Sl (w : World) (v : Value) (t : TypeId) (n : Nat) (f : Nat → Value) : Prop :=
  ∃ (a : Option Addr) (c : Nat), v = .slice a n c ∧ (0 < n → ∃ g, a = some ⟨g, 0, none⟩ ∧ Row w g t n f)
theorem Sl.below {w w' : World} {v : Value} {t : TypeId} {n : Nat} {f : Nat → Value} (h : Sl w v t n f) (k : Below w.heap.size w w') : Sl w' v t n f := by
  obtain ⟨a, c, hv, h2⟩ := h
  refine ⟨a, c, hv, fun h0 => ?_⟩
  obtain ⟨g, hg, hr⟩ := h2 h0
  exact ⟨g, hg, hr.below k hr.lt⟩
theorem Sl.of_own {w : World} {base : Nat} {e : TypeId} {v : Value} {n : Nat} {xs : List Value} (h : w.ownsRow base e 1 v n xs) : Sl w v e n (fun i => xs.getD i undef) := by
  rcases h.2 with ⟨rfl, rfl⟩ | ⟨g, cap, cur, rfl, _⟩
  · exact ⟨none, 0, rfl, fun h0 => absurd h0 (Nat.lt_irrefl _)⟩
  · exact ⟨_, cap, rfl, fun _ => ⟨g, rfl, Row.of_own h⟩⟩

theorem ret_bool {a b : Bool} (h : a = b) : Ending.returned (.bool a) = .returned (.bool b) := by rw [h]
theorem beqT {a b : Nat} (h : a = b) : (((a : Nat) : Int) == ((b : Nat) : Int)) = true := by subst h; simp
theorem beqF {a b : Nat} (h : a ≠ b) : (((a : Nat) : Int) == ((b : Nat) : Int)) = false := by
  cases e : (((a : Nat) : Int) == ((b : Nat) : Int))
  · rfl
  · have := eq_of_beq e; omega

/-- make([]T, n), T of whatever size. -/
theorem run_make_rows {P : Program} (t e : TypeId) (z : Value) (size bytes : Nat) (ht : P.underlying t = some (.slice e)) (hinfo : (P.info? e).map (fun i => (i.zero, i.size, i.bytes)) = some (some z, size, bytes))
    (kl kc : IntKind) (n : Nat) (hbytes : bytes * n ≤ 281474976710656) (h63 : n ≤ 9223372036854775807) (w : World) :
    (Instr.makeSlice t (.int kl (n : Int)) (.int kc (n : Int))).run P w = .ok (.slice (some ⟨w.heap.size, 0, none⟩) n n) (w.alloc (.cells (madeCells z.cells (n * size)) e)) := by
  obtain ⟨i, hi, hzz⟩ := Option.map_eq_some_iff.1 hinfo
  simp only [Prod.mk.injEq] at hzz
  obtain ⟨hz, hs, hb⟩ := hzz
  have hb' : (i.bytes : Int) * (n : Int) ≤ 281474976710656 := by
    have h : ((i.bytes * n : Nat) : Int) ≤ 281474976710656 := by rw [hb]; omega
    rwa [Int.natCast_mul] at h
  have hr := run_make (P := P) w t e i z ht hi hz kl kc n n (by omega) (Int.le_refl _) hb' (by omega)
  simp only [Int.toNat_natCast, hs] at hr
  exact hr

end Go.Proofs.Qxb6612537a.U

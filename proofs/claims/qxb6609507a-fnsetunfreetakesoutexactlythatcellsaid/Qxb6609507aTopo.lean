import Derived.Test.Qxb6609507aMem
import Derived.Test.Qxb6609507aPlain
namespace Go.Proofs.Qxb6609507a.U
open Go.RowKit Go.Proofs.Qxb6609507a.Plain
set_option linter.unusedVariables false

/-- The children of a cell of each level. -/
def fanOf (g p s n : Nat) : Nat → Nat
  | 1 => g
  | 2 => p
  | 3 => s
  | 4 => n
  | _ => 0
/-- Counts that the law lets by. -/
structure Small (g p s n : Nat) : Prop where
  g0 : 1 ≤ g
  g1 : g ≤ 65536
  p0 : 1 ≤ p
  p1 : p ≤ 65536
  s0 : 1 ≤ s
  s1 : s ≤ 65536
  n1 : n ≤ 65536
  m3 : g * p * s ≤ 2147483647
  m4 : g * p * s * n ≤ 2147483647
theorem sz_0 (g p s n : Nat) : sz (fanOf g p s n) 0 = 1 := rfl
theorem sz_1 (g p s n : Nat) : sz (fanOf g p s n) 1 = g := Nat.one_mul g
theorem sz_2 (g p s n : Nat) : sz (fanOf g p s n) 2 = g * p := by show sz (fanOf g p s n) 1 * p = _; rw [sz_1]
theorem sz_3 (g p s n : Nat) : sz (fanOf g p s n) 3 = g * p * s := by show sz (fanOf g p s n) 2 * s = _; rw [sz_2]
theorem sz_4 (g p s n : Nat) : sz (fanOf g p s n) 4 = g * p * s * n := by show sz (fanOf g p s n) 3 * n = _; rw [sz_3]
theorem Small.m2 {g p s n : Nat} (h : Small g p s n) : g * p ≤ 2147483647 := Nat.le_trans (Nat.le_mul_of_pos_right _ h.s0) h.m3
theorem Small.sz_le {g p s n : Nat} (h : Small g p s n) (l : Nat) (hl : l < 5) : sz (fanOf g p s n) l ≤ 2147483647 := by
  match l, hl with
  | 0, _ => exact (by decide : 1 ≤ 2147483647)
  | 1, _ => rw [sz_1]; have := h.g1; omega
  | 2, _ => rw [sz_2]; exact h.m2
  | 3, _ => rw [sz_3]; exact h.m3
  | 4, _ => rw [sz_4]; exact h.m4
theorem Small.fan_le {g p s n : Nat} (h : Small g p s n) (l : Nat) : fanOf g p s n l ≤ 65536 := by
  unfold fanOf
  have := h.g1; have := h.p1; have := h.s1; have := h.n1
  split <;> omega

/-- The numbers of a row of int64. -/
def i64s (f : Nat → Nat) (l : Nat) : Value := .int .i64 (f l)

def topoV (g p s n : Nat) : Value := .agg #[.int .i64 g, .int .i64 p, .int .i64 s, .int .i64 n]
def topoB (g p s n : Nat) : Obj := .cells #[.int .i64 g, .int .i64 p, .int .i64 s, .int .i64 n] 38

theorem ret_i64 {a b : Int} (h : a = b) : Ending.returned (.int .i64 a) = .returned (.int .i64 b) := by rw [h]

theorem size_any (g p s n l : Nat) (w : World) (h : Small g p s n) (hl : l < 5) :
    Calls Try.prog 50 #[.agg #[.int .i64 g, .int .i64 p, .int .i64 s, .int .i64 n], .int .i8 l] w fun e w' => e = .returned (.int .i64 (sz (fanOf g p s n) l)) ∧ w' = w.alloc (topoB g p s n) := by
  have m2 : (g : Int) * p ≤ 2147483647 := by have := h.m2; rw [← Int.natCast_mul]; omega
  have m3 : (g : Int) * p * s ≤ 2147483647 := by have := h.m3; rw [← Int.natCast_mul, ← Int.natCast_mul]; omega
  have m4 : (g : Int) * p * s * n ≤ 2147483647 := by have := h.m4; rw [← Int.natCast_mul, ← Int.natCast_mul, ← Int.natCast_mul]; omega
  have z2 : 0 ≤ (g : Int) * p := by rw [← Int.natCast_mul]; omega
  have z3 : 0 ≤ (g : Int) * p * s := by rw [← Int.natCast_mul, ← Int.natCast_mul]; omega
  have z4 : 0 ≤ (g : Int) * p * s * n := by rw [← Int.natCast_mul, ← Int.natCast_mul, ← Int.natCast_mul]; omega
  obtain ⟨g0, g1, p0, p1, s0, s1, n1, _, _⟩ := h
  match l, hl with
  | 0, _ =>
    show Calls Try.prog 50 #[_, .int .i8 0] w _
    go_enter Try.func50, Try.ntmps50
    go_wp2
    go_ret
    exact ⟨rfl, rfl⟩
  | 1, _ =>
    show Calls Try.prog 50 #[_, .int .i8 1] w _
    go_enter Try.func50, Try.ntmps50
    go_wp2
    go_ret
    exact ⟨ret_i64 (by rw [sz_1]), rfl⟩
  | 2, _ =>
    show Calls Try.prog 50 #[_, .int .i8 2] w _
    go_enter Try.func50, Try.ntmps50
    go_wp2
    go_ret
    exact ⟨ret_i64 (by rw [sz_2]; simp), rfl⟩
  | 3, _ =>
    show Calls Try.prog 50 #[_, .int .i8 3] w _
    go_enter Try.func50, Try.ntmps50
    go_wp2
    go_ret
    exact ⟨ret_i64 (by rw [sz_3]; simp), rfl⟩
  | 4, _ =>
    show Calls Try.prog 50 #[_, .int .i8 4] w _
    go_enter Try.func50, Try.ntmps50
    go_wp2
    go_ret
    exact ⟨ret_i64 (by rw [sz_4]; simp), rfl⟩

theorem fanout_any (g p s n l : Nat) (w : World) (h : Small g p s n) (hl : l < 5) :
    Calls Try.prog 51 #[.agg #[.int .i64 g, .int .i64 p, .int .i64 s, .int .i64 n], .int .i8 l] w fun e w' => e = .returned (.int .i64 (fanOf g p s n l)) ∧ w' = w.alloc (topoB g p s n) := by
  clear h
  match l, hl with
  | 0, _ =>
    show Calls Try.prog 51 #[_, .int .i8 0] w _
    go_enter Try.func51, Try.ntmps51
    go_wp2
    go_ret
    exact ⟨rfl, rfl⟩
  | 1, _ =>
    show Calls Try.prog 51 #[_, .int .i8 1] w _
    go_enter Try.func51, Try.ntmps51
    go_wp2
    go_ret
    exact ⟨rfl, rfl⟩
  | 2, _ =>
    show Calls Try.prog 51 #[_, .int .i8 2] w _
    go_enter Try.func51, Try.ntmps51
    go_wp2
    go_ret
    exact ⟨rfl, rfl⟩
  | 3, _ =>
    show Calls Try.prog 51 #[_, .int .i8 3] w _
    go_enter Try.func51, Try.ntmps51
    go_wp2
    go_ret
    exact ⟨rfl, rfl⟩
  | 4, _ =>
    show Calls Try.prog 51 #[_, .int .i8 4] w _
    go_enter Try.func51, Try.ntmps51
    go_wp2
    go_ret
    exact ⟨rfl, rfl⟩

theorem topo_any (g p s n : Nat) (w : World) : Calls Try.prog 11 #[.int .i64 g, .int .i64 p, .int .i64 s, .int .i64 n] w fun e w' => e = .returned (.agg #[.int .i64 g, .int .i64 p, .int .i64 s, .int .i64 n]) ∧ Below w.heap.size w w' := by
  go_enter Try.func11, Try.ntmps11
  go_wp2
  exact bodyPost_ret (v := .agg #[.int .i64 g, .int .i64 p, .int .i64 s, .int .i64 n]) (by simp [results, Try.results11, go_sem]) rfl ⟨rfl, (Below.refl _ _).alloc (Nat.le_refl _) _⟩

/-- The levels that came in. -/
def Tops (w : World) (a : Option Addr) (m : Nat) (t : Nat → Int) : Prop :=
  0 < m → ∃ b off, a = some ⟨b, off, none⟩ ∧ b < w.heap.size ∧ ∀ i, i < m → w.cell? ⟨b, off + i, none⟩ = some (.int .i8 (t i))
theorem Tops.below {w w' : World} {a : Option Addr} {m : Nat} {t : Nat → Int} (h : Tops w a m t) (hb : Below w.heap.size w w') : Tops w' a m t := fun h0 => by
  obtain ⟨b, off, h1, h2, h3⟩ := h h0
  exact ⟨b, off, h1, Nat.lt_of_lt_of_le h2 hb.size, fun i hi => (hb.cell (by exact h2)).trans (h3 i hi)⟩

theorem info48 : (Try.prog.info? 48).map (fun i => (i.zero, i.size, i.bytes)) = some (some (.int .i8 0), 1, 1) := by kernel_rfl

def LevelsPost (m : Nat) (t : Nat → Int) (w : World) (e : Ending) (w' : World) : Prop :=
  e = .returned (.slice (some ⟨w.heap.size, 0, none⟩) m m) ∧ Below w.heap.size w w' ∧ Row w' w.heap.size 48 m (fun i => .int .i8 (t i))
def upTo (z : Nat → Int) (k : Nat) (i : Nat) : Int := if i < k then z i else 0
theorem upTo_step (z : Nat → Int) (k j : Nat) : (if j = k then Value.int .i8 (z k) else .int .i8 (upTo z k j)) = .int .i8 (upTo z (k + 1) j) := by
  unfold upTo
  by_cases e : j = k
  · subst e; rw [if_pos rfl, if_pos (by omega)]
  · rw [if_neg e]
    by_cases e2 : j < k
    · rw [if_pos e2, if_pos (by omega)]
    · rw [if_neg e2, if_neg (by omega)]

set_option maxHeartbeats 400000 in
theorem levels_any (a : Option Addr) (m c : Nat) (t : Nat → Int) (w : World) (hm : m ≤ 65536) (ht : Tops w a m t) : Calls Try.prog 12 #[.slice a m c] w (LevelsPost m t w) := by
  have hmk := run_make_rows (P := Try.prog) 40 48 (.int .i8 0) 1 1 Try.underlying40 info48 .i64 .i64 m (by omega) (by omega)
  simp only [Value.cells, Nat.mul_one] at hmk
  have HT : Hid (Tops w a m t) := ht
  clear ht
  go_enter Try.func12, Try.ntmps12
  go_wp2
  go_loopw [4] (fun i wr => ∃ k : Nat, k ≤ m ∧ i = .int .i64 k ∧ Row wr w.heap.size 48 m (fun j => .int .i8 (upTo t k j)) ∧ Below w.heap.size w wr) (fun i _ => m - (intOf i).toNat)
  case atStart =>
    refine ⟨0, Nat.zero_le _, rfl, ?_, (Below.refl _ _).alloc (Nat.le_refl _) _⟩
    refine (Row.made w #[.int .i8 0] m 48 (fun _ => .int .i8 0) (by decide) (fun j hj => ?_)).congr (fun i _ => by simp [upTo])
    have : j = 0 := by simpa using hj
    subst this; rfl
  case round =>
    obtain ⟨k, hk, rfl, hrow, hbel⟩ := hrel
    have HB : Hid (Below w.heap.size w wr) := hbel
    have HR : Hid (Row wr w.heap.size 48 m (fun j => .int .i8 (upTo t k j))) := hrow
    clear hmk hbel hrow
    by_cases hlt : k < m
    · obtain ⟨b, off, rfl, hb, hc⟩ := HT.out (by omega)
      have hcx : wr.cell? ⟨b, off + k, none⟩ = some (.int .i8 (t k)) := (HB.out.cell (by exact hb)).trans (hc k hlt)
      have hcs : wr.cell? ⟨w.heap.size, k, none⟩ = some (.int .i8 (upTo t k k)) := HR.out.cell hlt
      have hfr := HR.out.frozen
      clear hc
      go_wp2
      go_roundw
      case rel => exact ⟨k + 1, by omega, by go_num, (HR.out.set k (.int .i8 (t k))).congr (fun j _ => upTo_step t k j), HB.out.setCell (Nat.le_refl _) _⟩
      case measure => simp [intOf]; omega
    · go_wp2
      go_ret
      exact ⟨rfl, HB.out, HR.out.congr (fun j hj => by unfold upTo; rw [if_pos (by omega)])⟩
end Go.Proofs.Qxb6609507a.U

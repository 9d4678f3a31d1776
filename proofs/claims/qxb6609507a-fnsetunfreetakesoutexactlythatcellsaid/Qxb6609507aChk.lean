import Derived.Test.Qxb6609507aPlant2
import Derived.Test.Qxb6609507aAcc
import Derived.Test.Qxb6609507aBody0
/-! WHAT zzCheckForest READS. -/
namespace Go.Proofs.Qxb6609507a.U
open Go.RowKit Go.Proofs.Qxb6609507a.Plain
set_option linter.unusedVariables false

/-- A slice of elements of k cells each. -/
def SlK (w : World) (v : Value) (ty : TypeId) (k n : Nat) (f : Nat → Value) : Prop :=
  ∃ (a : Option Addr) (c : Nat), v = .slice a n c ∧ (0 < n → ∃ g, a = some ⟨g, 0, none⟩ ∧ Row w g ty (k * n) f)
theorem SlK.below {w w' : World} {v : Value} {t : TypeId} {k n : Nat} {f : Nat → Value} (h : SlK w v t k n f) (b : Below w.heap.size w w') : SlK w' v t k n f := by
  obtain ⟨a, c, hv, h2⟩ := h
  refine ⟨a, c, hv, fun h0 => ?_⟩
  obtain ⟨g, hg, hr⟩ := h2 h0
  exact ⟨g, hg, hr.below b hr.lt⟩
theorem Sl.form {w : World} {v : Value} {t : TypeId} {n : Nat} {f : Nat → Value} (h : Sl w v t n f) : ∃ a c, v = .slice a n c := by
  obtain ⟨a, c, hv, _⟩ := h
  exact ⟨a, c, hv⟩
theorem Sl.cell {w : World} {v : Value} {t : TypeId} {n : Nat} {f : Nat → Value} (h : Sl w v t n f) {i : Nat} (hi : i < n) : ∃ g c, v = .slice (some ⟨g, 0, none⟩) n c ∧ w.cell? ⟨g, i, none⟩ = some (f i) := by
  obtain ⟨a, c, hv, h2⟩ := h
  obtain ⟨g, hg, hr⟩ := h2 (by omega)
  exact ⟨g, c, by rw [hv, hg], hr.cell hi⟩

structure Chk (w : World) (fan t : Nat → Nat) (M : Nat) (x : Blk) (lk : Bool) (N : Nat → Nat) (C V : Nat → Value) (V0 V1 : Value) (MB : Nat) (aT : Option Addr) : Prop where
  tr : Trees fan t M
  nn : ∀ l, l < 5 → N l = bs fan t M l
  f5 : fan 5 = 0
  ff : Row w x.FF 88 40 C
  m : Row w MB 33 36 (layC fan V)
  head : Head fan x lk N C
  c0 : C 0 = V0
  c1 : C 1 = V1
  c39 : C 39 = .pointer none
  inn : ∀ l, l < 5 → C (23 + l) = .int .i32 (nt fan t M l (N l) : Nat)
  lv : ∀ l, l < 5 → Row w (x.LV l) 93 (6 * N l) (AJ fan t M M l)
  kb : lk = true → Row w x.KB 99 5 (fun l => .slice (some ⟨x.LK l, 0, none⟩) (N l) (N l))
  lkr : lk = true → ∀ l, l < 5 → Row w (x.LK l) 98 (3 * N l) (KJ fan t M M l)
  ro : Sl w V0 62 M (rootF fan t x)
  ru : SlK w V1 104 4 (RL t M).length (runF (RL t M) (RF fan t M) (RO fan t M) (RC t M))
  s1 : ∀ l, l < 5 → Sl w (V (11 + l)) 21 (N l) (fun i => .int .i32 (F fan t M l i : Nat))
  s2 : ∀ l, l < 5 → Sl w (V (16 + l)) 21 (N l) (fun i => .int .i32 (Pa fan t M l i))
  s3 : ∀ l, l < 5 → Sl w (V (21 + l)) 21 (N l) (fun i => .int .i32 (Ch fan t M l i))
  s4 : ∀ l, l < 5 → Sl w (V (26 + l)) 4 (N l) (fun i => .bool (Tp fan t M l i))
  s5 : Sl w (V 31) 21 M (fun i => .int .i32 (bs fan t i (t i) : Nat))
  s6 : Sl w (V 32) 45 (RL t M).length (fun i => .int .i8 ((RL t M).getD i 0 : Nat))
  s7 : Sl w (V 33) 21 (RL t M).length (fun i => .int .i32 ((RF fan t M).getD i 0 : Nat))
  s8 : Sl w (V 34) 21 (RL t M).length (fun i => .int .i32 ((RO fan t M).getD i 0 : Nat))
  s9 : Sl w (V 35) 21 (RL t M).length (fun i => .int .i32 ((RC t M).getD i 0 : Nat))
  tps : Tops w aT M (fun i => (t i : Int))
theorem Chk.below {w w' : World} {fan t : Nat → Nat} {M : Nat} {x : Blk} {lk : Bool} {N : Nat → Nat} {C V : Nat → Value} {V0 V1 : Value} {MB : Nat} {aT : Option Addr} (h : Chk w fan t M x lk N C V V0 V1 MB aT) (b : Below w.heap.size w w') : Chk w' fan t M x lk N C V V0 V1 MB aT where
  tr := h.tr
  nn := h.nn
  f5 := h.f5
  ff := h.ff.below b h.ff.lt
  m := h.m.below b h.m.lt
  head := h.head
  c0 := h.c0
  c1 := h.c1
  c39 := h.c39
  inn := h.inn
  lv := fun l hl => (h.lv l hl).below b (h.lv l hl).lt
  kb := fun e => (h.kb e).below b (h.kb e).lt
  lkr := fun e l hl => (h.lkr e l hl).below b (h.lkr e l hl).lt
  ro := h.ro.below b
  ru := h.ru.below b
  s1 := fun l hl => (h.s1 l hl).below b
  s2 := fun l hl => (h.s2 l hl).below b
  s3 := fun l hl => (h.s3 l hl).below b
  s4 := fun l hl => (h.s4 l hl).below b
  s5 := h.s5.below b
  s6 := h.s6.below b
  s7 := h.s7.below b
  s8 := h.s8.below b
  s9 := h.s9.below b
  tps := h.tps.below b
section
variable {w w' : World} {fan t : Nat → Nat} {M : Nat} {x : Blk} {lk : Bool} {N : Nat → Nat} {C V : Nat → Value} {V0 V1 : Value} {MB : Nat} {aT : Option Addr}
theorem Chk.n9 (h : Chk w fan t M x lk N C V V0 V1 MB aT) {l : Nat} (hl : l < 5) : N l ≤ 65536 := by
  rw [h.nn l hl]; exact Nat.le_trans (bs_le_off l M) h.tr.all
theorem Chk.mc (h : Chk w fan t M x lk N C V V0 V1 MB aT) {q : Nat} (h1 : 11 ≤ q) (h2 : q < 36) : w.cell? ⟨MB, q, none⟩ = some (V q) :=
  (h.m.cell h2).trans (congrArg some (layC_V fan V h1))
theorem Chk.msz (h : Chk w fan t M x lk N C V V0 V1 MB aT) {l : Nat} (hl : l < 5) : w.cell? ⟨MB, l, none⟩ = some (.int .i64 (sz fan l : Nat)) :=
  (h.m.cell (by omega)).trans (congrArg some (by unfold layC; rw [if_pos hl]))
theorem Chk.mfn (h : Chk w fan t M x lk N C V V0 V1 MB aT) {l : Nat} (hl : l < 6) : w.cell? ⟨MB, 5 + l, none⟩ = some (.int .i64 (fan l : Nat)) :=
  (h.m.cell (by omega)).trans (congrArg some (by unfold layC; rw [if_neg (by omega), if_pos (by omega), Nat.add_sub_cancel_left]))
/-- The i-th cell of level l. -/
theorem Chk.cellAt (h : Chk w fan t M x lk N C V V0 V1 MB aT) {l i : Nat} (hl : l < 5) (hi : i < N l) (r : Nat) (hr : r < 6) : AJ fan t M M l (6 * i + r) = cellV fan t M l i r :=
  lay_at 6 (cellV fan t M l) (bs fan t M l) i r (fun q => z93 (q % 6)) (by rw [← h.nn l hl]; exact hi) hr
theorem Chk.linkAt (h : Chk w fan t M x lk N C V V0 V1 MB aT) {l i : Nat} (hl : l < 5) (hi : i < N l) (r : Nat) (hr : r < 3) : KJ fan t M M l (3 * i + r) = linkV fan t M l i r :=
  lay_at 3 (linkV fan t M l) (bs fan t M l) i r (fun _ => .int .i32 0) (by rw [← h.nn l hl]; exact hi) hr
end
/-- A piece that stands last in its block. -/
theorem then_any {Q : Exit → Act → World → Prop} : ∀ (e : Exit) (a : Act) (w : World), Exit.then (fun a w => Q .normal a w) (NoPanic Q) e a w → Q e a w := fun e a w h => by
  cases e <;> first | exact h | exact (h : False).elim
theorem below_drewN {B : Nat} {w w' : World} (h : Below B w w') (n : Nat) : Below B w (w'.drewN n) := ⟨h.os, h.tape, h.output, h.size, h.block⟩
theorem runF_at (rl rf ro rc : List Nat) (k : Nat) : runF rl rf ro rc (4 * k) = .int .i8 (rl.getD k 0 : Nat) ∧ runF rl rf ro rc (4 * k + 1) = .int .i32 (rf.getD k 0 : Nat) ∧ runF rl rf ro rc (4 * k + 2) = .int .i32 (ro.getD k 0 : Nat) ∧ runF rl rf ro rc (4 * k + 3) = .int .i32 (rc.getD k 0 : Nat) := by
  refine ⟨?_, ?_, ?_, ?_⟩
  · unfold runF; rw [show 4 * k % 4 = 0 by omega, show 4 * k / 4 = k by omega]; rfl
  · unfold runF; rw [show (4 * k + 1) % 4 = 1 by omega, show (4 * k + 1) / 4 = k by omega]; rfl
  · unfold runF; rw [show (4 * k + 2) % 4 = 2 by omega, show (4 * k + 2) / 4 = k by omega]; rfl
  · unfold runF; rw [show (4 * k + 3) % 4 = 3 by omega, show (4 * k + 3) / 4 = k by omega]; rfl
end Go.Proofs.Qxb6609507a.U

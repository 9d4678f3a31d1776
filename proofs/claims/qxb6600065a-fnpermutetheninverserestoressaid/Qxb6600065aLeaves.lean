import Derived.Test.Qxb6600065aRows
import Derived.Test.Qxb6600065aPlain
import Derived.WalkKit
import Derived.ProofKit
import Derived.Deep.OwnRows
import Derived.WalkLawsBesides
import Derived.WalkSpells
import Derived.Outline
namespace Go.Proofs.Qxb6600065a.fnPermuteThenInverseRestores
open Go.ChangeShapes Go.WideShapes Go.ChangeAt Go.RowKit Go.Proofs.Qxb6600065a.Plain
set_option linter.unusedVariables false
theorem info4 : (Try.prog.info? 4).map (fun i => (i.zero, i.size, i.bytes)) = some (some (.bool false), 1, 1) := by kernel_rfl
theorem info35 : (Try.prog.info? 35).map (fun i => (i.zero, i.size, i.bytes)) = some (some (.int .u32 0), 1, 4) := by kernel_rfl

/-- A slice of uint32 whose elements read as z. -/
def Reads (w : World) (a : Option Addr) (len : Nat) (z : Nat → Int) : Prop :=
  0 < len → ∃ b off, a = some ⟨b, off, none⟩ ∧ b < w.heap.size ∧ ∀ i, i < len → w.cell? ⟨b, off + i, none⟩ = some (.int .u32 (z i))
def InU32 (len : Nat) (z : Nat → Int) : Prop := ∀ i, i < len → 0 ≤ z i ∧ z i < 4294967296

/-- Is j among the first k? -/
def seenB (z : Nat → Int) : Nat → Nat → Bool
  | 0, _ => false
  | k + 1, j => if j = (z k).toNat then true else seenB z k j
theorem seenB_false (z : Nat → Int) (j : Nat) : ∀ k, seenB z k j = false → ∀ i, i < k → (z i).toNat ≠ j
  | 0, _, i, hi => by omega
  | k + 1, h, i, hi => by
    have h' : (if j = (z k).toNat then true else seenB z k j) = false := h
    by_cases e : j = (z k).toNat
    · rw [if_pos e] at h'; cases h'
    · rw [if_neg e] at h'
      by_cases e2 : i = k
      · subst e2; exact fun e3 => e e3.symm
      · exact seenB_false z j k h' i (by omega)
theorem ret_bool {a b : Bool} (h : a = b) : Ending.returned (.bool a) = .returned (.bool b) := by rw [h]

def PermPost (len : Nat) (z : Nat → Int) (w : World) (e : Ending) (w' : World) : Prop :=
  ∃ r : Bool, e = .returned (.bool r) ∧ (r = true → IsP len (fun i => (z i).toNat)) ∧ Below w.heap.size w w'

set_option maxHeartbeats 400000 in
theorem isPerm_any (a : Option Addr) (len cap : Nat) (z : Nat → Int) (w : World) (hlen : len ≤ 65536) (hr : Reads w a len z) (hz : InU32 len z) :
    Calls Try.prog 11 #[.slice a len cap] w (PermPost len z w) := by
  have hmk := run_make_row' (P := Try.prog) 44 4 (.bool false) 1 Try.underlying44 info4 rfl .i64 .i64 len (by omega) (by omega)
  have HR : Hid (Reads w a len z) := hr
  have HZ : Hid (InU32 len z) := hz
  clear hr hz
  go_enter Try.func11, Try.ntmps11
  go_wp2
  go_loopw [4] (fun i wr => ∃ k : Nat, k ≤ len ∧ i = .int .i64 k ∧ wr.rowIs w.heap.size 4 len (fun j => .bool (seenB z k j)) ∧ Below w.heap.size w wr ∧ (∀ i, i < k → (z i).toNat < len) ∧ ∀ i j, i < k → j < k → (z i).toNat = (z j).toNat → i = j)
    (fun i _ => len - (intOf i).toNat)
  case atStart =>
    exact ⟨0, Nat.zero_le _, rfl, World.rowIs_made _ _ _ _, (Below.refl _ _).alloc (Nat.le_refl _) _, fun i hi => by omega, fun i j hi => by omega⟩
  case round =>
    obtain ⟨k, hk, rfl, hrow, hbel, hb1, hb2⟩ := hrel
    have HB : Hid (Below w.heap.size w wr) := hbel
    have H1 : Hid (∀ i, i < k → (z i).toNat < len) := hb1
    have H2 : Hid (∀ i j, i < k → j < k → (z i).toNat = (z j).toNat → i = j) := hb2
    have HRow : Hid (wr.rowIs w.heap.size 4 len (fun j => .bool (seenB z k j))) := hrow
    clear hmk hbel hb1 hb2 hrow
    by_cases hlt : k < len
    · obtain ⟨b, off, rfl, hb, hc⟩ := HR.out (by omega)
      have hcx : wr.cell? ⟨b, off + k, none⟩ = some (.int .u32 (z k)) := (HB.out.cell (by exact hb)).trans (hc k hlt)
      obtain ⟨hw0, hw1⟩ := HZ.out k hlt
      clear hc
      by_cases hp : z k < len
      · have hcs : wr.cell? ⟨w.heap.size, (z k).toNat, none⟩ = some (.bool (seenB z k (z k).toNat)) := HRow.out.cell (by omega)
        have hfr := HRow.out.frozen
        go_wp2
        · go_ret
          exact ⟨false, rfl, (fun h => by cases h), HB.out⟩
        · have hs : seenB z k (z k).toNat = false := by assumption
          have hne := seenB_false z _ k hs
          go_roundw
          case rel =>
            refine ⟨k + 1, by omega, by go_num, (HRow.out.set (z k).toNat (.bool true)).congr ?_, HB.out.setCell (Nat.le_refl _) _, ?_, ?_⟩
            · intro j hj
              show (if j = (z k).toNat then Value.bool true else .bool (seenB z k j)) = .bool (if j = (z k).toNat then true else seenB z k j)
              split <;> rfl
            · intro i hi
              by_cases e : i = k
              · subst e; omega
              · exact H1.out i (by omega)
            · intro i j hi hj e
              by_cases ei : i = k <;> by_cases ej : j = k
              · omega
              · subst ei; exact absurd e.symm (hne j (by omega))
              · subst ej; exact absurd e (hne i (by omega))
              · exact H2.out i j (by omega) (by omega) e
          case measure => simp [intOf]; omega
      · go_wp2
        go_ret
        exact ⟨false, rfl, (fun h => by cases h), HB.out⟩
    · have hkl : k = len := by omega
      go_wp2
      go_ret
      exact ⟨true, rfl, fun _ => by subst hkl; exact ⟨H1.out, H2.out⟩, HB.out⟩

def ClonePost (len : Nat) (z : Nat → Int) (w : World) (e : Ending) (w' : World) : Prop :=
  ∃ (a' : Option Addr) (c' : Nat), e = .returned (.slice a' len c') ∧ Below w.heap.size w w' ∧
      (0 < len → a' = some ⟨w.heap.size, 0, none⟩ ∧ w'.rowIs w.heap.size 35 len (fun i => .int .u32 (z i)))

/-- The first k are z's, the rest 0. -/
def upTo (z : Nat → Int) (k : Nat) (i : Nat) : Int := if i < k then z i else 0

set_option maxHeartbeats 400000 in
theorem clone_any (a : Option Addr) (len cap : Nat) (z : Nat → Int) (w : World) (hlen : len ≤ 65536) (hr : Reads w a len z) :
    Calls Try.prog 12 #[.slice a len cap] w (ClonePost len z w) := by
  have hmk := run_make_row' (P := Try.prog) 28 35 (.int .u32 0) 4 Try.underlying28 info35 rfl .i64 .i64 len (by omega) (by omega)
  have hnil := fun (wx : World) (ax : Option Addr) (n c : Nat) => Lib.run_eql_slice_nil (P := Try.prog) wx 28 35 ax n c 0 0 Try.underlying28
  have HR : Hid (Reads w a len z) := hr
  clear hr
  cases a with
  | none =>
    have hl0 : len = 0 := by
      by_cases h : 0 < len
      · obtain ⟨b, off, h1, _⟩ := HR.out h; cases h1
      · omega
    subst hl0
    go_enter Try.func12, Try.ntmps12
    go_wp2
    go_ret
    exact ⟨none, 0, rfl, Below.refl _ _, fun h => absurd h (Nat.lt_irrefl _)⟩
  | some x =>
    go_enter Try.func12, Try.ntmps12
    go_wp2
    go_loopw [4] (fun i wr => ∃ k : Nat, k ≤ len ∧ i = .int .i64 k ∧ wr.rowIs w.heap.size 35 len (fun j => .int .u32 (upTo z k j)) ∧ Below w.heap.size w wr)
      (fun i _ => len - (intOf i).toNat)
    case atStart =>
      exact ⟨0, Nat.zero_le _, rfl, (World.rowIs_made _ _ _ _).congr (fun i _ => by simp [upTo]), (Below.refl _ _).alloc (Nat.le_refl _) _⟩
    case round =>
      obtain ⟨k, hk, rfl, hrow, hbel⟩ := hrel
      have HB : Hid (Below w.heap.size w wr) := hbel
      have HRow : Hid (wr.rowIs w.heap.size 35 len (fun j => .int .u32 (upTo z k j))) := hrow
      clear hmk hnil hbel hrow
      by_cases hlt : k < len
      · obtain ⟨b, off, hx, hb, hc⟩ := HR.out (by omega)
        obtain rfl : x = ⟨b, off, none⟩ := by simpa using hx
        have hcx : wr.cell? ⟨b, off + k, none⟩ = some (.int .u32 (z k)) := (HB.out.cell (by exact hb)).trans (hc k hlt)
        have hcs : wr.cell? ⟨w.heap.size, k, none⟩ = some (.int .u32 (upTo z k k)) := HRow.out.cell (by omega)
        have hfr := HRow.out.frozen
        clear hc hx
        go_wp2
        go_roundw
        case rel =>
          refine ⟨k + 1, by omega, by go_num, (HRow.out.set k (.int .u32 (z k))).congr ?_, HB.out.setCell (Nat.le_refl _) _⟩
          intro j hj
          show (if j = k then Value.int .u32 (z k) else .int .u32 (upTo z k j)) = .int .u32 (upTo z (k + 1) j)
          unfold upTo
          by_cases e : j = k
          · subst e; rw [if_pos rfl, if_pos (by omega)]
          · rw [if_neg e]
            by_cases e2 : j < k
            · rw [if_pos e2, if_pos (by omega)]
            · rw [if_neg e2, if_neg (by omega)]
        case measure => simp [intOf]; omega
      · have hkl : k = len := by omega
        go_wp2
        go_ret
        refine ⟨some ⟨w.heap.size, 0, none⟩, len, rfl, HB.out, fun _ => ⟨rfl, HRow.out.congr ?_⟩⟩
        intro j hj
        simp [upTo, hkl, hj]

/-- The cells of the holding made of value z and day j. -/
def HC (z : Nat → Int) (j : Nat) : Nat → Value
  | 0 => .string ByteArray.empty
  | 1 => .string ByteArray.empty
  | 2 => .int .i32 j
  | 3 => .int .u32 (z j)
  | 4 => .int .i64 0
  | 5 => .int .i64 0
  | _ => .int .u64 0
def HZ : Nat → Value
  | 0 => .string ByteArray.empty
  | 1 => .string ByteArray.empty
  | 2 => .int .i32 0
  | 3 => .int .u32 0
  | 4 => .int .i64 0
  | 5 => .int .i64 0
  | _ => .int .u64 0
def HCk (z : Nat → Int) (k c : Nat) : Value := if c / 7 < k then HC z (c / 7) (c % 7) else HZ (c % 7)

theorem info40 : (Try.prog.info? 40).map (fun i => (i.zero, i.size, i.bytes)) = some (some (.agg #[.string ByteArray.empty, .string ByteArray.empty, .int .i32 0, .int .u32 0, .int .i64 0, .int .i64 0, .int .u64 0]), 7, 64) := by kernel_rfl

/-- make([]T, n), T a struct. -/
theorem run_make_rows {P : Program} (t e : TypeId) (z : Value) (size bytes : Nat) (ht : P.underlying t = some (.slice e)) (hinfo : (P.info? e).map (fun i => (i.zero, i.size, i.bytes)) = some (some z, size, bytes))
    (kl kc : IntKind) (n : Nat) (hbytes : bytes * n ≤ 281474976710656) (h63 : n ≤ 9223372036854775807) (w : World) :
    (Instr.makeSlice t (.int kl (n : Int)) (.int kc (n : Int))).run P w = .ok (.slice (some ⟨w.heap.size, 0, none⟩) n n) (w.alloc (.cells (madeCells z.cells (n * size)) e)) := by
  obtain ⟨i, hi, hzz⟩ := Option.map_eq_some_iff.1 hinfo
  simp only [Prod.mk.injEq] at hzz
  obtain ⟨hz, hs, hb⟩ := hzz
  have hb' : (i.bytes : Int) * (n : Int) ≤ 281474976710656 := by
    have h : ((i.bytes * n : Nat) : Int) ≤ 281474976710656 := by rw [hb]; omega
    rwa [Int.natCast_mul] at h
  have hr := run_make (P := P) w t e i z ht hi hz kl kc n n (by omega) (Int.le_refl _) hb' (by omega)
  simp only [Int.toNat_natCast, hs] at hr
  exact hr

theorem World.rowIs_mades (w : World) (z : Array Value) (n : Nat) (t : TypeId) (f : Nat → Value) (hz : 0 < z.size) (hf : ∀ j, j < z.size → z[j]? = some (f j)) :
    (w.alloc (.cells (madeCells z n) t)).rowIs w.heap.size t n (fun i => f (i % z.size)) :=
  ⟨_, Go.Deep.blk_alloc_new _ _, size_madeCells _ _, fun i hi => by
    have h := hf (i % z.size) (Nat.mod_lt _ hz)
    have hlt : i % z.size < z.size := Nat.mod_lt _ hz
    rw [Array.getElem?_eq_getElem hlt] at h
    simp only [Option.some.injEq] at h
    simp [madeCells, hi, hlt, h]⟩

/-- A store of several cells into a row. -/
theorem rowIs_setCells {b : Nat} {t : TypeId} {n : Nat} : ∀ (vs : List Value) (o : Nat) (w : World) (f : Nat → Value), w.rowIs b t n f →
    (w.setCells b o vs).rowIs b t n (fun j => if o ≤ j ∧ j < o + vs.length then vs.getD (j - o) undef else f j)
  | [], o, w, f, h => by
    refine h.congr fun i hi => ?_
    show f i = if o ≤ i ∧ i < o + 0 then _ else f i
    rw [if_neg (by omega)]
  | v :: r, o, w, f, h => by
    refine (rowIs_setCells r (o + 1) _ _ (h.set o v)).congr fun i hi => ?_
    show (if o + 1 ≤ i ∧ i < o + 1 + r.length then r.getD (i - (o + 1)) undef else if i = o then v else f i) = if o ≤ i ∧ i < o + (r.length + 1) then (v :: r).getD (i - o) undef else f i
    by_cases e : i = o
    · subst e
      rw [if_neg (by omega), if_pos rfl, if_pos (by omega), Nat.sub_self]; rfl
    · rw [if_neg e]
      by_cases e2 : o + 1 ≤ i ∧ i < o + 1 + r.length
      · rw [if_pos e2, if_pos (by omega), show i - o = (i - (o + 1)) + 1 by omega, List.getD_cons_succ]
      · rw [if_neg e2, if_neg (by omega)]

theorem Below.setCells {B : Nat} {a : World} {b : Nat} (hb : B ≤ b) : ∀ (vs : List Value) (o : Nat) (w : World), Below B a w → Below B a (w.setCells b o vs)
  | [], _, _, h => h
  | v :: r, o, w, h => Below.setCells hb r (o + 1) _ (h.setCell hb v)

theorem hck_step (z : Nat → Int) (k j : Nat) :
    (if k * 7 ≤ j ∧ j < k * 7 + ([.string ByteArray.empty, .string ByteArray.empty, .int .i32 k, .int .u32 (z k), .int .i64 0, .int .i64 0, .int .u64 0] : List Value).length then
      ([.string ByteArray.empty, .string ByteArray.empty, .int .i32 k, .int .u32 (z k), .int .i64 0, .int .i64 0, .int .u64 0] : List Value).getD (j - k * 7) undef else HCk z k j) = HCk z (k + 1) j := by
  show (if k * 7 ≤ j ∧ j < k * 7 + 7 then _ else _) = _
  unfold HCk
  by_cases e : k * 7 ≤ j ∧ j < k * 7 + 7
  · obtain ⟨r, hr, rfl⟩ : ∃ r, r < 7 ∧ j = k * 7 + r := ⟨j - k * 7, by omega, by omega⟩
    have h1 : (k * 7 + r) / 7 = k := by omega
    have h2 : (k * 7 + r) % 7 = r := by omega
    rw [if_pos e, h1, h2, if_pos (by omega), show k * 7 + r - k * 7 = r by omega]
    match r, hr with
    | 0, _ => rfl
    | 1, _ => rfl
    | 2, _ => rfl
    | 3, _ => rfl
    | 4, _ => rfl
    | 5, _ => rfl
    | 6, _ => rfl
  · rw [if_neg e]
    by_cases e2 : j / 7 < k
    · rw [if_pos e2, if_pos (by omega)]
    · rw [if_neg e2, if_neg (by omega)]

def HoldPost (len : Nat) (z : Nat → Int) (w : World) (e : Ending) (w' : World) : Prop :=
  e = .returned (.slice (some ⟨w.heap.size, 0, none⟩) len len) ∧ Below w.heap.size w w' ∧ w'.rowIs w.heap.size 40 (len * 7) (fun c => HC z (c / 7) (c % 7))

set_option maxHeartbeats 400000 in
theorem holdings_any (a : Option Addr) (len cap : Nat) (z : Nat → Int) (w : World) (hlen : len ≤ 65536) (hr : Reads w a len z) :
    Calls Try.prog 13 #[.slice a len cap] w (HoldPost len z w) := by
  have hmk := run_make_rows (P := Try.prog) 32 40 _ 7 64 Try.underlying32 info40 .i64 .i64 len (by omega) (by omega)
  simp only [Value.cells] at hmk
  have HR : Hid (Reads w a len z) := hr
  clear hr
  go_enter Try.func13, Try.ntmps13
  go_wp2
  go_loopw [4] (fun i wr => ∃ k : Nat, k ≤ len ∧ i = .int .i64 k ∧ wr.rowIs w.heap.size 40 (len * 7) (HCk z k) ∧ Below w.heap.size w wr)
    (fun i _ => len - (intOf i).toNat)
  case atStart =>
    refine ⟨0, Nat.zero_le _, rfl, ?_, (Below.refl _ _).alloc (Nat.le_refl _) _⟩
    refine (World.rowIs_mades _ _ _ _ HZ (by decide) ?_).congr (fun i hi => by simp [HCk])
    intro j hj
    match j, hj with
    | 0, _ => rfl
    | 1, _ => rfl
    | 2, _ => rfl
    | 3, _ => rfl
    | 4, _ => rfl
    | 5, _ => rfl
    | 6, _ => rfl
  case round =>
    obtain ⟨k, hk, rfl, hrow, hbel⟩ := hrel
    have HB : Hid (Below w.heap.size w wr) := hbel
    have HRow : Hid (wr.rowIs w.heap.size 40 (len * 7) (HCk z k)) := hrow
    clear hmk hbel hrow
    by_cases hlt : k < len
    · obtain ⟨b, off, rfl, hb, hc⟩ := HR.out (by omega)
      have hcx : wr.cell? ⟨b, off + k, none⟩ = some (.int .u32 (z k)) := (HB.out.cell (by exact hb)).trans (hc k hlt)
      have hrow := HRow.out
      have c0 : wr.cell? ⟨w.heap.size, k * 7, none⟩ = some (HCk z k (k * 7)) := hrow.cell (by omega)
      have c1 : wr.cell? ⟨w.heap.size, k * 7 + 1, none⟩ = some (HCk z k (k * 7 + 1)) := hrow.cell (by omega)
      have c2 : wr.cell? ⟨w.heap.size, k * 7 + 2, none⟩ = some (HCk z k (k * 7 + 2)) := hrow.cell (by omega)
      have c3 : wr.cell? ⟨w.heap.size, k * 7 + 3, none⟩ = some (HCk z k (k * 7 + 3)) := hrow.cell (by omega)
      have c4 : wr.cell? ⟨w.heap.size, k * 7 + 4, none⟩ = some (HCk z k (k * 7 + 4)) := hrow.cell (by omega)
      have c5 : wr.cell? ⟨w.heap.size, k * 7 + 5, none⟩ = some (HCk z k (k * 7 + 5)) := hrow.cell (by omega)
      have c6 : wr.cell? ⟨w.heap.size, k * 7 + 6, none⟩ = some (HCk z k (k * 7 + 6)) := hrow.cell (by omega)
      have hfr := hrow.frozen
      clear hc hrow
      go_wp2
      go_roundw
      case rel =>
        refine ⟨k + 1, by omega, by go_num, (rowIs_setCells [.string ByteArray.empty, .string ByteArray.empty, .int .i32 k, .int .u32 (z k), .int .i64 0, .int .i64 0, .int .u64 0] (k * 7) _ _ HRow.out).congr ?_, Below.setCells (Nat.le_refl _) [.string ByteArray.empty, .string ByteArray.empty, .int .i32 k, .int .u32 (z k), .int .i64 0, .int .i64 0, .int .u64 0] (k * 7) _ HB.out⟩
        intro j hj
        exact hck_step z k j
      case measure => simp [intOf]; omega
    · have hkl : k = len := by omega
      go_wp2
      go_ret
      refine ⟨rfl, HB.out, HRow.out.congr ?_⟩
      intro j hj
      unfold HCk
      rw [if_pos (by omega)]

end Go.Proofs.Qxb6600065a.fnPermuteThenInverseRestores

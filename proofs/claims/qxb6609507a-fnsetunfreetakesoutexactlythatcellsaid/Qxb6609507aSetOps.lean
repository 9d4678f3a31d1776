import Derived.Test.Qxb6609507aMem
import Derived.Test.Qxb6609507aBits
import Derived.RegionTactic
import Derived.ChangeAlike
import Derived.Laws.Bits64b
import Derived.Laws.BitsAllLaws
namespace Go.Proofs.Qxb6609507a.U
open Go.RowKit Go.Proofs.Qxb6609507a.Plain
set_option linter.unusedVariables false

theorem wrap_pow (b : Nat) (hb : b < 64) : IntKind.u64.wrap ((2 : Int) ^ b) = ((2 ^ b : Nat) : Int) := by
  have h : 2 ^ b < 18446744073709551616 := Nat.pow_lt_pow_right (by omega : 1 < 2) hb
  have h2 : ((2 : Int) ^ b) = ((2 ^ b : Nat) : Int) := by rw [Int.natCast_pow]; rfl
  rw [IntKind.wrap_u64, h2]
  generalize 2 ^ b = y at h
  omega
theorem pow_lt64 (b : Nat) (hb : b < 64) : 2 ^ b < 18446744073709551616 := Nat.pow_lt_pow_right (by omega : 1 < 2) hb
theorem or64 (x b : Nat) (hx : x < 18446744073709551616) (hb : b < 64) : bits .or .u64 (x : Int) (IntKind.u64.wrap ((2 : Int) ^ b)) = ((x ||| 2 ^ b : Nat) : Int) := by
  rw [wrap_pow b hb]
  exact bits_or_u64_nat x (2 ^ b) hx (pow_lt64 b hb)
theorem or64_lt (x b : Nat) (hx : x < 18446744073709551616) (hb : b < 64) : x ||| 2 ^ b < 18446744073709551616 :=
  Nat.or_lt_two_pow (n := 64) hx (pow_lt64 b hb)
/-- x without bit b. -/
def cut64 (x b : Nat) : Nat := x &&& (18446744073709551615 - 2 ^ b)
theorem andNot64 (x b : Nat) (hx : x < 18446744073709551616) (hb : b < 64) : bits .andNot .u64 (x : Int) (IntKind.u64.wrap ((2 : Int) ^ b)) = ((cut64 x b : Nat) : Int) := by
  rw [wrap_pow b hb]
  exact u64_andNot_nat x (2 ^ b) hx (pow_lt64 b hb)
theorem cut64_bit (x b : Nat) (hx : x < 18446744073709551616) (hb : b < 64) (c : Nat) : (cut64 x b).testBit c = (x.testBit c && !decide (c = b)) := by
  unfold cut64
  have e : (18446744073709551615 - 2 ^ b : Nat) = 2 ^ 64 - (2 ^ b + 1) := by omega
  rw [Nat.testBit_and, e, Nat.testBit_two_pow_sub_succ (pow_lt64 b hb), Nat.testBit_two_pow]
  by_cases hc : c < 64
  · rw [decide_eq_true hc, Bool.true_and]
    by_cases e2 : b = c
    · subst e2; simp
    · have e3 : ¬ c = b := fun h => e2 h.symm
      simp [e2, e3]
  · have : x.testBit c = false := Nat.testBit_lt_two_pow (Nat.lt_of_lt_of_le hx (Nat.pow_le_pow_right (by omega : 0 < 2) (show 64 ≤ c by omega)))
    rw [this, Bool.false_and, Bool.false_and]
theorem cut64_lt (x b : Nat) (hx : x < 18446744073709551616) : cut64 x b < 18446744073709551616 := Nat.lt_of_le_of_lt Nat.and_le_left hx

/-- The words' rows of a set. -/
structure Words (w : World) (n D WB : Nat) (XB : Nat → Nat) (X : Nat → Nat → Nat) : Prop where
  table : Row w WB 54 D (fun k => .slice (some ⟨XB k, 0, none⟩) (wlen n k) (wlen n k))
  row : ∀ k, k < D → Row w (XB k) 55 (wlen n k) (fun j => .int .u64 (X k j))
  inj : ∀ k k', k < D → k' < D → XB k = XB k' → k = k'
  lt : ∀ k j, k < D → j < wlen n k → X k j < 18446744073709551616

/-- One word stored. -/
theorem Words.store {w : World} {n D WB : Nat} {XB : Nat → Nat} {X : Nat → Nat → Nat} (h : Words w n D WB XB X) {k j v : Nat} (hk : k < D) (hj : j < wlen n k) (hv : v < 18446744073709551616) :
    Words (w.setCell ⟨XB k, j, none⟩ (.int .u64 v)) n D WB XB (upd2 X k j v) where
  table := h.table.setOther (a := ⟨XB k, j, none⟩) (h.table.ne (h.row k hk) (by decide)) _
  row := fun k' hk' => by
    by_cases e : k' = k
    · subst e
      refine ((h.row k' hk').set j (.int .u64 v)).congr fun i hi => ?_
      show (if i = j then Value.int .u64 v else .int .u64 (X k' i)) = .int .u64 (upd2 X k' j v k' i)
      by_cases e2 : i = j
      · subst e2; rw [if_pos rfl, upd2_self]
      · rw [if_neg e2, upd2_col X e2]
    · refine ((h.row k' hk').setOther (a := ⟨XB k, j, none⟩) (fun e2 => e (h.inj _ _ hk' hk e2)) _).congr fun i hi => ?_
      rw [upd2_row X e]
  inj := h.inj
  lt := fun k' j' hk' hj' => by
    by_cases e : k' = k ∧ j' = j
    · obtain ⟨rfl, rfl⟩ := e; rw [upd2_self]; exact hv
    · unfold upd2; rw [if_neg e]; exact h.lt k' j' hk' hj'
theorem Words.other {w : World} {n D WB : Nat} {XB : Nat → Nat} {X : Nat → Nat → Nat} (h : Words w n D WB XB X) {a : Addr} (h1 : WB ≠ a.block) (h2 : ∀ k, k < D → XB k ≠ a.block) (v : Value) : Words (w.setCell a v) n D WB XB X :=
  ⟨h.table.setOther h1 v, fun k hk => (h.row k hk).setOther (h2 k hk) v, h.inj, h.lt⟩
theorem Words.drewN {w : World} {n D WB : Nat} {XB : Nat → Nat} {X : Nat → Nat → Nat} (h : Words w n D WB XB X) (m : Nat) : Words (w.drewN m) n D WB XB X := ⟨h.table, h.row, h.inj, h.lt⟩
theorem Words.drew {w : World} {n D WB : Nat} {XB : Nat → Nat} {X : Nat → Nat → Nat} (h : Words w n D WB XB X) : Words w.drew n D WB XB X := ⟨h.table, h.row, h.inj, h.lt⟩

def AddPost (FB o n D WB : Nat) (XB : Nat → Nat) (S : Nat → Bool) (fc : Nat → Value) (m : Int) (w : World) (e : Ending) (w' : World) : Prop :=
  e = .returned (.tuple #[]) ∧ Keeps (fun b => b = FB ∨ ∃ k, k < D ∧ b = XB k) w w' ∧ Row w' FB 88 40 (fun q => if q = o + 2 then .int .i64 m else fc q) ∧
  ∃ X, Words w' n D WB XB X ∧ Ok (wlen n) D S X

set_option maxHeartbeats 400000 in
theorem add_any (FB o n D WB c i : Nat) (XB : Nat → Nat) (S : Nat → Bool) (X : Nat → Nat → Nat) (fc : Nat → Value) (m : Nat) (w : World)
    (ho : o + 2 < 40) (hF : Row w FB 88 40 fc) (h0 : fc o = .slice (some ⟨WB, 0, none⟩) D c) (h2 : fc (o + 2) = .int .i64 m) (hm : m ≤ 65536) (hD : D ≤ 65536) (hDp : IsDepth n D) (hn : n ≤ 65536)
    (hW : Words w n D WB XB X) (hOk : Ok (wlen n) D S X) (hi : i < n) (hSi : S i = false) :
    Calls Try.prog 55 #[.pointer (some ⟨FB, o, none⟩), .int .i64 i] w (AddPost FB o n D WB XB (fun x => S x || decide (x = i)) fc (m + 1) w) := by
  have c0 : w.cell? ⟨FB, o, none⟩ = some (.slice (some ⟨WB, 0, none⟩) D c) := (hF.cell (by omega)).trans (congrArg some h0)
  have c2 : w.cell? ⟨FB, o + 2, none⟩ = some (.int .i64 m) := (hF.cell (by omega)).trans (congrArg some h2)
  have fF := hF.frozen
  have GF : Hid (Row w FB 88 40 fc) := hF
  have GW : Hid (Words w n D WB XB X) := hW
  have GO : Hid (Ok (wlen n) D S X) := hOk
  have GD : Hid (IsDepth n D) := hDp
  have GS : Hid (S i = false) := hSi
  have H0 : Hid (fc o = .slice (some ⟨WB, 0, none⟩) D c) := h0
  have nWF : WB ≠ FB := hW.table.ne hF (by decide)
  clear hF hW hOk hDp hSi h0 h2
  go_enter Try.func55, Try.ntmps55
  go_wp2
  go_loopg [1, 20] D (fun gk s1 s20 wr => ∃ (k ik : Nat) (X' : Nat → Nat → Nat), gk = D - k ∧ s1 = .int .i64 ik ∧ s20 = .int .i64 k ∧ ik ≤ 65536 ∧ k ≤ D ∧
      Row wr FB 88 40 (fun q => if q = o + 2 then .int .i64 (m + 1) else fc q) ∧ Words wr n D WB XB X' ∧ Keeps (fun b => b = FB ∨ ∃ k, k < D ∧ b = XB k) w wr ∧
      ((k < D ∧ AddInv (wlen n) D (fun x => S x || decide (x = i)) k ik X') ∨ (k = D ∧ Ok (wlen n) D (fun x => S x || decide (x = i)) X')))
  case atStart =>
    refine ⟨0, i, X, rfl, rfl, rfl, by omega, Nat.zero_le _, GF.out.set (o + 2) (.int .i64 (m + 1)), ?_, (Keeps.refl _ _).setCell (.inl (.inl rfl)) _, .inl ⟨GD.out.1, add_start GO.out GD.out.1 GS.out ?_⟩⟩
    · exact GW.out.other (a := ⟨FB, o + 2, none⟩) nWF (fun k hk => (GW.out.row k hk).ne GF.out (by decide)) _
    · have := wlen_zero n
      omega
  case round =>
    obtain ⟨k, ik, X', rfl, rfl, rfl, hik, hkD, hF, hW, hkp, hst⟩ := hrel
    have RF : Hid (Row wr FB 88 40 (fun q => if q = o + 2 then .int .i64 (m + 1) else fc q)) := hF
    have RW : Hid (Words wr n D WB XB X') := hW
    have RK : Hid (Keeps (fun b => b = FB ∨ ∃ k, k < D ∧ b = XB k) w wr) := hkp
    clear hF hkp c0 c2 fF
    rcases hst with ⟨hlt, hI⟩ | ⟨rfl, hO⟩
    · have RI : Hid (AddInv (wlen n) D (fun x => S x || decide (x = i)) k ik X') := hI
      obtain ⟨j0, hj0⟩ : ∃ j0, j0 = ik / 64 := ⟨_, rfl⟩
      obtain ⟨b0, hb0⟩ : ∃ b0, b0 = ik % 64 := ⟨_, rfl⟩
      have hq : ((ik : Nat) : Int) / 64 = (j0 : Int) := by omega
      have hr : ((ik : Nat) : Int) % 64 = (b0 : Int) := by omega
      have hb64 : b0 < 64 := by omega
      have hjl : j0 < wlen n k := by rw [hj0]; exact hI.lt
      have HJ : Hid (j0 = ik / 64) := hj0
      have HB : Hid (b0 = ik % 64) := hb0
      have ct : wr.cell? ⟨WB, k, none⟩ = some (.slice (some ⟨XB k, 0, none⟩) (wlen n k) (wlen n k)) := hW.table.cell hlt
      have cx : wr.cell? ⟨XB k, j0, none⟩ = some (.int .u64 (X' k j0)) := (hW.row k hlt).cell hjl
      have fx := (hW.row k hlt).frozen
      have hxlt : X' k j0 < 18446744073709551616 := hW.lt k j0 hlt hjl
      have EQ : Hid (bits .or .u64 ((X' k j0 : Nat) : Int) (IntKind.u64.wrap ((2 : Int) ^ b0)) = ((X' k j0 ||| 2 ^ b0 : Nat) : Int)) := or64 _ _ hxlt hb64
      have HX : Hid (X' k j0 < 18446744073709551616) := hxlt
      have nXF : XB k ≠ FB := (hW.row k hlt).ne RF.out (by decide)
      clear hI hW hj0 hb0 hxlt
      by_cases hz : X' k j0 = 0
      · have HZ : Hid (X' k j0 = 0) := hz
        have hzb : (((X' k j0 : Nat) : Int) != 0) = false := by rw [hz]; rfl
        clear hz
        go_wp2
        go_region
        go_wp2
        go_roundg (D - (k + 1))
        case measure => omega
        case rel =>
          refine ⟨k + 1, j0, upd2 X' k j0 (X' k j0 ||| 2 ^ b0), rfl, rfl, by go_num, by have := HJ.out; omega, by omega, ?_, ?_, ?_, ?_⟩
          · exact RF.out.setOther (a := ⟨XB k, j0, none⟩) (Ne.symm nXF) _
          · rw [EQ.out]
            exact (RW.out.store hlt hjl (or64_lt _ _ HX.out hb64)).drew
          · exact (RK.out.setCell (a := ⟨XB k, j0, none⟩) (.inl (.inr ⟨k, hlt, rfl⟩)) _).drew
          · have h1 := HJ.out
            have h2 := HB.out
            have h3 := HZ.out
            subst h1
            subst h2
            by_cases hl : k + 1 < D
            · exact .inl ⟨hl, add_go RI.out hl h3 (wlen_cover n k)⟩
            · exact .inr ⟨by omega, add_last RI.out (by omega)⟩
      · have HZ : Hid (X' k j0 ≠ 0) := hz
        have hzb : (((X' k j0 : Nat) : Int) != 0) = true := by
          have := beqF (a := X' k j0) (b := 0) hz
          simp only [bne]
          exact congrArg not this
        clear hz
        go_wp2
        go_region
        go_wp2
        go_end0
        refine ⟨rfl, (RK.out.setCell (a := ⟨XB k, j0, none⟩) (.inl (.inr ⟨k, hlt, rfl⟩)) _).drew, RF.out.setOther (a := ⟨XB k, j0, none⟩) (Ne.symm nXF) _, upd2 X' k j0 (X' k j0 ||| 2 ^ b0), ?_, ?_⟩
        · rw [EQ.out]
          exact (RW.out.store hlt hjl (or64_lt _ _ HX.out hb64)).drew
        · have h1 := HJ.out
          have h2 := HB.out
          have h3 := HZ.out
          subst h1
          subst h2
          exact add_stop RI.out hlt h3
    · have HO : Hid (Ok (wlen n) k (fun x => S x || decide (x = i)) X') := hO
      clear hW hO
      go_wp2
      go_end0
      exact ⟨rfl, RK.out, RF.out, X', RW.out, HO.out⟩

set_option maxHeartbeats 400000 in
theorem remove_any (FB o n D WB c i : Nat) (XB : Nat → Nat) (S : Nat → Bool) (X : Nat → Nat → Nat) (fc : Nat → Value) (m : Nat) (w : World)
    (ho : o + 2 < 40) (hF : Row w FB 88 40 fc) (h0 : fc o = .slice (some ⟨WB, 0, none⟩) D c) (h2 : fc (o + 2) = .int .i64 m) (hm : m ≤ 65536) (hD : D ≤ 65536) (hDp : IsDepth n D) (hn : n ≤ 65536)
    (hW : Words w n D WB XB X) (hOk : Ok (wlen n) D S X) (hi : i < n) (hSi : S i = true) :
    Calls Try.prog 54 #[.pointer (some ⟨FB, o, none⟩), .int .i64 i] w (AddPost FB o n D WB XB (fun x => S x && !decide (x = i)) fc (m - 1) w) := by
  have c0 : w.cell? ⟨FB, o, none⟩ = some (.slice (some ⟨WB, 0, none⟩) D c) := (hF.cell (by omega)).trans (congrArg some h0)
  have c2 : w.cell? ⟨FB, o + 2, none⟩ = some (.int .i64 m) := (hF.cell (by omega)).trans (congrArg some h2)
  have fF := hF.frozen
  have GF : Hid (Row w FB 88 40 fc) := hF
  have GW : Hid (Words w n D WB XB X) := hW
  have GO : Hid (Ok (wlen n) D S X) := hOk
  have GD : Hid (IsDepth n D) := hDp
  have GS : Hid (S i = true) := hSi
  have H0 : Hid (fc o = .slice (some ⟨WB, 0, none⟩) D c) := h0
  have nWF : WB ≠ FB := hW.table.ne hF (by decide)
  clear hF hW hOk hDp hSi h0 h2
  go_enter Try.func54, Try.ntmps54
  go_wp2
  go_loopg [1, 19] D (fun gk s1 s20 wr => ∃ (k ik : Nat) (X' : Nat → Nat → Nat), gk = D - k ∧ s1 = .int .i64 ik ∧ s20 = .int .i64 k ∧ ik ≤ 65536 ∧ k ≤ D ∧
      Row wr FB 88 40 (fun q => if q = o + 2 then .int .i64 (m - 1) else fc q) ∧ Words wr n D WB XB X' ∧ Keeps (fun b => b = FB ∨ ∃ k, k < D ∧ b = XB k) w wr ∧
      ((k < D ∧ DelInv (wlen n) D (fun x => S x && !decide (x = i)) k ik X') ∨ (k = D ∧ Ok (wlen n) D (fun x => S x && !decide (x = i)) X')))
  case atStart =>
    refine ⟨0, i, X, rfl, rfl, rfl, by omega, Nat.zero_le _, GF.out.set (o + 2) (.int .i64 (m - 1)), ?_, (Keeps.refl _ _).setCell (.inl (.inl rfl)) _, .inl ⟨GD.out.1, del_start GO.out GD.out.1 GS.out ?_⟩⟩
    · exact GW.out.other (a := ⟨FB, o + 2, none⟩) nWF (fun k hk => (GW.out.row k hk).ne GF.out (by decide)) _
    · have := wlen_zero n
      omega
  case round =>
    obtain ⟨k, ik, X', rfl, rfl, rfl, hik, hkD, hF, hW, hkp, hst⟩ := hrel
    have RF : Hid (Row wr FB 88 40 (fun q => if q = o + 2 then .int .i64 (m - 1) else fc q)) := hF
    have RW : Hid (Words wr n D WB XB X') := hW
    have RK : Hid (Keeps (fun b => b = FB ∨ ∃ k, k < D ∧ b = XB k) w wr) := hkp
    clear hF hkp c0 c2 fF
    rcases hst with ⟨hlt, hI⟩ | ⟨rfl, hO⟩
    · have RI : Hid (DelInv (wlen n) D (fun x => S x && !decide (x = i)) k ik X') := hI
      obtain ⟨j0, hj0⟩ : ∃ j0, j0 = ik / 64 := ⟨_, rfl⟩
      obtain ⟨b0, hb0⟩ : ∃ b0, b0 = ik % 64 := ⟨_, rfl⟩
      have hq : ((ik : Nat) : Int) / 64 = (j0 : Int) := by omega
      have hr : ((ik : Nat) : Int) % 64 = (b0 : Int) := by omega
      have hb64 : b0 < 64 := by omega
      have hjl : j0 < wlen n k := by rw [hj0]; exact hI.lt
      have HJ : Hid (j0 = ik / 64) := hj0
      have HB : Hid (b0 = ik % 64) := hb0
      have ct : wr.cell? ⟨WB, k, none⟩ = some (.slice (some ⟨XB k, 0, none⟩) (wlen n k) (wlen n k)) := hW.table.cell hlt
      have cx : wr.cell? ⟨XB k, j0, none⟩ = some (.int .u64 (X' k j0)) := (hW.row k hlt).cell hjl
      have fx := (hW.row k hlt).frozen
      have hxlt : X' k j0 < 18446744073709551616 := hW.lt k j0 hlt hjl
      have EQ : bits .andNot .u64 ((X' k j0 : Nat) : Int) (IntKind.u64.wrap ((2 : Int) ^ b0)) = ((cut64 (X' k j0) b0 : Nat) : Int) := andNot64 _ _ hxlt hb64
      have HX : Hid (X' k j0 < 18446744073709551616) := hxlt
      have nXF : XB k ≠ FB := (hW.row k hlt).ne RF.out (by decide)
      clear hI hW hj0 hb0 hxlt
      by_cases hz : cut64 (X' k j0) b0 = 0
      · have HZ : Hid (cut64 (X' k j0) b0 = 0) := hz
        have hzb : (((cut64 (X' k j0) b0 : Nat) : Int) != 0) = false := by rw [hz]; rfl
        clear hz
        go_wp2
        go_region
        go_wp2
        go_roundg (D - (k + 1))
        case measure => omega
        case rel =>
          refine ⟨k + 1, j0, upd2 X' k j0 (cut64 (X' k j0) b0), rfl, rfl, by go_num, by have := HJ.out; omega, by omega, ?_, ?_, ?_, ?_⟩
          · exact RF.out.setOther (a := ⟨XB k, j0, none⟩) (Ne.symm nXF) _
          · exact (RW.out.store hlt hjl (cut64_lt _ _ HX.out)).drew
          · exact (RK.out.setCell (a := ⟨XB k, j0, none⟩) (.inl (.inr ⟨k, hlt, rfl⟩)) _).drew
          · have h1 := HJ.out
            have h2 := HB.out
            have h3 := HZ.out
            subst h1
            subst h2
            have hy := cut64_bit (X' k (ik / 64)) (ik % 64) HX.out hb64
            by_cases hl : k + 1 < D
            · exact .inl ⟨hl, del_go RI.out hl hy h3 (wlen_cover n k)⟩
            · exact .inr ⟨by omega, del_last RI.out (by omega) hy⟩
      · have HZ : Hid (cut64 (X' k j0) b0 ≠ 0) := hz
        have hzb : (((cut64 (X' k j0) b0 : Nat) : Int) != 0) = true := by
          have := beqF (a := cut64 (X' k j0) b0) (b := 0) hz
          simp only [bne]
          exact congrArg not this
        clear hz
        go_wp2
        go_region
        go_wp2
        go_end0
        refine ⟨rfl, (RK.out.setCell (a := ⟨XB k, j0, none⟩) (.inl (.inr ⟨k, hlt, rfl⟩)) _).drew, RF.out.setOther (a := ⟨XB k, j0, none⟩) (Ne.symm nXF) _, upd2 X' k j0 (cut64 (X' k j0) b0), ?_, ?_⟩
        · exact (RW.out.store hlt hjl (cut64_lt _ _ HX.out)).drew
        · have h1 := HJ.out
          have h2 := HB.out
          have h3 := HZ.out
          subst h1
          subst h2
          exact del_stop RI.out hlt (cut64_bit (X' k (ik / 64)) (ik % 64) HX.out hb64) h3
    · have HO : Hid (Ok (wlen n) k (fun x => S x && !decide (x = i)) X') := hO
      clear hW hO
      go_wp2
      go_end0
      exact ⟨rfl, RK.out, RF.out, X', RW.out, HO.out⟩
end Go.Proofs.Qxb6609507a.U

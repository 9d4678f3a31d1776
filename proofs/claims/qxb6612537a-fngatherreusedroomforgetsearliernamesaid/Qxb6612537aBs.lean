import Derived.Test.Qxb6612537aCmp
namespace Go.Proofs.Qxb6612537a.U
open Go.RowKit Go.Proofs.Qxb6612537a.Plain Go.Lib
set_option linter.unusedVariables false
set_option linter.unusedSimpArgs false

/-- How far the search has come. -/
def BsI (nm : Nat → Nm) (n : Nat) (f : Nm) (lo hi : Nat) : Prop :=
  lo ≤ hi ∧ hi ≤ n ∧ (∀ k, k < lo → Plain.lt (nm k) f) ∧ ∀ k, hi ≤ k → k < n → Plain.le f (nm k)
def BsPost (nm : Nat → Nm) (n : Nat) (f : Nm) (w : World) (e : Ending) (w' : World) : Prop :=
  ∃ i r, e = .returned (.tuple #[.int .i64 ((i : Nat) : Int), .bool r]) ∧ Low nm n f i ∧ Below w.heap.size w w'
theorem BsI.up {nm : Nat → Nm} {n : Nat} {f : Nm} {lo hi : Nat} (ha : Asc nm n) (h : BsI nm n f lo hi) {m : Nat} (hm : m < hi) (hl : lo ≤ m) (hc : compareBytes (nm m) f < 0) : BsI nm n f (m + 1) hi := by
  obtain ⟨h1, h2, h3, h4⟩ := h
  refine ⟨by omega, h2, fun k hk => ?_, h4⟩
  rcases lt_or_eq (ha k m (by omega) (by omega)) with h | h
  · exact lt_trans h hc
  · rw [h]; exact hc
theorem BsI.down {nm : Nat → Nm} {n : Nat} {f : Nm} {lo hi : Nat} (ha : Asc nm n) (h : BsI nm n f lo hi) {m : Nat} (hm : m < hi) (hl : lo ≤ m) (hc : ¬ compareBytes (nm m) f < 0) : BsI nm n f lo m := by
  obtain ⟨h1, h2, h3, h4⟩ := h
  refine ⟨hl, by omega, h3, fun k hk hk2 => ?_⟩
  have h5 : Plain.le f (nm m) := by unfold Plain.le; rw [cmp_neg]; omega
  exact le_trans h5 (ha m k hk hk2)
theorem BsI.low {nm : Nat → Nm} {n : Nat} {f : Nm} {lo hi : Nat} (h : BsI nm n f lo hi) (e : ¬ lo < hi) : Low nm n f lo := by
  obtain ⟨h1, h2, h3, h4⟩ := h
  exact ⟨by omega, h3, fun k hk hk2 => h4 k (by omega) hk2⟩
set_option maxRecDepth 10000 in
set_option maxHeartbeats 2000000 in
theorem bs46_any (a : Option Addr) (n c : Nat) (R : Nat → HRec) (s : ByteArray) (w : World) (hin : In w a 3 n fun i => hc (R i)) (hn : n ≤ 4096) (ha : Asc (fun i => By (R i).nm) n) :
    Calls Try.prog 46 #[.slice a n c, .string s, .func (.func 47) #[] #[]] w (BsPost (fun i => By (R i).nm) n (By s) w) := by
  have Hin := hid hin
  have HA := hid ha
  clear hin ha
  go_enter Try.func46, Try.ntmps46
  go_wp2_with fail
  go_loopg [9, 10, 11] n (fun gk s9 s10 s11 wr => ∃ lo hi : Nat, gk = hi - lo ∧ s9 = .int .i64 (lo : Nat) ∧ s10 = .int .i64 (hi : Nat) ∧ BsI (fun i => By (R i).nm) n (By s) lo hi ∧ Below w.heap.size w wr)
  case atStart => exact ⟨0, n, rfl, rfl, rfl, ⟨Nat.zero_le _, Nat.le_refl _, fun k hk => absurd hk (Nat.not_lt_zero _), fun k hk hk2 => absurd hk (by omega)⟩, Below.refl _ _⟩
  case round =>
    obtain ⟨lo, hi, rfl, rfl, rfl, HI, HB⟩ := hrel
    have hh := HI.2.1
    have hl := HI.1
    replace HI := hid HI
    replace HB := hid HB
    by_cases hlt : lo < hi
    · have hm1 : lo ≤ (lo + hi) / 2 := by omega
      have hm2 : (lo + hi) / 2 < hi := by omega
      have hltI : (lo : Int) < (hi : Int) := by omega
      obtain ⟨ba, off, rfl, hba, hcs⟩ := Hin.out (by omega)
      replace hcs := hcs.below HB.out hba ((lo + hi) / 2) (by omega)
      have c0 : wr.cell? ⟨ba, off + (lo + hi) / 2 * 3, none⟩ = some (.string (R ((lo + hi) / 2)).nm) := hcs 0 (by omega)
      have c1 : wr.cell? ⟨ba, off + (lo + hi) / 2 * 3 + 1, none⟩ = some (.string (R ((lo + hi) / 2)).sv) := hcs 1 (by omega)
      have c2 : wr.cell? ⟨ba, off + (lo + hi) / 2 * 3 + 2, none⟩ = some (.int .i64 (R ((lo + hi) / 2)).tx) := hcs 2 (by omega)
      have hmI : ((lo : Int) + (hi : Int)) / 2 < (n : Int) := by omega
      clear hcs
      have C := cmp47_any (R ((lo + hi) / 2)) s wr
      have Hup : Hid (compareBytes (By (R ((lo + hi) / 2)).nm) (By s) < 0 → BsI (fun i => By (R i).nm) n (By s) ((lo + hi) / 2 + 1) hi) := fun h => HI.out.up HA.out hm2 hm1 h
      have Hdn : Hid (¬ compareBytes (By (R ((lo + hi) / 2)).nm) (By s) < 0 → BsI (fun i => By (R i).nm) n (By s) lo ((lo + hi) / 2)) := fun h => HI.out.down HA.out hm2 hm1 h
      obtain ⟨q, hq⟩ : ∃ q, q = compareBytes (By (R ((lo + hi) / 2)).nm) (By s) := ⟨_, rfl⟩
      rw [← hq] at C Hup Hdn
      clear hq
      by_cases hc : q < 0
      · go_wp2_with (go_at_call 47; refine C.mono ?_; rintro e w2 ⟨rfl, hb⟩)
        go_roundg (hi - ((lo + hi) / 2 + 1))
        case measure => omega
        case rel => exact ⟨(lo + hi) / 2 + 1, hi, rfl, by go_num, rfl, Hup.out hc, HB.out.trans (hb.mono HB.out.size)⟩
      · go_wp2_with (go_at_call 47; refine C.mono ?_; rintro e w2 ⟨rfl, hb⟩)
        go_roundg ((lo + hi) / 2 - lo)
        case measure => omega
        case rel => exact ⟨lo, (lo + hi) / 2, rfl, rfl, by go_num, Hdn.out hc, HB.out.trans (hb.mono HB.out.size)⟩
    · have HL : Hid (Low (fun i => By (R i).nm) n (By s) lo) := HI.out.low hlt
      have hltI : ¬ (lo : Int) < (hi : Int) := by omega
      by_cases hln : lo < n
      · obtain ⟨ba, off, rfl, hba, hcs⟩ := Hin.out (by omega)
        replace hcs := hcs.below HB.out hba lo (by omega)
        have c0 : wr.cell? ⟨ba, off + lo * 3, none⟩ = some (.string (R lo).nm) := hcs 0 (by omega)
        have c1 : wr.cell? ⟨ba, off + lo * 3 + 1, none⟩ = some (.string (R lo).sv) := hcs 1 (by omega)
        have c2 : wr.cell? ⟨ba, off + lo * 3 + 2, none⟩ = some (.int .i64 (R lo).tx) := hcs 2 (by omega)
        have hmI : (lo : Int) < (n : Int) := by omega
        have C := cmp47_any (R lo) s wr
        clear hcs hlt
        go_wp2_with (go_at_call 47; refine C.mono ?_; rintro e w2 ⟨rfl, hb⟩)
        go_ret2
        exact ⟨lo, _, rfl, HL.out, HB.out.trans (hb.mono HB.out.size)⟩
      · have hmI : ¬ (lo : Int) < (n : Int) := by omega
        clear hlt
        go_wp2
        go_ret2
        exact ⟨lo, _, rfl, HL.out, HB.out⟩
set_option maxRecDepth 10000 in
set_option maxHeartbeats 2000000 in
theorem bs51_any (a : Option Addr) (n c : Nat) (R : Nat → WRec) (s : ByteArray) (w : World) (hin : In w a 5 n fun i => wc (R i)) (hn : n ≤ 4096) (ha : Asc (fun i => By (R i).nm) n) :
    Calls Try.prog 51 #[.slice a n c, .string s, .func (.func 52) #[] #[]] w (BsPost (fun i => By (R i).nm) n (By s) w) := by
  have Hin := hid hin
  have HA := hid ha
  clear hin ha
  go_enter Try.func51, Try.ntmps51
  go_wp2_with fail
  go_loopg [9, 10, 11] n (fun gk s9 s10 s11 wr => ∃ lo hi : Nat, gk = hi - lo ∧ s9 = .int .i64 (lo : Nat) ∧ s10 = .int .i64 (hi : Nat) ∧ BsI (fun i => By (R i).nm) n (By s) lo hi ∧ Below w.heap.size w wr)
  case atStart => exact ⟨0, n, rfl, rfl, rfl, ⟨Nat.zero_le _, Nat.le_refl _, fun k hk => absurd hk (Nat.not_lt_zero _), fun k hk hk2 => absurd hk (by omega)⟩, Below.refl _ _⟩
  case round =>
    obtain ⟨lo, hi, rfl, rfl, rfl, HI, HB⟩ := hrel
    have hh := HI.2.1
    have hl := HI.1
    replace HI := hid HI
    replace HB := hid HB
    by_cases hlt : lo < hi
    · have hm1 : lo ≤ (lo + hi) / 2 := by omega
      have hm2 : (lo + hi) / 2 < hi := by omega
      have hltI : (lo : Int) < (hi : Int) := by omega
      obtain ⟨ba, off, rfl, hba, hcs⟩ := Hin.out (by omega)
      replace hcs := hcs.below HB.out hba ((lo + hi) / 2) (by omega)
      have c0 : wr.cell? ⟨ba, off + (lo + hi) / 2 * 5, none⟩ = some (.string (R ((lo + hi) / 2)).nm) := hcs 0 (by omega)
      have c1 : wr.cell? ⟨ba, off + (lo + hi) / 2 * 5 + 1, none⟩ = some (.int .i64 (R ((lo + hi) / 2)).tx) := hcs 1 (by omega)
      have c2 : wr.cell? ⟨ba, off + (lo + hi) / 2 * 5 + 2, none⟩ = some (.int .i64 (R ((lo + hi) / 2)).od) := hcs 2 (by omega)
      have c3 : wr.cell? ⟨ba, off + (lo + hi) / 2 * 5 + 3, none⟩ = some (.int .i64 (R ((lo + hi) / 2)).rk) := hcs 3 (by omega)
      have c4 : wr.cell? ⟨ba, off + (lo + hi) / 2 * 5 + 4, none⟩ = some (.bool (R ((lo + hi) / 2)).up) := hcs 4 (by omega)
      have hmI : ((lo : Int) + (hi : Int)) / 2 < (n : Int) := by omega
      clear hcs
      have C := cmp52_any (R ((lo + hi) / 2)) s wr
      have Hup : Hid (compareBytes (By (R ((lo + hi) / 2)).nm) (By s) < 0 → BsI (fun i => By (R i).nm) n (By s) ((lo + hi) / 2 + 1) hi) := fun h => HI.out.up HA.out hm2 hm1 h
      have Hdn : Hid (¬ compareBytes (By (R ((lo + hi) / 2)).nm) (By s) < 0 → BsI (fun i => By (R i).nm) n (By s) lo ((lo + hi) / 2)) := fun h => HI.out.down HA.out hm2 hm1 h
      obtain ⟨q, hq⟩ : ∃ q, q = compareBytes (By (R ((lo + hi) / 2)).nm) (By s) := ⟨_, rfl⟩
      rw [← hq] at C Hup Hdn
      clear hq
      by_cases hc : q < 0
      · go_wp2_with (go_at_call 52; refine C.mono ?_; rintro e w2 ⟨rfl, hb⟩)
        go_roundg (hi - ((lo + hi) / 2 + 1))
        case measure => omega
        case rel => exact ⟨(lo + hi) / 2 + 1, hi, rfl, by go_num, rfl, Hup.out hc, HB.out.trans (hb.mono HB.out.size)⟩
      · go_wp2_with (go_at_call 52; refine C.mono ?_; rintro e w2 ⟨rfl, hb⟩)
        go_roundg ((lo + hi) / 2 - lo)
        case measure => omega
        case rel => exact ⟨lo, (lo + hi) / 2, rfl, rfl, by go_num, Hdn.out hc, HB.out.trans (hb.mono HB.out.size)⟩
    · have HL : Hid (Low (fun i => By (R i).nm) n (By s) lo) := HI.out.low hlt
      have hltI : ¬ (lo : Int) < (hi : Int) := by omega
      by_cases hln : lo < n
      · obtain ⟨ba, off, rfl, hba, hcs⟩ := Hin.out (by omega)
        replace hcs := hcs.below HB.out hba lo (by omega)
        have c0 : wr.cell? ⟨ba, off + lo * 5, none⟩ = some (.string (R lo).nm) := hcs 0 (by omega)
        have c1 : wr.cell? ⟨ba, off + lo * 5 + 1, none⟩ = some (.int .i64 (R lo).tx) := hcs 1 (by omega)
        have c2 : wr.cell? ⟨ba, off + lo * 5 + 2, none⟩ = some (.int .i64 (R lo).od) := hcs 2 (by omega)
        have c3 : wr.cell? ⟨ba, off + lo * 5 + 3, none⟩ = some (.int .i64 (R lo).rk) := hcs 3 (by omega)
        have c4 : wr.cell? ⟨ba, off + lo * 5 + 4, none⟩ = some (.bool (R lo).up) := hcs 4 (by omega)
        have hmI : (lo : Int) < (n : Int) := by omega
        have C := cmp52_any (R lo) s wr
        clear hcs hlt
        go_wp2_with (go_at_call 52; refine C.mono ?_; rintro e w2 ⟨rfl, hb⟩)
        go_ret2
        exact ⟨lo, _, rfl, HL.out, HB.out.trans (hb.mono HB.out.size)⟩
      · have hmI : ¬ (lo : Int) < (n : Int) := by omega
        clear hlt
        go_wp2
        go_ret2
        exact ⟨lo, _, rfl, HL.out, HB.out⟩
end Go.Proofs.Qxb6612537a.U

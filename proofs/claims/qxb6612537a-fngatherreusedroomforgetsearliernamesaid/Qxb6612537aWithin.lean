import Derived.Test.Qxb6612537aRead
namespace Go.Proofs.Qxb6612537a.U
open Go.RowKit Go.Proofs.Qxb6612537a.Plain
set_option linter.unusedVariables false
set_option linter.unusedSimpArgs false

def HSmall (R : Nat → HRec) (n : Nat) : Prop := ∀ i, i < n → (R i).nm.size ≤ 1048576 ∧ (R i).sv.size ≤ 1048576
def WSmall (W : Nat → WRec) (n : Nat) : Prop := ∀ i, i < n → (W i).nm.size ≤ 1048576
theorem HSmall.step {R : Nat → HRec} {n : Nat} (h : HSmall R n) (h1 : (R n).nm.size ≤ 1048576) (h2 : (R n).sv.size ≤ 1048576) : HSmall R (n + 1) := fun i hi => by
  by_cases e : i = n
  · subst e; exact ⟨h1, h2⟩
  · exact h i (by omega)
theorem WSmall.step {R : Nat → WRec} {n : Nat} (h : WSmall R n) (h1 : (R n).nm.size ≤ 1048576) : WSmall R (n + 1) := fun i hi => by
  by_cases e : i = n
  · subst e; exact h1
  · exact h i (by omega)
def WiPost (R : Nat → HRec) (W : Nat → WRec) (nh nw : Nat) (x y : ByteArray) (w : World) (e : Ending) (w' : World) : Prop :=
  (∃ m, w' = w.drewN m) ∧ ∃ r, e = .returned (.bool r) ∧ (r = true → x.size ≤ 1048576 ∧ y.size ≤ 1048576 ∧ HSmall R nh ∧ WSmall W nw)
theorem WiPost.no {R : Nat → HRec} {W : Nat → WRec} {nh nw : Nat} {x y : ByteArray} {w : World} : WiPost R W nh nw x y w (.returned (.bool false)) w :=
  ⟨⟨0, rfl⟩, _, rfl, fun h => absurd h (by decide)⟩
set_option maxRecDepth 10000 in
set_option maxHeartbeats 2000000 in
theorem withinBytes_any (a b : Option Addr) (nh ca nw cb : Nat) (R : Nat → HRec) (W : Nat → WRec) (x y : ByteArray) (w : World) (hh : In w a 3 nh fun i => hc (R i)) (hw : In w b 5 nw fun i => wc (W i)) (hnh : nh ≤ 4096) (hnw : nw ≤ 4096) :
    Calls Try.prog 8 #[.slice a nh ca, .slice b nw cb, .string x, .string y] w (WiPost R W nh nw x y w) := by
  have Hh := hid hh
  have Hw := hid hw
  clear hh hw
  by_cases hx : x.size ≤ 1048576
  case neg =>
    go_enter Try.func8, Try.ntmps8
    go_wp2
    go_ret
    exact WiPost.no
  by_cases hy : y.size ≤ 1048576
  case neg =>
    go_enter Try.func8, Try.ntmps8
    go_wp2
    go_ret
    exact WiPost.no
  by_cases hxy : x.size + y.size ≤ 1048576
  case neg =>
    go_enter Try.func8, Try.ntmps8
    go_wp2
    go_ret
    exact WiPost.no
  go_enter Try.func8, Try.ntmps8
  go_wp2_with fail
  go_loopg [9, 10, 11, 12] nh (fun gk s9 s10 s11 s12 wr => ∃ i t : Nat, gk = nh - i ∧ i ≤ nh ∧ t ≤ 1048576 ∧ s9 = .int .i64 (t : Nat) ∧ s10 = .int .i64 (i : Nat) ∧ wr = w ∧ HSmall R i)
  case atStart => exact ⟨0, x.size + y.size, rfl, Nat.zero_le _, hxy, by go_num, rfl, rfl, fun i hi => absurd hi (Nat.not_lt_zero _)⟩
  case round =>
    obtain ⟨i, t, rfl, hi, ht, rfl, rfl, rfl, HS⟩ := hrel
    replace HS := hid HS
    by_cases hlt : i < nh
    · obtain ⟨ba, off, rfl, hba, hcs⟩ := Hh.out (by omega)
      have c0 : wr.cell? ⟨ba, off + i * 3, none⟩ = some (.string (R i).nm) := hcs i hlt 0 (by omega)
      have c1 : wr.cell? ⟨ba, off + i * 3 + 1, none⟩ = some (.string (R i).sv) := hcs i hlt 1 (by omega)
      have hltI : ((i : Nat) : Int) < (nh : Int) := by omega
      obtain ⟨n1, hn1⟩ : ∃ n, n = (R i).nm := ⟨_, rfl⟩
      obtain ⟨n2, hn2⟩ : ∃ n, n = (R i).sv := ⟨_, rfl⟩
      rw [← hn1] at c0
      rw [← hn2] at c1
      have HS' : Hid (n1.size ≤ 1048576 → n2.size ≤ 1048576 → HSmall R (i + 1)) := fun h1 h2 => HS.out.step (by rw [← hn1]; exact h1) (by rw [← hn2]; exact h2)
      clear hcs hn1 hn2 HS
      by_cases h1 : n1.size ≤ 1048576
      case neg =>
        go_wp2
        go_ret
        exact WiPost.no
      by_cases h2 : n2.size ≤ 1048576
      case neg =>
        go_wp2
        go_ret
        exact WiPost.no
      by_cases h3 : t + (n1.size + n2.size + 40) ≤ 1048576
      case neg =>
        have hd : (1048576 : Int) < (t : Int) + ((n1.size : Int) + (n2.size : Int) + 40) := by omega
        clear h3
        go_wp2
        go_ret
        exact WiPost.no
      have hd : ¬ (1048576 : Int) < (t : Int) + ((n1.size : Int) + (n2.size : Int) + 40) := by omega
      replace h3 := hid h3
      go_wp2
      replace h3 := h3.out
      go_roundg (nh - (i + 1))
      case measure => omega
      case rel => exact ⟨i + 1, t + (n1.size + n2.size + 40), rfl, by omega, h3, by go_num, by go_num, rfl, HS'.out h1 h2⟩
    · have e : i = nh := by omega
      subst e
      clear hlt hi
      go_wp2_with fail
      go_loopg [9, 13, 14] nw (fun gk s9 s13 s14 wr' => ∃ j t : Nat, gk = nw - j ∧ j ≤ nw ∧ t ≤ 1048576 ∧ s9 = .int .i64 (t : Nat) ∧ s13 = .int .i64 (j : Nat) ∧ wr' = wr ∧ WSmall W j)
      case atStart => exact ⟨0, t, rfl, Nat.zero_le _, ht, rfl, rfl, rfl, fun i hi => absurd hi (Nat.not_lt_zero _)⟩
      case round =>
        clear ht
        obtain ⟨j, t, rfl, hj, ht, rfl, rfl, rfl, HW⟩ := hrel
        replace HW := hid HW
        by_cases hlt : j < nw
        · obtain ⟨ba, off, rfl, hba, hcs⟩ := Hw.out (by omega)
          have c0 : wr.cell? ⟨ba, off + j * 5, none⟩ = some (.string (W j).nm) := hcs j hlt 0 (by omega)
          have hltI : ((j : Nat) : Int) < (nw : Int) := by omega
          obtain ⟨n1, hn1⟩ : ∃ n, n = (W j).nm := ⟨_, rfl⟩
          rw [← hn1] at c0
          have HW' : Hid (n1.size ≤ 1048576 → WSmall W (j + 1)) := fun h1 => HW.out.step (by rw [← hn1]; exact h1)
          clear hcs hn1 HW
          by_cases h1 : n1.size ≤ 1048576
          case neg =>
            go_wp2
            go_ret
            exact WiPost.no
          by_cases h3 : t + (n1.size + 48) ≤ 1048576
          case neg =>
            have hd : (1048576 : Int) < (t : Int) + ((n1.size : Int) + 48) := by omega
            clear h3
            go_wp2
            go_ret
            exact WiPost.no
          have hd : ¬ (1048576 : Int) < (t : Int) + ((n1.size : Int) + 48) := by omega
          replace h3 := hid h3
          go_wp2
          replace h3 := h3.out
          go_roundg (nw - (j + 1))
          case measure => omega
          case rel => exact ⟨j + 1, t + (n1.size + 48), rfl, by omega, h3, by go_num, by go_num, rfl, HW'.out h1⟩
        · have e : j = nw := by omega
          subst e
          clear hlt hj
          go_wp2
          go_ret
          exact ⟨⟨0, rfl⟩, _, rfl, fun _ => ⟨hx, hy, HS.out, HW.out⟩⟩
end Go.Proofs.Qxb6612537a.U

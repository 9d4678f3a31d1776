import Derived.Test.Qxb6612537aWithin
namespace Go.Proofs.Qxb6612537a.U
open Go.RowKit Go.Proofs.Qxb6612537a.Plain
set_option linter.unusedVariables false
set_option linter.unusedSimpArgs false

def OkBool (w : World) (e : Ending) (w' : World) : Prop := w' = w ∧ ∃ r, e = .returned (.bool r)
theorem OkBool.no {w : World} : OkBool w (.returned (.bool false)) w := ⟨rfl, _, rfl⟩
set_option maxRecDepth 10000 in
set_option maxHeartbeats 2000000 in
theorem zzBytes7_any (a b : Option Addr) (nh ca nw cb : Nat) (R : Nat → HRec) (W : Nat → WRec) (x : ByteArray) (w : World) (hh : In w a 3 nh fun i => hc (R i)) (hw : In w b 5 nw fun i => wc (W i)) :
    Calls Try.prog 7 #[.slice a nh ca, .slice b nw cb, .string x] w (OkBool w) := by
  have Hh := hid hh
  have Hw := hid hw
  clear hh hw
  by_cases hnh : nh ≤ 1048576
  case neg =>
    have hd : (1048576 : Int) < (nh : Int) := by omega
    clear hnh
    go_enter Try.func7, Try.ntmps7
    go_wp2
    go_ret
    exact OkBool.no
  go_enter Try.func7, Try.ntmps7
  go_wp2_with fail
  go_loopg [7, 8] nh (fun gk sz si wr => ∃ i t : Nat, gk = nh - i ∧ i ≤ nh ∧ t ≤ 1048576 ∧ sz = .int .i64 (t : Nat) ∧ si = .int .i64 (i : Nat) ∧ wr = w)
  case atStart => exact ⟨0, nh, rfl, Nat.zero_le _, hnh, by go_num, rfl, rfl⟩
  case round =>
    obtain ⟨i, t, rfl, hi, ht, rfl, rfl, rfl⟩ := hrel
    by_cases hlt : i < nh
    · obtain ⟨ba, off, rfl, hba, hcs⟩ := Hh.out (by omega)
      have c0 : wr.cell? ⟨ba, off + i * 3, none⟩ = some (.string (R i).nm) := hcs i hlt 0 (by omega)
      have c1 : wr.cell? ⟨ba, off + i * 3 + 1, none⟩ = some (.string (R i).sv) := hcs i hlt 1 (by omega)
      have hltI : ((i : Nat) : Int) < (nh : Int) := by omega
      obtain ⟨n1, hn1⟩ : ∃ n, n = (R i).nm := ⟨_, rfl⟩
      obtain ⟨n2, hn2⟩ : ∃ n, n = (R i).sv := ⟨_, rfl⟩
      rw [← hn1] at c0
      rw [← hn2] at c1
      clear hcs hn1 hn2
      by_cases h1 : n1.size ≤ 1048576
      case neg =>
        have hd : (1048576 : Int) < (n1.size : Int) := by omega
        clear h1
        go_wp2
        go_ret
        exact OkBool.no
      have h1I : ¬ (1048576 : Int) < (n1.size : Int) := by omega
      replace h1 := hid h1
      by_cases h2 : t + n1.size ≤ 1048576
      case neg =>
        have hd : (1048576 : Int) < (t : Int) + (n1.size : Int) := by omega
        clear h2
        go_wp2
        go_ret
        exact OkBool.no
      have h2I : ¬ (1048576 : Int) < (t : Int) + (n1.size : Int) := by omega
      replace h2 := hid h2
      by_cases h3 : n2.size ≤ 1048576
      case neg =>
        have hd : (1048576 : Int) < (n2.size : Int) := by omega
        clear h3
        go_wp2
        go_ret
        exact OkBool.no
      have h3I : ¬ (1048576 : Int) < (n2.size : Int) := by omega
      replace h3 := hid h3
      by_cases h4 : t + n1.size + n2.size ≤ 1048576
      case neg =>
        have hd : (1048576 : Int) < (t : Int) + (n1.size : Int) + (n2.size : Int) := by omega
        clear h4
        go_wp2
        go_ret
        exact OkBool.no
      have h4I : ¬ (1048576 : Int) < (t : Int) + (n1.size : Int) + (n2.size : Int) := by omega
      replace h4 := hid h4
      go_wp2
      go_roundg (nh - (i + 1))
      case measure => omega
      case rel => exact ⟨i + 1, t + n1.size + n2.size, rfl, by omega, h4.out, by go_num, by go_num, rfl⟩
    · have e : i = nh := by omega
      subst e
      clear hlt hi
      by_cases g1 : nw ≤ 1048576
      case neg =>
        have hd : (1048576 : Int) < (nw : Int) := by omega
        clear g1
        go_wp2
        go_ret
        exact OkBool.no
      have g1I : ¬ (1048576 : Int) < (nw : Int) := by omega
      replace g1 := hid g1
      by_cases g2 : t + nw ≤ 1048576
      case neg =>
        have hd : (1048576 : Int) < (t : Int) + (nw : Int) := by omega
        clear g2
        go_wp2
        go_ret
        exact OkBool.no
      have g2I : ¬ (1048576 : Int) < (t : Int) + (nw : Int) := by omega
      replace g2 := hid g2
      go_wp2_with fail
      go_loopg [7, 9] nw (fun gk sz sj wr' => ∃ j t : Nat, gk = nw - j ∧ j ≤ nw ∧ t ≤ 1048576 ∧ sz = .int .i64 (t : Nat) ∧ sj = .int .i64 (j : Nat) ∧ wr' = wr)
      case atStart => exact ⟨0, t + nw, rfl, Nat.zero_le _, g2.out, by go_num, rfl, rfl⟩
      case round =>
        replace g1 := g1.out
        clear ht g2 g2I
        obtain ⟨j, t, rfl, hj, ht, rfl, rfl, rfl⟩ := hrel
        by_cases hlt : j < nw
        · obtain ⟨ba, off, rfl, hba, hcs⟩ := Hw.out (by omega)
          have c0 : wr.cell? ⟨ba, off + j * 5, none⟩ = some (.string (W j).nm) := hcs j hlt 0 (by omega)
          have hltI : ((j : Nat) : Int) < (nw : Int) := by omega
          obtain ⟨n1, hn1⟩ : ∃ n, n = (W j).nm := ⟨_, rfl⟩
          rw [← hn1] at c0
          clear hcs hn1
          by_cases h1 : n1.size ≤ 1048576
          case neg =>
            have hd : (1048576 : Int) < (n1.size : Int) := by omega
            clear h1
            go_wp2
            go_ret
            exact OkBool.no
          have h1I : ¬ (1048576 : Int) < (n1.size : Int) := by omega
          replace h1 := hid h1
          by_cases h2 : t + n1.size ≤ 1048576
          case neg =>
            have hd : (1048576 : Int) < (t : Int) + (n1.size : Int) := by omega
            clear h2
            go_wp2
            go_ret
            exact OkBool.no
          have h2I : ¬ (1048576 : Int) < (t : Int) + (n1.size : Int) := by omega
          replace h2 := hid h2
          go_wp2
          go_roundg (nw - (j + 1))
          case measure => omega
          case rel => exact ⟨j + 1, t + n1.size, rfl, by omega, h2.out, by go_num, by go_num, rfl⟩
        · have e : j = nw := by omega
          subst e
          clear hlt hj
          by_cases k0 : x.size ≤ 1048576
          case neg =>
            have hd : (1048576 : Int) < (x.size : Int) := by omega
            clear k0
            go_wp2
            go_ret
            exact OkBool.no
          have k0I : ¬ (1048576 : Int) < (x.size : Int) := by omega
          replace k0 := hid k0
          by_cases l0 : t + x.size ≤ 1048576
          case neg =>
            have hd : (1048576 : Int) < (t : Int) + (x.size : Int) := by omega
            clear l0
            go_wp2
            go_ret
            exact OkBool.no
          have l0I : ¬ (1048576 : Int) < (t : Int) + (x.size : Int) := by omega
          replace l0 := hid l0
          go_wp2
          go_ret
          exact ⟨rfl, _, rfl⟩
set_option maxRecDepth 10000 in
set_option maxHeartbeats 2000000 in
theorem zzBytes14_any (a b : Option Addr) (nh ca nw cb : Nat) (R : Nat → HRec) (W : Nat → WRec) (x y : ByteArray) (w : World) (hh : In w a 3 nh fun i => hc (R i)) (hw : In w b 5 nw fun i => wc (W i)) :
    Calls Try.prog 14 #[.slice a nh ca, .slice b nw cb, .string x, .string y] w (OkBool w) := by
  have Hh := hid hh
  have Hw := hid hw
  clear hh hw
  by_cases hnh : nh ≤ 1048576
  case neg =>
    have hd : (1048576 : Int) < (nh : Int) := by omega
    clear hnh
    go_enter Try.func14, Try.ntmps14
    go_wp2
    go_ret
    exact OkBool.no
  go_enter Try.func14, Try.ntmps14
  go_wp2_with fail
  go_loopg [9, 10] nh (fun gk sz si wr => ∃ i t : Nat, gk = nh - i ∧ i ≤ nh ∧ t ≤ 1048576 ∧ sz = .int .i64 (t : Nat) ∧ si = .int .i64 (i : Nat) ∧ wr = w)
  case atStart => exact ⟨0, nh, rfl, Nat.zero_le _, hnh, by go_num, rfl, rfl⟩
  case round =>
    obtain ⟨i, t, rfl, hi, ht, rfl, rfl, rfl⟩ := hrel
    by_cases hlt : i < nh
    · obtain ⟨ba, off, rfl, hba, hcs⟩ := Hh.out (by omega)
      have c0 : wr.cell? ⟨ba, off + i * 3, none⟩ = some (.string (R i).nm) := hcs i hlt 0 (by omega)
      have c1 : wr.cell? ⟨ba, off + i * 3 + 1, none⟩ = some (.string (R i).sv) := hcs i hlt 1 (by omega)
      have hltI : ((i : Nat) : Int) < (nh : Int) := by omega
      obtain ⟨n1, hn1⟩ : ∃ n, n = (R i).nm := ⟨_, rfl⟩
      obtain ⟨n2, hn2⟩ : ∃ n, n = (R i).sv := ⟨_, rfl⟩
      rw [← hn1] at c0
      rw [← hn2] at c1
      clear hcs hn1 hn2
      by_cases h1 : n1.size ≤ 1048576
      case neg =>
        have hd : (1048576 : Int) < (n1.size : Int) := by omega
        clear h1
        go_wp2
        go_ret
        exact OkBool.no
      have h1I : ¬ (1048576 : Int) < (n1.size : Int) := by omega
      replace h1 := hid h1
      by_cases h2 : t + n1.size ≤ 1048576
      case neg =>
        have hd : (1048576 : Int) < (t : Int) + (n1.size : Int) := by omega
        clear h2
        go_wp2
        go_ret
        exact OkBool.no
      have h2I : ¬ (1048576 : Int) < (t : Int) + (n1.size : Int) := by omega
      replace h2 := hid h2
      by_cases h3 : n2.size ≤ 1048576
      case neg =>
        have hd : (1048576 : Int) < (n2.size : Int) := by omega
        clear h3
        go_wp2
        go_ret
        exact OkBool.no
      have h3I : ¬ (1048576 : Int) < (n2.size : Int) := by omega
      replace h3 := hid h3
      by_cases h4 : t + n1.size + n2.size ≤ 1048576
      case neg =>
        have hd : (1048576 : Int) < (t : Int) + (n1.size : Int) + (n2.size : Int) := by omega
        clear h4
        go_wp2
        go_ret
        exact OkBool.no
      have h4I : ¬ (1048576 : Int) < (t : Int) + (n1.size : Int) + (n2.size : Int) := by omega
      replace h4 := hid h4
      go_wp2
      go_roundg (nh - (i + 1))
      case measure => omega
      case rel => exact ⟨i + 1, t + n1.size + n2.size, rfl, by omega, h4.out, by go_num, by go_num, rfl⟩
    · have e : i = nh := by omega
      subst e
      clear hlt hi
      by_cases g1 : nw ≤ 1048576
      case neg =>
        have hd : (1048576 : Int) < (nw : Int) := by omega
        clear g1
        go_wp2
        go_ret
        exact OkBool.no
      have g1I : ¬ (1048576 : Int) < (nw : Int) := by omega
      replace g1 := hid g1
      by_cases g2 : t + nw ≤ 1048576
      case neg =>
        have hd : (1048576 : Int) < (t : Int) + (nw : Int) := by omega
        clear g2
        go_wp2
        go_ret
        exact OkBool.no
      have g2I : ¬ (1048576 : Int) < (t : Int) + (nw : Int) := by omega
      replace g2 := hid g2
      go_wp2_with fail
      go_loopg [9, 11] nw (fun gk sz sj wr' => ∃ j t : Nat, gk = nw - j ∧ j ≤ nw ∧ t ≤ 1048576 ∧ sz = .int .i64 (t : Nat) ∧ sj = .int .i64 (j : Nat) ∧ wr' = wr)
      case atStart => exact ⟨0, t + nw, rfl, Nat.zero_le _, g2.out, by go_num, rfl, rfl⟩
      case round =>
        replace g1 := g1.out
        clear ht g2 g2I
        obtain ⟨j, t, rfl, hj, ht, rfl, rfl, rfl⟩ := hrel
        by_cases hlt : j < nw
        · obtain ⟨ba, off, rfl, hba, hcs⟩ := Hw.out (by omega)
          have c0 : wr.cell? ⟨ba, off + j * 5, none⟩ = some (.string (W j).nm) := hcs j hlt 0 (by omega)
          have hltI : ((j : Nat) : Int) < (nw : Int) := by omega
          obtain ⟨n1, hn1⟩ : ∃ n, n = (W j).nm := ⟨_, rfl⟩
          rw [← hn1] at c0
          clear hcs hn1
          by_cases h1 : n1.size ≤ 1048576
          case neg =>
            have hd : (1048576 : Int) < (n1.size : Int) := by omega
            clear h1
            go_wp2
            go_ret
            exact OkBool.no
          have h1I : ¬ (1048576 : Int) < (n1.size : Int) := by omega
          replace h1 := hid h1
          by_cases h2 : t + n1.size ≤ 1048576
          case neg =>
            have hd : (1048576 : Int) < (t : Int) + (n1.size : Int) := by omega
            clear h2
            go_wp2
            go_ret
            exact OkBool.no
          have h2I : ¬ (1048576 : Int) < (t : Int) + (n1.size : Int) := by omega
          replace h2 := hid h2
          go_wp2
          go_roundg (nw - (j + 1))
          case measure => omega
          case rel => exact ⟨j + 1, t + n1.size, rfl, by omega, h2.out, by go_num, by go_num, rfl⟩
        · have e : j = nw := by omega
          subst e
          clear hlt hj
          by_cases k0 : x.size ≤ 1048576
          case neg =>
            have hd : (1048576 : Int) < (x.size : Int) := by omega
            clear k0
            go_wp2
            go_ret
            exact OkBool.no
          have k0I : ¬ (1048576 : Int) < (x.size : Int) := by omega
          replace k0 := hid k0
          by_cases l0 : t + x.size ≤ 1048576
          case neg =>
            have hd : (1048576 : Int) < (t : Int) + (x.size : Int) := by omega
            clear l0
            go_wp2
            go_ret
            exact OkBool.no
          have l0I : ¬ (1048576 : Int) < (t : Int) + (x.size : Int) := by omega
          replace l0 := hid l0
          by_cases k1 : y.size ≤ 1048576
          case neg =>
            have hd : (1048576 : Int) < (y.size : Int) := by omega
            clear k1
            go_wp2
            go_ret
            exact OkBool.no
          have k1I : ¬ (1048576 : Int) < (y.size : Int) := by omega
          replace k1 := hid k1
          by_cases l1 : t + x.size + y.size ≤ 1048576
          case neg =>
            have hd : (1048576 : Int) < (t : Int) + (x.size : Int) + (y.size : Int) := by omega
            clear l1
            go_wp2
            go_ret
            exact OkBool.no
          have l1I : ¬ (1048576 : Int) < (t : Int) + (x.size : Int) + (y.size : Int) := by omega
          replace l1 := hid l1
          go_wp2
          go_ret
          exact ⟨rfl, _, rfl⟩
end Go.Proofs.Qxb6612537a.U

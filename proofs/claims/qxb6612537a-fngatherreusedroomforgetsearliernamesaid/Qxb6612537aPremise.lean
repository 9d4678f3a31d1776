import Derived.Test.Qxb6612537aZz
namespace Go.Proofs.Qxb6612537a.U
open Go.RowKit Go.Proofs.Qxb6612537a.Plain Go.Lib
set_option linter.unusedVariables false
set_option linter.unusedSimpArgs false

theorem wrap_i64 {x : Int} (h0 : -9223372036854775808 ≤ x) (h1 : x ≤ 9223372036854775807) : IntKind.i64.wrap x = x := by rw [IntKind.wrap_i64]; omega
/-- What the premise says. -/
def Prem (R : Nat → HRec) (W : Nat → WRec) (nh nw : Nat) : Prop :=
  Asc (fun i => By (R i).nm) nh ∧ Asc (fun i => By (W i).nm) nw ∧ ∀ i j, i < j → j < nw → (W i).od ≠ (W j).od
def PrPost (R : Nat → HRec) (W : Nat → WRec) (nh nw : Nat) (w : World) (e : Ending) (w' : World) : Prop :=
  (∃ m, w' = w.drewN m) ∧ ∃ r, e = .returned (.bool r) ∧ (r = true → Prem R W nh nw)
theorem PrPost.no {R : Nat → HRec} {W : Nat → WRec} {nh nw : Nat} {w : World} {m : Nat} : PrPost R W nh nw w (.returned (.bool false)) (w.drewN m) :=
  ⟨⟨m, rfl⟩, _, rfl, fun h => absurd h (by decide)⟩
theorem Cells.drewN {w : World} {b off size n : Nat} {f : Nat → List Value} (h : Cells w b off size n f) (m : Nat) : Cells (w.drewN m) b off size n f := h
set_option maxRecDepth 10000 in
set_option maxHeartbeats 2000000 in
theorem gatherPremise_any (a b : Option Addr) (nh ca nw cb : Nat) (R : Nat → HRec) (W : Nat → WRec) (w : World) (hh : In w a 3 nh fun i => hc (R i)) (hw : In w b 5 nw fun i => wc (W i)) (hnh : nh ≤ 4096) (hnw : nw ≤ 4096) (hR : HSmall R nh) (hW : WSmall W nw) :
    Calls Try.prog 9 #[.slice a nh ca, .slice b nw cb] w (PrPost R W nh nw w) := by
  have Hh := hid hh
  have Hw := hid hw
  have HR := hid hR
  have HW := hid hW
  clear hh hw hR hW
  go_enter Try.func9, Try.ntmps9
  go_wp2_with fail
  go_loopg [5] nh (fun gk s5 wr => ∃ i m : Nat, gk = nh - i ∧ s5 = .int .i64 ((i + 1 : Nat) : Int) ∧ i ≤ nh ∧ wr = w.drewN m ∧ (∀ k, k + 1 < i + 1 → k + 1 < nh → le (By (R k).nm) (By (R (k + 1)).nm)))
  case atStart => exact ⟨0, 0, rfl, rfl, Nat.zero_le _, rfl, fun k hk => absurd hk (by omega)⟩
  case round =>
    obtain ⟨i, m, rfl, rfl, hi, hwr, hA⟩ := hrel
    have Hwr := hid hwr
    clear hwr
    have HA := hid hA
    clear hA
    by_cases hlt : i + 1 < nh
    · obtain ⟨ba, off, rfl, hba, hcs⟩ := Hh.out (by omega)
      replace hcs : Cells wr ba off 3 nh fun i => hc (R i) := by rw [Hwr.out]; exact hcs
      have c0 : wr.cell? ⟨ba, off + i * 3, none⟩ = some (.string (R i).nm) := hcs i (by omega) 0 (by omega)
      obtain ⟨i1, hi1⟩ : ∃ i1, i1 = i + 1 := ⟨_, rfl⟩
      have c1 : wr.cell? ⟨ba, off + i1 * 3, none⟩ = some (.string (R (i + 1)).nm) := by subst hi1; exact hcs (i + 1) hlt 0 (by omega)
      have y0 : IntKind.i64.wrap ((i1 : Int) - 1) = (i : Int) := by rw [wrap_i64 (by omega) (by omega)]; omega
      have hl0 : ((i : Nat) : Int) < (nh : Int) := by omega
      have hl1 : ((i1 : Nat) : Int) < (nh : Int) := by omega
      have e1 : (((i + 1 : Nat)) : Int) = (i1 : Int) := by omega
      obtain ⟨n1, hn1⟩ : ∃ n, n = (R i).nm := ⟨_, rfl⟩
      obtain ⟨n2, hn2⟩ : ∃ n, n = (R (i + 1)).nm := ⟨_, rfl⟩
      have C21 : ∀ k, Calls Try.prog 21 #[.string n1, .string n2] (wr.drewN k) (fun e w' => e = .returned (.bool (decide (compareBytes n1.data.toList n2.data.toList ≤ 0))) ∧ ∃ q, w' = (wr.drewN k).drewN q) :=
        fun k => strLE_any _ _ _ (by rw [hn1]; exact (HR.out i (by omega)).1) (by rw [hn2]; exact (HR.out (i + 1) hlt).1)
      rw [← hn1] at c0
      rw [← hn2] at c1
      rw [e1]
      by_cases hle : compareBytes n1.data.toList n2.data.toList ≤ 0
      · have HA' : Hid (∀ k, k + 1 < i + 1 + 1 → k + 1 < nh → le (By (R k).nm) (By (R (k + 1)).nm)) := fun k hk hk2 => by
          by_cases e : k = i
          · subst e; unfold le By; rw [← hn1, ← hn2]; exact hle
          · exact HA.out k (by omega) hk2
        have Hi1 := hid hi1
        rw [decide_eq_true hle] at C21
        clear hcs hn1 hn2 hle HA hi1 e1
        go_wp2_with fail
        go_quiet ((go_at_call 21; exact Calls.quiet_of (C21 _)))
        go_wp2
        go_roundg (nh - (i + 1))
        case measure => omega
        case rel =>
          have h := Hi1.out
          subst h
          exact ⟨i + 1, _, rfl, by go_num, by omega, by rw [Hwr.out, drewN_two], HA'.out⟩
      · rw [decide_eq_false hle] at C21
        clear hcs hn1 hn2 hle HA hi1 e1
        go_wp2_with fail
        go_quiet ((go_at_call 21; exact Calls.quiet_of (C21 _)))
        go_wp2
        go_ret
        rw [Hwr.out, drewN_two]
        exact PrPost.no
    · have HA1 : Hid (Asc (fun i => By (R i).nm) nh) := asc_of_step fun k hk => HA.out k (by omega) hk
      have hI : ¬ ((i + 1 : Nat) : Int) < (nh : Int) := by omega
      clear hlt HA
      go_wp2_with fail
      go_loopg [6] nw (fun gk s6 wr => ∃ i m : Nat, gk = nw - i ∧ s6 = .int .i64 ((i + 1 : Nat) : Int) ∧ i ≤ nw ∧ wr = w.drewN m ∧ (∀ k, k + 1 < i + 1 → k + 1 < nw → le (By (W k).nm) (By (W (k + 1)).nm)))
      case atStart => exact ⟨0, m, rfl, rfl, Nat.zero_le _, Hwr.out, fun k hk => absurd hk (by omega)⟩
      case round =>
        clear hI hi Hwr
        obtain ⟨i, m, rfl, rfl, hi, hwr, hA⟩ := hrel
        have Hwr := hid hwr
        have HA := hid hA
        clear hA hwr
        by_cases hlt : i + 1 < nw
        · obtain ⟨ba, off, rfl, hba, hcs⟩ := Hw.out (by omega)
          replace hcs : Cells wr ba off 5 nw fun i => wc (W i) := by rw [Hwr.out]; exact hcs
          have c0 : wr.cell? ⟨ba, off + i * 5, none⟩ = some (.string (W i).nm) := hcs i (by omega) 0 (by omega)
          obtain ⟨i1, hi1⟩ : ∃ i1, i1 = i + 1 := ⟨_, rfl⟩
          have c1 : wr.cell? ⟨ba, off + i1 * 5, none⟩ = some (.string (W (i + 1)).nm) := by subst hi1; exact hcs (i + 1) hlt 0 (by omega)
          have y0 : IntKind.i64.wrap ((i1 : Int) - 1) = (i : Int) := by rw [wrap_i64 (by omega) (by omega)]; omega
          have hl0 : ((i : Nat) : Int) < (nw : Int) := by omega
          have hl1 : ((i1 : Nat) : Int) < (nw : Int) := by omega
          have e1 : (((i + 1 : Nat)) : Int) = (i1 : Int) := by omega
          obtain ⟨n1, hn1⟩ : ∃ n, n = (W i).nm := ⟨_, rfl⟩
          obtain ⟨n2, hn2⟩ : ∃ n, n = (W (i + 1)).nm := ⟨_, rfl⟩
          have C21 : ∀ k, Calls Try.prog 21 #[.string n1, .string n2] (wr.drewN k) (fun e w' => e = .returned (.bool (decide (compareBytes n1.data.toList n2.data.toList ≤ 0))) ∧ ∃ q, w' = (wr.drewN k).drewN q) :=
            fun k => strLE_any _ _ _ (by rw [hn1]; exact HW.out i (by omega)) (by rw [hn2]; exact HW.out (i + 1) hlt)
          rw [← hn1] at c0
          rw [← hn2] at c1
          rw [e1]
          by_cases hle : compareBytes n1.data.toList n2.data.toList ≤ 0
          · have HA' : Hid (∀ k, k + 1 < i + 1 + 1 → k + 1 < nw → le (By (W k).nm) (By (W (k + 1)).nm)) := fun k hk hk2 => by
              by_cases e : k = i
              · subst e; unfold le By; rw [← hn1, ← hn2]; exact hle
              · exact HA.out k (by omega) hk2
            have Hi1 := hid hi1
            rw [decide_eq_true hle] at C21
            clear hcs hn1 hn2 hle HA hi1 e1
            go_wp2_with fail
            go_quiet ((go_at_call 21; exact Calls.quiet_of (C21 _)))
            go_wp2
            go_roundg (nw - (i + 1))
            case measure => omega
            case rel =>
              have h := Hi1.out
              subst h
              exact ⟨i + 1, _, rfl, by go_num, by omega, by rw [Hwr.out, drewN_two], HA'.out⟩
          · rw [decide_eq_false hle] at C21
            clear hcs hn1 hn2 hle HA hi1 e1
            go_wp2_with fail
            go_quiet ((go_at_call 21; exact Calls.quiet_of (C21 _)))
            go_wp2
            go_ret
            rw [Hwr.out, drewN_two]
            exact PrPost.no
        · have HA2 : Hid (Asc (fun i => By (W i).nm) nw) := asc_of_step fun k hk => HA.out k (by omega) hk
          have hI : ¬ ((i + 1 : Nat) : Int) < (nw : Int) := by omega
          clear hlt HA
          go_wp2_with fail
          go_loopg [7, 8] nw (fun gk s7 s8 wr => ∃ i m : Nat, gk = nw - i ∧ s7 = .int .i64 ((i : Nat) : Int) ∧ i ≤ nw ∧ wr = w.drewN m ∧ (∀ p q, p < i → p < q → q < nw → (W p).od ≠ (W q).od))
          case atStart => exact ⟨0, m, rfl, rfl, Nat.zero_le _, Hwr.out, fun k q hk => absurd hk (by omega)⟩
          case round =>
            clear hI hi Hwr
            obtain ⟨i, m, rfl, rfl, hi, hwr, hA⟩ := hrel
            have Hwr := hid hwr
            have HA := hid hA
            clear hA hwr
            by_cases hlt : i < nw
            · have hltI : ((i : Nat) : Int) < (nw : Int) := by omega
              go_wp2_with fail
              go_loopg [8] (nw - (i + 1)) (fun gk s8 wr => ∃ j m : Nat, gk = nw - j ∧ s8 = .int .i64 ((j : Nat) : Int) ∧ i < j ∧ j ≤ nw ∧ wr = w.drewN m ∧ (∀ q, i < q → q < j → (W i).od ≠ (W q).od))
              case atStart => exact ⟨i + 1, m, rfl, by go_num, by omega, by omega, Hwr.out, fun q hk hq => absurd hk (by omega)⟩
              case round =>
                clear Hwr
                obtain ⟨j, m, rfl, rfl, hij, hj, hwr, hB⟩ := hrel
                have Hwr := hid hwr
                have HB := hid hB
                clear hB hwr
                by_cases hlt2 : j < nw
                · obtain ⟨ba, off, rfl, hba, hcs⟩ := Hw.out (by omega)
                  replace hcs : Cells wr ba off 5 nw fun i => wc (W i) := by rw [Hwr.out]; exact hcs
                  have c0 : wr.cell? ⟨ba, off + i * 5 + 2, none⟩ = some (.int .i64 (W i).od) := hcs i hlt 2 (by omega)
                  have c1 : wr.cell? ⟨ba, off + j * 5 + 2, none⟩ = some (.int .i64 (W j).od) := hcs j hlt2 2 (by omega)
                  have hl1 : ((j : Nat) : Int) < (nw : Int) := by omega
                  obtain ⟨o1, ho1⟩ : ∃ n, n = (W i).od := ⟨_, rfl⟩
                  obtain ⟨o2, ho2⟩ : ∃ n, n = (W j).od := ⟨_, rfl⟩
                  rw [← ho1] at c0
                  rw [← ho2] at c1
                  by_cases he : o1 = o2
                  · have hb : (o1 == o2) = true := by rw [he]; simp
                    clear he hcs ho1 ho2 HB HA
                    go_wp2_with fail
                    go_quiet (fail)
                    go_wp2
                    go_ret
                    rw [Hwr.out, drewN_two]
                    exact PrPost.no
                  · have hb : (o1 == o2) = false := by simpa using he
                    have HB' : Hid (∀ q, i < q → q < j + 1 → (W i).od ≠ (W q).od) := fun q h1 h2 => by
                      by_cases e : q = j
                      · subst e; rw [← ho1, ← ho2]; exact he
                      · exact HB.out q h1 (by omega)
                    clear he hcs ho1 ho2 HB
                    go_wp2_with fail
                    go_quiet (fail)
                    go_wp2
                    go_roundg (nw - (j + 1))
                    case measure => omega
                    case rel => exact ⟨j + 1, _, rfl, by go_num, by omega, by omega, by rw [Hwr.out, drewN_two], HB'.out⟩
                · have e : j = nw := by omega
                  subst e
                  have HA' : Hid (∀ p q, p < i + 1 → p < q → q < j → (W p).od ≠ (W q).od) := fun p q h1 h2 h3 => by
                    by_cases e : p = i
                    · subst e; exact HB.out q h2 h3
                    · exact HA.out p q (by omega) h2 h3
                  clear hlt2 HB HA
                  go_wp2
                  go_roundg (j - (i + 1))
                  case measure => omega
                  case rel => exact ⟨i + 1, _, rfl, by go_num, by omega, Hwr.out, HA'.out⟩
            · have e : i = nw := by omega
              subst e
              clear hlt
              go_wp2
              go_ret
              exact ⟨⟨m, Hwr.out⟩, _, rfl, fun _ => ⟨HA1.out, HA2.out, fun p q h1 h2 => HA.out p q (by omega) h1 h2⟩⟩
end Go.Proofs.Qxb6612537a.U

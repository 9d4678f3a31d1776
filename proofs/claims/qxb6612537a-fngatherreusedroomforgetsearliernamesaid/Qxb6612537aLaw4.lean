import Derived.Test.Qxb6612537aUse
import Derived.Deep.CutBlock
namespace Go.Proofs.Qxb6612537a.U
open Go.RowKit Go.Proofs.Qxb6612537a.Plain
set_option linter.unusedVariables false
set_option linter.unusedSimpArgs false

theorem below_drewN (B : Nat) (w : World) (m : Nat) : Below B w (w.drewN m) := ⟨rfl, rfl, rfl, Nat.le_refl _, fun _ _ => rfl⟩
theorem keeps_below0 {w w' : World} (h : Below w.heap.size w w') : Keeps (fun _ => False) w w' := Keeps.of_below h
set_option maxRecDepth 100000 in
set_option maxHeartbeats 8000000 in
theorem law4_any (a b : Option Addr) (nh ca nw cb : Nat) (R : Nat → HRec) (W : Nat → WRec) (x y : ByteArray) (w : World) (hh : In w a 3 nh fun i => hc (R i)) (hw : In w b 5 nw fun i => wc (W i)) (tx : ∀ i, i < nh → (Lit.int .i64 (R i).tx).wf = true) (hl1 : nh ≤ 9223372036854775807) (hl2 : nw ≤ 9223372036854775807) :
    Calls Try.prog 4 #[.slice a nh ca, .slice b nw cb, .string x, .string y] w (fun e w' => e = .returned (.bool true) ∧ Below w.heap.size w w') := by
  have C7 := zzBytes14_any a b nh ca nw cb R W x y w hh hw
  have Hh := hid hh
  have Hw := hid hw
  have Htx := hid tx
  clear hh hw tx
  go_enter Try.func4, Try.ntmps4
  go_upto_if 16 with (go_at_call 14; refine C7.mono ?_; rintro e w2 ⟨hw2, r, rfl⟩; have hw2' := hw2.symm; clear hw2; subst hw2')
  clear C7
  cases r with
  | false =>
    go_wp2
    go_ret
    exact ⟨rfl, Below.refl _ _⟩
  | true =>
    by_cases h1 : nh ≤ 4096
    · by_cases h2 : nw ≤ 4096
      · have hd1 : decide (4096 < nh) = false := decide_eq_false (by omega)
        have hd2 : decide (4096 < nw) = false := decide_eq_false (by omega)
        have C8 := withinBytes_any a b nh ca nw cb R W x y w Hh.out Hw.out h1 h2
        go_upto_if 30 with (go_at_call 8; refine C8.mono ?_; rintro e w2 ⟨⟨m, rfl⟩, r, rfl, hr⟩)
        clear C8
        cases r with
        | false =>
          go_wp2
          go_ret
          exact ⟨rfl, below_drewN _ _ _⟩
        | true =>
          have hx : x.size ≤ 1048576 := (hr rfl).1
          have hy : y.size ≤ 1048576 := (hr rfl).2.1
          have hs := hid (hr rfl).2.2.1
          have ws := hid (hr rfl).2.2.2
          have hb1 := below_drewN w.heap.size w m
          have C9 := gatherPremise_any a b nh ca nw cb R W (w.drewN m) (Hh.out.below hb1) (Hw.out.below hb1) h1 h2 hs.out ws.out
          clear hr hb1
          go_upto_if 34 with (go_at_call 9; refine C9.mono ?_; rintro e w3 ⟨⟨m2, rfl⟩, r, rfl, hr2⟩)
          clear C9
          have hba : Hid (Below w.heap.size w (w.drewN (m + m2))) := below_drewN _ _ _
          have hsa : Hid ((w.drewN (m + m2)).heap.size = w.heap.size) := rfl
          generalize w.drewN (m + m2) = wa at *
          cases r with
          | false =>
            go_wp2
            go_ret
            exact ⟨rfl, hba.out⟩
          | true =>
            have hP := hid (hr2 rfl)
            clear hr2
            have C10 := buildListing_any a b nh ca nw cb R W wa (Hh.out.below hba.out) (Hw.out.below hba.out) h1 h2
            go_upto_region 10 with (go_at_call 10; refine C10.mono ?_; rintro e wb ⟨V0, V1, rfl, o0, o1, hbb⟩; obtain ⟨a0, c0, rfl, _, _⟩ := own_in (f := fun i => hc (R i)) (fun _ => rfl) o0; obtain ⟨a1, c1, rfl, _, _⟩ := own_in (f := fun i => wc (W i)) (fun _ => rfl) o1)
            rw [hsa.out] at o0 o1 hbb
            obtain ⟨wc', hwc⟩ : ∃ wc', wc' = wb.alloc (.cells #[.slice a0 nh c0, .slice a1 nw c1] 30) := ⟨_, rfl⟩
            rw [← hwc]
            obtain ⟨LB, hLB⟩ : ∃ LB, LB = wb.heap.size := ⟨_, rfl⟩
            rw [← hLB]
            have lbc : Row wc' LB 30 2 (pair (.slice a0 nh c0) (.slice a1 nw c1)) := by rw [hwc, hLB]; exact Row.new wb #[_, _] 30 _ two_cells
            have kc : Keeps (fun _ => False) wb wc' := by rw [hwc]; exact (Keeps.refl _ wb).alloc _
            have hbc : Hid (Below w.heap.size w wc') := (hba.out.trans hbb).trans (kc.below (Nat.le_trans hba.out.size hbb.size) (fun _ h => h.elim))
            have oc0 := hid (own_keeps o0 kc (fun _ _ h => h))
            have oc1 := hid (own_keeps o1 kc (fun _ _ h => h))
            have LBC := hid lbc
            have hLBlt := lbc.lt
            have C11 := newWaits_any wc'
            clear C10 o0 o1 hbb hwc hLB lbc kc
            go_upto_region 11 with (go_at_call 11; refine C11.mono ?_; rintro e wd ⟨rfl, hrow, hbd⟩)
            have LBD : Hid (Row wd LB 30 2 (pair (.slice a0 nh c0) (.slice a1 nw c1))) := LBC.out.below hbd hLBlt
            have m0 : wd.cell? ⟨LB, 0, none⟩ = some (.slice a0 nh c0) := LBD.out.cell (i := 0) (by omega)
            have m1 : wd.cell? ⟨LB, 1, none⟩ = some (.slice a1 nw c1) := LBD.out.cell (i := 1) (by omega)
            obtain ⟨WB, hWB⟩ : ∃ WB, WB = wc'.heap.size := ⟨_, rfl⟩
            rw [← hWB] at hrow hbd hLBlt ⊢
            have hWBw : w.heap.size ≤ WB := by rw [hWB]; exact hbc.out.size
            have hbwd : Hid (Below w.heap.size w wd) := hbc.out.trans (hbd.mono hWBw)
            have C12 : Calls Try.prog 12 #[.pointer (some ⟨WB, 0, none⟩), .agg #[.slice a0 nh c0, .slice a1 nw c1], .string x] wd (fun e w' => e = .returned (.tuple #[]) ∧ GPost WB w.heap.size WB nh nw c0 c1 a0 a1 R W (.slice none 0 0) x (wd.alloc (.cells #[.slice a0 nh c0, .slice a1 nw c1] 30)) (.returned (.tuple #[])) w') := by
              have kd : Keeps (fun _ => False) wc' (wd.alloc (.cells #[.slice a0 nh c0, .slice a1 nw c1] 30)) := (Keeps.of_below (by rw [hWB] at hbd; exact hbd)).alloc _
              refine zzgather_any WB a0 a1 nh nw c0 c1 x wd _ ((gatherA WB w.heap.size WB nh nw c0 c1 a0 a1 R W (.slice none 0 0) (.slice none 0 0) (.slice none 0 0) 0 [] 0 [] x _ ⟨hrow.alloc _, own_nil _ _ _ _, own_nil _ _ _ _, Nat.le_refl _⟩ (Nat.le_trans (Nat.le_of_lt hrow.lt) (by simp)) (own_keeps oc0.out kd (fun _ _ h => h)) (own_keeps oc1.out kd (fun _ _ h => h)) (gok_of h1 h2 hP.out hs.out ws.out Htx.out) (od_inj hP.out) hx).mono ?_)
              intro e w' hg
              have he := hg.1
              subst he
              exact ⟨rfl, hg⟩
            clear C11 hrow hbd hWB
            go_upto_region 12 with (go_at_call 12; refine C12.mono ?_; rintro e we ⟨rfl, hG⟩)
            have HG := hid hG
            obtain ⟨Hs, L, hRd⟩ := hG.reads
            have HBG : Hid (Below WB (wd.alloc (.cells #[.slice a0 nh c0, .slice a1 nw c1] 30)) we) := by
              have h := hG.2
              obtain ⟨_, _, _, _, _, _, _, _, _, _, _, _, _, _, _, hb⟩ := h
              exact hb
            have hbe : Hid (Below w.heap.size w we) := (hbwd.out.alloc hbwd.out.size _).trans (HBG.out.mono hWBw)
            have C13 := gatherMatches_any WB nh ca nw cb a b x R W we Hs L (Hh.out.below hbe.out) (Hw.out.below hbe.out) h1 h2 hs.out ws.out hx (od_inj hP.out) hRd.hs hRd.srt hRd.mem hRd.c27 hRd.c28 hRd.c29 hRd.c30
            clear hG hRd m0 m1
            go_upto_region 14 with (go_at_call 13; refine C13.mono ?_; rintro e wf ⟨rfl, hbf⟩)
            clear C13 C12
            have hbwf : Hid (Below w.heap.size w wf) := hbe.out.trans (hbf.mono hbe.out.size)
            have lb2 : Row wf LB 30 2 (pair (.slice a0 nh c0) (.slice a1 nw c1)) := ((LBD.out.alloc _).below HBG.out hLBlt).below hbf ((LBD.out.alloc _).below HBG.out hLBlt).lt
            have p0 : wf.cell? ⟨LB, 0, none⟩ = some (.slice a0 nh c0) := lb2.cell (i := 0) (by omega)
            have p1 : wf.cell? ⟨LB, 1, none⟩ = some (.slice a1 nw c1) := lb2.cell (i := 1) (by omega)
            have C12b : Calls Try.prog 12 #[.pointer (some ⟨WB, 0, none⟩), .agg #[.slice a0 nh c0, .slice a1 nw c1], .string y] wf (fun e w' => e = .returned (.tuple #[]) ∧ GPost WB w.heap.size WB nh nw c0 c1 a0 a1 R W (.slice none 0 0) y (wf.alloc (.cells #[.slice a0 nh c0, .slice a1 nw c1] 30)) (.returned (.tuple #[])) w') := by
              obtain ⟨_, MB, H, V, Hs', L', n, m, hr, hM, hmp, _, _, _, oh, ow, _⟩ := HG.out
              have kk : Keeps (fun _ => False) we (wf.alloc (.cells #[.slice a0 nh c0, .slice a1 nw c1] 30)) := (keeps_below0 hbf).alloc _
              refine zzgather_any WB a0 a1 nh nw c0 c1 y wf _ ((gatherB WB w.heap.size WB nh nw c0 c1 a0 a1 R W (.slice none 0 0) H V _ _ _ _ y MB n m _ ⟨hr.st.keeps kk (fun h => h), own_keeps hr.oH kk (fun _ _ h => h), own_keeps hr.oV kk (fun _ _ h => h), hr.hW⟩ hM (hmp.keeps kk (fun h => h)) (Nat.le_trans (Nat.le_of_lt hr.st.lt) kk.size) (own_keeps oh kk (fun _ _ h => h)) (own_keeps ow kk (fun _ _ h => h)) (gok_of h1 h2 hP.out hs.out ws.out Htx.out) (od_inj hP.out) hy).mono ?_)
              intro e w' hg
              have he := hg.1
              subst he
              exact ⟨rfl, hg⟩
            clear hbf
            go_upto_region 15 with (go_at_call 12; refine C12b.mono ?_; rintro e wg ⟨rfl, hG2⟩)
            obtain ⟨Hs2, L2, hRd2⟩ := hG2.reads
            have hbg : Hid (Below w.heap.size w wg) := by
              have h := hG2.2
              obtain ⟨_, _, _, _, _, _, _, _, _, _, _, _, _, _, _, hb⟩ := h
              exact (hbwf.out.alloc hbwf.out.size _).trans (hb.mono hWBw)
            have C13b := gatherMatches_any WB nh ca nw cb a b y R W wg Hs2 L2 (Hh.out.below hbg.out) (Hw.out.below hbg.out) h1 h2 hs.out ws.out hy (od_inj hP.out) hRd2.hs hRd2.srt hRd2.mem hRd2.c27 hRd2.c28 hRd2.c29 hRd2.c30
            clear hG2 hRd2 C12b
            go_wp2_with (go_at_call 13; refine C13b.mono ?_; rintro e wk ⟨rfl, hbk⟩)
            go_ret
            exact ⟨rfl, hbg.out.trans (hbk.mono hbg.out.size)⟩
      · have hd1 : decide (4096 < nh) = false := decide_eq_false (by omega)
        have hd2 : decide (4096 < nw) = true := decide_eq_true (by omega)
        go_wp2
        go_ret
        exact ⟨rfl, Below.refl _ _⟩
    · have hd1 : decide (4096 < nh) = true := decide_eq_true (by omega)
      go_wp2
      go_ret
      exact ⟨rfl, Below.refl _ _⟩
end Go.Proofs.Qxb6612537a.U

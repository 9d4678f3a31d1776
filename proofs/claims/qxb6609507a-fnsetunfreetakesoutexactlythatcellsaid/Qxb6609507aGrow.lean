import Derived.Test.Qxb6609507aForest
import Derived.Deep.CutBlock
import Derived.Deep.RegionWith
import Derived.Deep.RegionLaw
namespace Go.Proofs.Qxb6609507a.U
open Go.RowKit Go.Proofs.Qxb6609507a.Plain
set_option linter.unusedVariables false
set_option linter.unusedSimpArgs false

theorem hid' {p : Prop} (h : p) : Hid p := h
def GrowPost (fan t : Nat → Nat) (M : Nat) (x : Blk) (lk : Bool) (N : Nat → Nat) (C : Nat → Value) (l : Nat) (G : Nat → Nat) (A L : Nat → Nat → Value) (w : World) (e : Ending) (w' : World) : Prop :=
  e = .returned (.pointer (some ⟨x.LV l, G l * 6, none⟩)) ∧ Gst x lk N C (doneG fan G l) (layA fan t M G (doneG fan G l) A) (layK fan t M G (doneG fan G l) L) w' ∧ Keeps (Wr x lk) w w'

theorem wrap_i8' {x : Int} (h0 : -128 ≤ x) (h1 : x ≤ 127) : IntKind.i8.wrap x = x := by
  have e : IntKind.i8.wrap x = if 128 ≤ x % 256 then x % 256 - 256 else x % 256 := by simp [IntKind.wrap, IntKind.bits, IntKind.signed]
  rw [e]; split <;> omega
theorem wrap_i32' {x : Int} (h0 : -2147483648 ≤ x) (h1 : x ≤ 2147483647) : IntKind.i32.wrap x = x := by rw [IntKind.wrap_i32]; omega
theorem info93 : (Try.prog.info? 93).map (·.size) = some 6 := by kernel_rfl
theorem info98 : (Try.prog.info? 98).map (·.size) = some 3 := by kernel_rfl
theorem fits_head {fan t : Nat → Nat} {M l : Nat} {G : Nat → Nat} {f : Nat} {p : Int} (h : Fits fan t M l G f p) :
    F fan t M l (G l) = f ∧ Pa fan t M l (G l) = p ∧ Tp fan t M l (G l) = decide (p = -1) := by
  cases l with
  | zero => exact ⟨h.1, h.2.1, h.2.2.1⟩
  | succ l => exact ⟨h.1, h.2.1, h.2.2.1⟩
theorem doneG_own {fan : Nat → Nat} {l : Nat} (h : Pos fan l) (G : Nat → Nat) : doneG fan G l l = G l + 1 := by
  unfold doneG
  rw [if_pos (Nat.le_refl _), cn_self h]
theorem row_there {w : World} {b : Nat} {ty : TypeId} {n : Nat} {f : Nat → Value} (h : Row w b ty n f) {o k : Nat} (hk : o + k ≤ n) : w.there b o k := by
  intro j hj
  rw [h.cell (by omega)]
  exact ⟨rfl, h.frozen _⟩

theorem cell_one (g l : Nat) (p : Int) : (#[.int .i32 (g : Nat), .int .i32 (-1), .int .i32 0, .int .i8 (l : Nat), .bool (p == -1), .bool false] : Array Value).all (·.oneCell') = true := by simp [Value.oneCell']
theorem link_one (f : Nat) (p c : Int) : (#[.int .i32 (f : Nat), .int .i32 p, .int .i32 c] : Array Value).all (·.oneCell') = true := by simp [Value.oneCell']
theorem Gst.unlinked {x : Blk} {N : Nat → Nat} {C : Nat → Value} {G : Nat → Nat} {A L L' : Nat → Nat → Value} {w : World} (h : Gst x false N C G A L w) : Gst x false N C G A L' w :=
  ⟨h.gr, h.fv, h.gv, h.lb, h.ff, h.lv, h.lvi, fun e => absurd e (by decide), fun e => absurd e (by decide), fun e => absurd e (by decide)⟩
theorem layU_done {fan t : Nat → Nat} {M : Nat} (l : Nat) (G : Nat → Nat) (L : Nat → Nat → Value) (h : Pos fan l) :
    upA (layU fan t M l G (doneG fan G l) L) l (lay 3 (linkV fan t M l) (G l) (G l + 1) (layU fan t M l G (doneG fan G l) L l)) = layK fan t M G (doneG fan G l) L := by
  cases l with
  | zero =>
    have e : layU fan t M 0 G (doneG fan G 0) L = L := by
      rw [doneG_zero, layU_zero]
    rw [e]
    exact layK_zero G L
  | succ l =>
    have := layU_all (t := t) (M := M) l G L h
    rw [stepG_all G l h] at this
    exact this

/-- What the contract asks of its numbers. -/
structure GrowPre (fan t : Nat → Nat) (M : Nat) (x : Blk) (lk : Bool) (N : Nat → Nat) (C : Nat → Value) (l : Nat) (G : Nat → Nat) (A L : Nat → Nat → Value) (f : Nat) (p : Int) (w : World) : Prop where
  l4 : l ≤ 4
  pos : Pos fan l
  st : Gst x lk N C G A L w
  fits : Fits fan t M l G f p
  room : ∀ l', l' ≤ l → doneG fan G l l' ≤ N l'
  all : f + sz fan l ≤ 65536
  p0 : -1 ≤ p
  p1 : p ≤ 65536

set_option maxRecDepth 100000 in
set_option maxHeartbeats 4000000 in
theorem grow_step (fan t : Nat → Nat) (M : Nat) (x : Blk) (lk : Bool) (N : Nat → Nat) (C : Nat → Value) (hH : Head fan x lk N C) (hN : ∀ l, l < 5 → N l ≤ 65536) (hfan : ∀ l, fan l ≤ 65536) (l : Nat) (G : Nat → Nat) (A L : Nat → Nat → Value) (f : Nat) (p : Int) (w : World)
    (hP : GrowPre fan t M x lk N C l G A L f p w)
    (ih : ∀ l0, l = l0 + 1 → ∀ G A L f p w, GrowPre fan t M x lk N C l0 G A L f p w → Calls Try.prog 53 #[.int .i8 l0, .int .i32 f, .int .i32 p, .pointer (some ⟨x.GB, 0, none⟩), .pointer (some ⟨x.FV, 0, none⟩), .pointer (some ⟨x.GV, 0, none⟩), .pointer (some ⟨x.LB, 0, none⟩)] w (GrowPost fan t M x lk N C l0 G A L w)) :
    Calls Try.prog 53 #[.int .i8 l, .int .i32 f, .int .i32 p, .pointer (some ⟨x.GB, 0, none⟩), .pointer (some ⟨x.FV, 0, none⟩), .pointer (some ⟨x.GV, 0, none⟩), .pointer (some ⟨x.LB, 0, none⟩)] w (GrowPost fan t M x lk N C l G A L w) := by
  obtain ⟨g, hg⟩ : ∃ g, g = G l := ⟨_, rfl⟩
  obtain ⟨n, hn⟩ : ∃ n, n = N l := ⟨_, rfl⟩
  have HP := hid' hP
  have HH := hid' hH
  have hl4 := hP.l4
  have hl5 : ((l : Nat) : Int) < 5 := by omega
  have hlt : g < n := by have := hP.room l (Nat.le_refl _); rw [doneG_own hP.pos] at this; omega
  have hn9 : n ≤ 65536 := by rw [hn]; exact hN l (by omega)
  have hf9 : f ≤ 65536 := by have := hP.all; omega
  have hp0 := hP.p0
  have hp1 := hP.p1
  have c1 : w.cell? ⟨x.GB, l, none⟩ = some (.int .i32 (g : Nat)) := by rw [hg]; exact hP.st.gr.cell (i := l) (by omega)
  have f1 := hP.st.gr.frozen
  have Hg := hid' hg
  have Hn := hid' hn
  have HI := hid' ih
  have HN := hid' hN
  have HFn := hid' hfan
  clear hP hH hg hn ih hN hfan
  go_enter Try.func53, Try.ntmps53
  go_upto_region 2 with fail
  go_cut [] from 15 (fun wc => Gst x lk N C (Plain.stepG fan G l 0) A L wc ∧ Keeps (Wr x lk) w wc)
  case first =>
    go_wp2
    go_meet
    case rel =>
      have e : (((g : Nat) : Int) + 1) = ((G l + 1 : Nat) : Int) := by have := Hg.out; omega
      rw [e, stepG_zero]
      exact ⟨HP.out.st.count l, (Keeps.refl _ w).setCell (a := ⟨x.GB, l, none⟩) (.inl (.inl rfl)) _⟩
  case rest =>
    obtain ⟨hG, hK⟩ := hcut
    have HG1 := hid' hG
    have HK1 := hid' hK
    have cf : wc.cell? ⟨x.FV, 0, none⟩ = some (.pointer (some ⟨x.FF, 0, none⟩)) := hG.fv.cell (i := 0) (by omega)
    have c2 : wc.cell? ⟨x.FF, 2 + l, none⟩ = some (.slice (some ⟨x.LV l, 0, none⟩) n n) := by rw [Hn.out]; exact (hG.ff.cell (i := 2 + l) (by omega)).trans (congrArg some (HH.out.levels l (by omega)))
    have hth : wc.there (x.LV l) (g * 6) 6 := row_there (hG.lv l (by omega)) (by rw [← Hn.out]; omega)
    clear hG hK c1 f1
    go_upto_region 4 with fail
    go_cut [] from 15 (fun wc => Gst x lk N C (Plain.stepG fan G l 0) (layA fan t M G (Plain.stepG fan G l 0) A) L wc ∧ Keeps (Wr x lk) w wc)
    case first =>
      go_wp2_with ((refine wpList_store_mid (by rfl) 93 _ _ rfl (x.LV l) (g * 6) #[.int .i32 (g : Nat), .int .i32 (-1), .int .i32 0, .int .i8 (l : Nat), .bool (p == -1), .bool false] (by rfl) (by rfl) hth info93 (cell_one g l p) ?_))
      go_meet
      case rel =>
        have hgg := Hg.out
        have h := HG1.out.cell (fan := fan) (t := t) (M := M) (l := l) (i := g) (by omega) [.int .i32 (g : Nat), .int .i32 (-1), .int .i32 0, .int .i8 (l : Nat), .bool (p == -1), .bool false] rfl (fun r hr => by
          match r, hr with
          | 0, _ => rfl
          | 1, _ => rfl
          | 2, _ => rfl
          | 3, _ => rfl
          | 4, _ =>
            show Value.bool (p == -1) = Value.bool (Tp fan t M l g)
            rw [hgg, (fits_head HP.out.fits).2.2]
            rfl
          | 5, _ => rfl)
        rw [hgg] at h
        rw [layA_own, ← hgg, Nat.mul_comm 6 g] at h
        exact ⟨h, Keeps.setCells (.inl (.inr (.inl ⟨l, by omega, rfl⟩))) _ _ _ HK1.out⟩
    case rest =>
      obtain ⟨hG, hK⟩ := hcut
      have HG2 := hid' hG
      have HK2 := hid' hK
      clear hG hK cf c2 hth HG1 HK1
      go_upto_if 39 with fail
      go_cut [13] from 15 (fun s13 wc => s13 = .int .i32 (Ch fan t M l g) ∧ Gst x lk N C (doneG fan G l) (layA fan t M G (doneG fan G l) A) (layU fan t M l G (doneG fan G l) L) wc ∧ Keeps (Wr x lk) w wc)
      case first =>
        by_cases h0 : l = 0
        · have HC : Hid (Ch fan t M l g = -1) := by
            have hff := HP.out.fits
            have hgg := Hg.out
            subst h0
            rw [hgg]
            exact hff.2.2.2
          go_wp2
          go_meet
          case rel =>
            refine ⟨by rw [HC.out], ?_, HK2.out⟩
            have h := HG2.out
            subst h0
            rw [← doneG_zero] at h
            have e : layU fan t M 0 G (doneG fan G 0) L = L := by
              rw [doneG_zero, layU_zero]
            rw [e]
            exact h
        · obtain ⟨l0, hl0⟩ : ∃ l0, l = l0 + 1 := ⟨l - 1, by omega⟩
          obtain ⟨n0, hn0⟩ : ∃ n0, n0 = G l0 := ⟨_, rfl⟩
          obtain ⟨fn, hfn⟩ : ∃ fn, fn = fan l := ⟨_, rfl⟩
          have hw8 : IntKind.i8.wrap (((l : Nat) : Int) - 1) = (l0 : Int) := by rw [wrap_i8' (by omega) (by omega)]; omega
          have h05 : ((l0 : Nat) : Int) < 5 := by omega
          have hn0N : n0 ≤ 65536 := by
            have h1 := HP.out.room l0 (by omega)
            have h2 := le_doneG (fan := fan) G l l0
            have h3 := HN.out l0 (by omega)
            omega
          have hfn9 : fn ≤ 65536 := by rw [hfn]; exact HFn.out l
          have hG := HG2.out
          have c7 : wc.cell? ⟨x.GB, l0, none⟩ = some (.int .i32 (n0 : Nat)) := by
            have h := hG.gr.cell (i := l0) (by omega)
            rw [stepG_zero] at h
            dsimp only at h
            rw [if_neg (by omega)] at h
            rw [hn0]; exact h
          have cf : wc.cell? ⟨x.FV, 0, none⟩ = some (.pointer (some ⟨x.FF, 0, none⟩)) := hG.fv.cell (i := 0) (by omega)
          have c8 : wc.cell? ⟨x.FF, 33 + l, none⟩ = some (.int .i32 (fn : Nat)) := by rw [hfn]; exact (hG.ff.cell (i := 33 + l) (by omega)).trans (congrArg some (HH.out.fanout l (by omega)))
          have HC : Hid (Ch fan t M l g = (n0 : Int)) := by
            have hff := HP.out.fits
            have hgg := Hg.out
            rw [hgg, hn0]
            subst hl0
            exact hff.2.2.2.1
          have Hn0 := hid' hn0
          have Hfn := hid' hfn
          have Hl0 := hid' hl0
          clear hG hn0 hfn hl0
          go_wp2_with fail
          clear c7 cf c8
          generalize Value.bool (decide (0 < l)) = v39
          go_loopg [50] fn (fun gk s50 wr => ∃ q : Nat, gk = fn - q ∧ q ≤ fn ∧ s50 = .int .i32 q ∧ Gst x lk N C (Plain.stepG fan G l q) (layA fan t M G (Plain.stepG fan G l q) A) (layU fan t M l G (Plain.stepG fan G l q) L) wr ∧ Keeps (Wr x lk) w wr)
          case atStart =>
            refine ⟨0, rfl, Nat.zero_le _, rfl, ?_, HK2.out⟩
            rw [layU_zero]
            exact HG2.out
          case round =>
            obtain ⟨q, rfl, hq, rfl, hG, hK⟩ := hrel
            have HG4 := hid' hG
            have HK4 := hid' hK
            by_cases hqf : q < fn
            · obtain ⟨z, hz⟩ : ∃ z, z = sz fan l0 := ⟨_, rfl⟩
              obtain ⟨kz, hkz⟩ : ∃ kz, kz = q * z := ⟨_, rfl⟩
              have hkzi : ((q : Nat) : Int) * ((z : Nat) : Int) = (kz : Int) := by rw [hkz, Int.natCast_mul]
              have hsum : f + kz + z ≤ 65536 := by
                have h1 := HP.out.all
                have h2 : sz fan l = z * fn := by rw [Hfn.out, hz, Hl0.out]; rfl
                have h3 : (q + 1) * z ≤ fn * z := Nat.mul_le_mul_right z hqf
                rw [Nat.add_mul, Nat.one_mul, ← hkz] at h3
                rw [h2, Nat.mul_comm] at h1
                omega
              have cf : wr.cell? ⟨x.FV, 0, none⟩ = some (.pointer (some ⟨x.FF, 0, none⟩)) := hG.fv.cell (i := 0) (by omega)
              have cg : wr.cell? ⟨x.GV, 0, none⟩ = some (growV x) := hG.gv.cell (i := 0) (by omega)
              have cs : wr.cell? ⟨x.FF, 28 + l0, none⟩ = some (.int .i32 (z : Nat)) := by rw [hz]; exact (hG.ff.cell (i := 28 + l0) (by omega)).trans (congrArg some (HH.out.size l0 (by omega)))
              unfold growV at cg
              have Hz := hid' hz
              have Hkz := hid' hkz
              clear hG hK hz hkz
              obtain ⟨wo, hwo⟩ : ∃ wo, wo = wr := ⟨_, rfl⟩
              subst hwo
              go_upto_block 1 with fail
              go_cut [] from 51 to 69 (fun wc => Gst x lk N C (Plain.stepG fan G l (q + 1)) (layA fan t M G (Plain.stepG fan G l (q + 1)) A) (layU fan t M l G (Plain.stepG fan G l (q + 1)) L) wc ∧ Keeps (Wr x lk) w wc)
              case first =>
                go_upto_region 11 with fail
                obtain ⟨fk, hfk⟩ : ∃ fk, fk = f + kz := ⟨_, rfl⟩
                have y1 : IntKind.i32.wrap ((kz : Nat) : Int) = (kz : Int) := wrap_i32' (by omega) (by omega)
                have y2 : IntKind.i32.wrap (((f : Nat) : Int) + ((kz : Nat) : Int)) = (fk : Int) := by rw [wrap_i32' (by omega) (by omega)]; omega
                have HPre : Hid (GrowPre fan t M x lk N C l0 (Plain.stepG fan G l q) (layA fan t M G (Plain.stepG fan G l q) A) (layU fan t M l G (Plain.stepG fan G l q) L) fk ((g : Nat) : Int) wo.drew) := by
                  have hgg := Hg.out
                  have hff := HP.out.fits
                  refine ⟨by omega, HP.out.pos.mono (by have := Hl0.out; omega), HG4.out.keeps ((Keeps.refl _ _).drew), ?_, ?_, ?_, by omega, by omega⟩
                  · have hll := Hl0.out
                    rw [hfk, Hkz.out, Hz.out, hgg]
                    subst hll
                    exact hff.2.2.2.2 q (by rw [← Hfn.out]; exact hqf)
                  · intro l' hl'
                    have h1 := HP.out.room l' (by have := Hl0.out; omega)
                    have h2 := stepG_mono (fan := fan) G l (q := q + 1) (q' := fn) (by omega) l'
                    have hpl := HP.out.pos
                    have hll := Hl0.out
                    rw [Hfn.out] at h2
                    subst hll
                    rw [stepG_all G l0 hpl] at h2
                    rw [← stepG_succ]
                    omega
                  · rw [← Hz.out, hfk]; exact hsum
                clear hfk
                go_region_with (go_at_call 53; refine (HI.out l0 Hl0.out (Plain.stepG fan G l q) (layA fan t M G (Plain.stepG fan G l q) A) (layU fan t M l G (Plain.stepG fan G l q) L) fk ((g : Nat) : Int) wo.drew HPre.out).mono ?_; rintro e w2 ⟨rfl, hG2, hK2⟩)
                all_goals
                  have HG6 : Hid (Gst x lk N C (Plain.stepG fan G l (q + 1)) (layA fan t M G (Plain.stepG fan G l (q + 1)) A) (layU fan t M l G (Plain.stepG fan G l (q + 1)) L) w2) := by
                    have hll := Hl0.out
                    subst hll
                    rw [layU_succ, ← stepG_succ, layA_layA A (le_stepG G _ q) (stepG_mono G _ (by omega))] at hG2
                    exact hG2
                  have HK6 : Hid (Keeps (Wr x lk) w w2) := (HK4.out.drew).trans hK2
                  clear hG2 hK2
                  go_wp2
                  go_meet
                  case rel => exact ⟨HG6.out, HK6.out⟩
              case rest =>
                obtain ⟨hG, hK⟩ := hcut
                have HG5 := hid' hG
                have HK5 := hid' hK
                clear hG hK cf cg cs
                go_wp2
                go_roundg (fn - (q + 1))
                case measure => omega
                case rel => exact ⟨q + 1, rfl, by omega, by go_num, HG5.out, HK5.out⟩
            · clear hG hK
              go_wp2
              go_meet
              case rel =>
                have e1 : Plain.stepG fan G l q = doneG fan G l := by
                  have hpl := HP.out.pos
                  have e : q = fan l := by rw [← Hfn.out]; omega
                  rw [e]
                  rw [Hl0.out] at hpl ⊢
                  exact stepG_all G l0 hpl
                have h := HG4.out
                rw [e1] at h
                exact ⟨by rw [HC.out], h, HK4.out⟩
      case rest =>
        obtain ⟨rfl, hG, hK⟩ := hcut
        have HG3 := hid' hG
        have HK3 := hid' hK
        have cl : wc.cell? ⟨x.LB, 0, none⟩ = some (.bool lk) := hG.lb.cell (i := 0) (by omega)
        clear HG2 HK2
        cases lk with
        | false =>
          clear hG hK
          go_wp2
          go_ret
          refine ⟨?_, HG3.out.unlinked, HK3.out⟩
          show Ending.returned (.pointer (some ⟨x.LV l, g * 6, none⟩)) = _
          rw [Hg.out]
        | true =>
          have cf : wc.cell? ⟨x.FV, 0, none⟩ = some (.pointer (some ⟨x.FF, 0, none⟩)) := hG.fv.cell (i := 0) (by omega)
          have c22 : wc.cell? ⟨x.FF, 22, none⟩ = some (.pointer (some ⟨x.KB, 0, none⟩)) := (hG.ff.cell (i := 22) (by omega)).trans (congrArg some HH.out.links)
          have ck : wc.cell? ⟨x.KB, l, none⟩ = some (.slice (some ⟨x.LK l, 0, none⟩) n n) := by rw [Hn.out]; exact (hG.kb rfl).cell (i := l) (by omega)
          have hth : wc.there (x.LK l) (g * 3) 3 := row_there (hG.lkr rfl l (by omega)) (by rw [← Hn.out]; omega)
          clear hG hK
          go_wp2_with ((refine wpList_store_mid (by rfl) 98 _ _ rfl (x.LK l) (g * 3) #[.int .i32 (f : Nat), .int .i32 p, .int .i32 (Ch fan t M l g)] (by rfl) (by rfl) hth info98 (link_one f p _) ?_))
          go_ret
          have hgg := Hg.out
          have h := HG3.out.link (fan := fan) (t := t) (M := M) rfl (l := l) (i := g) (by omega) [.int .i32 (f : Nat), .int .i32 p, .int .i32 (Ch fan t M l g)] rfl (fun r hr => by
            have hh := fits_head HP.out.fits
            match r, hr with
            | 0, _ =>
              show Value.int .i32 (f : Nat) = Value.int .i32 (F fan t M l g : Nat)
              rw [hgg, hh.1]
            | 1, _ =>
              show Value.int .i32 p = Value.int .i32 (Pa fan t M l g)
              rw [hgg, hh.2.1]
            | 2, _ => rfl)
          rw [hgg, layU_done l G L HP.out.pos, ← hgg, Nat.mul_comm 3 g] at h
          refine ⟨?_, h, Keeps.setCells (.inl (.inr (.inr ⟨rfl, l, by omega, rfl⟩))) _ _ _ HK3.out⟩
          show Ending.returned (.pointer (some ⟨x.LV l, g * 6, none⟩)) = _
          rw [hgg]
theorem grow_any (fan t : Nat → Nat) (M : Nat) (x : Blk) (lk : Bool) (N : Nat → Nat) (C : Nat → Value) (hH : Head fan x lk N C) (hN : ∀ l, l < 5 → N l ≤ 65536) (hfan : ∀ l, fan l ≤ 65536) : ∀ (l : Nat) (G : Nat → Nat) (A L : Nat → Nat → Value) (f : Nat) (p : Int) (w : World), GrowPre fan t M x lk N C l G A L f p w →
    Calls Try.prog 53 #[.int .i8 l, .int .i32 f, .int .i32 p, .pointer (some ⟨x.GB, 0, none⟩), .pointer (some ⟨x.FV, 0, none⟩), .pointer (some ⟨x.GV, 0, none⟩), .pointer (some ⟨x.LB, 0, none⟩)] w (GrowPost fan t M x lk N C l G A L w) := by
  intro l
  induction l with
  | zero => exact fun G A L f p w h => grow_step fan t M x lk N C hH hN hfan 0 G A L f p w h (fun l0 e => absurd e (by omega))
  | succ l ih => exact fun G A L f p w h => grow_step fan t M x lk N C hH hN hfan (l + 1) G A L f p w h (fun l0 e => by
      have e2 : l = l0 := by omega
      subst e2
      exact ih)
end Go.Proofs.Qxb6609507a.U

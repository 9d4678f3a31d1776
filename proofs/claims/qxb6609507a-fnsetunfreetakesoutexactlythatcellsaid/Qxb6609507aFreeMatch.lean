import Derived.Test.Qxb6609507aSetMatch
import Derived.Test.Qxb6609507aLay
import Derived.Test.Qxb6609507aMake2
import Derived.Deep.CutBlock
/-! zzFreeMatches. -/
namespace Go.Proofs.Qxb6609507a.U
open Go.RowKit Go.Proofs.Qxb6609507a.Plain
set_option linter.unusedVariables false
set_option linter.unusedSimpArgs false

structure FrS (w : World) (FF : Nat) (C : Nat → Value) (N D WB cc : Nat → Nat) (XB : Nat → Nat → Nat) (S : Nat → Nat → Bool) (X : Nat → Nat → Nat → Nat) : Prop where
  ff : Row w FF 88 40 C
  f0 : ∀ l, l < 5 → C (7 + l * 3) = .slice (some ⟨WB l, 0, none⟩) (D l) (cc l)
  f1 : ∀ l, l < 5 → C (7 + l * 3 + 1) = .slice (some ⟨XB l 0, 0, none⟩) (wlen (N l) 0) (wlen (N l) 0)
  f2 : ∀ l, l < 5 → C (7 + l * 3 + 2) = .int .i64 (cnt (S l) (N l) : Nat)
  wd : ∀ l, l < 5 → Words w (N l) (D l) (WB l) (XB l) (X l)
  ok : ∀ l, l < 5 → Ok (wlen (N l)) (D l) (S l) (X l)
  dp : ∀ l, l < 5 → IsDepth (N l) (D l)
  n9 : ∀ l, l < 5 → N l ≤ 65536
  out : ∀ l, l < 5 → ∀ i, N l ≤ i → S l i = false
theorem Words.below {w w' : World} {n D WB : Nat} {XB : Nat → Nat} {X : Nat → Nat → Nat} (h : Words w n D WB XB X) (k : Below w.heap.size w w') : Words w' n D WB XB X :=
  ⟨h.table.below k h.table.lt, fun i hi => (h.row i hi).below k (h.row i hi).lt, h.inj, h.lt⟩
theorem FrS.below {w w' : World} {FF : Nat} {C : Nat → Value} {N D WB cc : Nat → Nat} {XB : Nat → Nat → Nat} {S : Nat → Nat → Bool} {X : Nat → Nat → Nat → Nat} (h : FrS w FF C N D WB cc XB S X) (k : Below w.heap.size w w') : FrS w' FF C N D WB cc XB S X :=
  ⟨h.ff.below k h.ff.lt, h.f0, h.f1, h.f2, fun l hl => (h.wd l hl).below k, h.ok, h.dp, h.n9, h.out⟩

theorem info4z : (Try.prog.info? 4).map (fun i => (i.zero, i.size, i.bytes)) = some (some (.bool false), 1, 1) := by kernel_rfl

set_option maxRecDepth 100000 in
set_option maxHeartbeats 8000000 in
theorem freeMatches_any (fan : Nat → Nat) {w : World} {FF : Nat} {C : Nat → Value} {N D WB cc : Nat → Nat} {XB : Nat → Nat → Nat} {S : Nat → Nat → Bool} {X : Nat → Nat → Nat → Nat} {V : Nat → Value} {MB : Nat} {T : Nat → Nat → Bool} (sl so : Nat)
    (hS : FrS w FF C N D WB cc XB S X) (hm : Row w MB 33 36 (layC fan V)) (hV : ∀ l, l < 5 → Sl w (V (26 + l)) 4 (N l) (fun i => .bool (T l i))) (hsl : sl < 5) (hso : so ≤ 65536)
    (hSe : ∀ l, l < 5 → ∀ i, i < N l → S l i = (T l i && !(decide (l = sl) && decide (i = so)))) :
    Calls Try.prog 14 #[.pointer (some ⟨FF, 0, none⟩), .pointer (some ⟨MB, 0, none⟩), .int .i64 (sl : Nat), .int .i32 (so : Nat)] w (fun e w' => e = .returned (.bool true) ∧ Below w.heap.size w w') := by
  have HS := hid hS
  have Hm := hid hm
  have HV := hid hV
  have HSe := hid hSe
  clear hS hm hV hSe
  go_enter Try.func14, Try.ntmps14
  go_wp2_with fail
  go_loopg [9] 5 (fun gk s9 wr => ∃ l : Nat, gk = 5 - l ∧ l ≤ 5 ∧ s9 = .int .i64 (l : Nat) ∧ Below w.heap.size w wr)
  case atStart => exact ⟨0, rfl, by omega, rfl, Below.refl _ _⟩
  case round =>
    obtain ⟨l, rfl, hl5, rfl, hb⟩ := hrel
    have HB := hid hb
    by_cases hl : l < 5
    · obtain ⟨n, hn⟩ : ∃ n, n = N l := ⟨_, rfl⟩
      have hn9 : n ≤ 65536 := by rw [hn]; exact HS.out.n9 l hl
      have hmr := Hm.out.below hb Hm.out.lt
      obtain ⟨at_, ct, hvt, hrow⟩ := HV.out l hl
      have cm : wr.cell? ⟨MB, 26 + l, none⟩ = some (.slice at_ n ct) := by
        rw [hn]
        refine (hmr.cell (by omega)).trans (congrArg some ?_)
        unfold layC
        rw [if_neg (by omega), if_neg (by omega)]
        exact hvt
      have hmk := run_make_rows (P := Try.prog) 30 4 (.bool false) 1 1 Try.underlying30 info4z .i64 .i64 n (by omega) (by omega)
      simp only [Value.cells, Nat.mul_one] at hmk
      have Hrow := hid hrow
      have Hn := hid hn
      have hlI : ((l : Nat) : Int) < 5 := by omega
      clear hn hmr hvt hrow
      obtain ⟨wo, hwo⟩ : ∃ wo, wo = wr := ⟨_, rfl⟩
      subst hwo
      go_upto_block 2 with fail
      go_cut [12] from 26 to 54 (fun s12 wx => Below w.heap.size w wx ∧ Row wx wo.heap.size 4 n (fun i => .bool (S l i)))
      case first =>
        go_wp2_with fail
        go_loopg [12] n (fun gk s12 wr => ∃ k : Nat, gk = n - k ∧ k ≤ n ∧ s12 = .int .i64 (k : Nat) ∧ Below w.heap.size w wr ∧ Row wr wo.heap.size 4 n (fun i => .bool (decide (i < k) && S l i)))
        case atStart =>
          refine ⟨0, rfl, Nat.zero_le _, rfl, HB.out.alloc HB.out.size _, ?_⟩
          exact (Row.made wo #[.bool false] n 4 (fun _ => .bool false) (by decide) (fun j hj => by
            have : j = 0 := by simpa using hj
            subst this; rfl)).congr (fun i _ => by rw [decide_eq_false (by omega), Bool.false_and])
        case round =>
          obtain ⟨k, rfl, hk, rfl, hb2, hr2⟩ := hrel
          have HB2 := hid hb2
          have HR2 := hid hr2
          by_cases hlt : k < n
          · obtain ⟨gt, rfl, hrt⟩ := Hrow.out (by rw [← Hn.out]; omega)
            obtain ⟨z, hz⟩ : ∃ z, z = T l k := ⟨_, rfl⟩
            have hmr := Hm.out.below hb2 Hm.out.lt
            have cm2 : wr.cell? ⟨MB, 26 + l, none⟩ = some (.slice (some ⟨gt, 0, none⟩) n ct) := by
              have h0 : w.cell? ⟨MB, 26 + l, none⟩ = some (.slice (some ⟨gt, 0, none⟩) n ct) := (HB.out.cell (by exact Hm.out.lt)).symm.trans cm
              exact (hb2.cell (by exact Hm.out.lt)).trans h0
            have cz : wr.cell? ⟨gt, k, none⟩ = some (.bool z) := by
              rw [hz]
              exact (hb2.cell (by exact hrt.lt)).trans (hrt.cell (by rw [← Hn.out]; exact hlt))
            have cw1 : wr.cell? ⟨wo.heap.size, k, none⟩ = some (.bool (decide (k < k) && S l k)) := hr2.cell hlt
            have fw := hr2.frozen
            have hkI : ((k : Nat) : Int) < (n : Int) := by omega
            have HSk : Hid (S l k = (z && !(decide (l = sl) && decide (k = so)))) := by
              show S l k = _
              rw [HSe.out l hl k (by rw [← Hn.out]; exact hlt), hz]
            have y1 : IntKind.i32.wrap ((k : Nat) : Int) = (k : Int) := by rw [IntKind.wrap_i32]; omega
            have HSTEP : ∀ v : Bool, v = S l k → Hid (Below w.heap.size w (wr.setCell ⟨wo.heap.size, k, none⟩ (.bool v)) ∧ Row (wr.setCell ⟨wo.heap.size, k, none⟩ (.bool v)) wo.heap.size 4 n (fun i => .bool (decide (i < k + 1) && S l i))) := fun v hv => by
              refine ⟨HB2.out.setCell HB.out.size _, (HR2.out.set k _).congr (fun i hi => ?_)⟩
              by_cases e : i = k
              · subst e
                rw [if_pos rfl, decide_eq_true (by omega), Bool.true_and, hv]
              · rw [if_neg e]
                by_cases e2 : i < k
                · rw [decide_eq_true e2, decide_eq_true (by omega)]
                · rw [decide_eq_false e2, decide_eq_false (by omega)]
            have HST := hid HSTEP
            clear HSTEP hz hrt hmr hb2 hr2 cm hb
            cases z with
            | false =>
              have HE : Hid (false = S l k) := by show false = S l k; rw [HSk.out]; rfl
              go_wp2
              go_roundg (n - (k + 1))
              case measure => omega
              case rel => exact ⟨k + 1, rfl, by omega, by go_num, (HST.out false HE.out).out.1, (HST.out false HE.out).out.2⟩
            | true =>
              by_cases e1 : l = sl
              · have b1 : (((l : Nat) : Int) == ((sl : Nat) : Int)) = true := beqT e1
                by_cases e2 : k = so
                · have b2 : (((k : Nat) : Int) == ((so : Nat) : Int)) = true := beqT e2
                  have HE : Hid (false = S l k) := by show false = S l k; rw [HSk.out, decide_eq_true e1, decide_eq_true e2]; rfl
                  clear e1 e2
                  go_wp2
                  go_roundg (n - (k + 1))
                  case measure => omega
                  case rel => exact ⟨k + 1, rfl, by omega, by go_num, (HST.out false HE.out).out.1, (HST.out false HE.out).out.2⟩
                · have b2 : (((k : Nat) : Int) == ((so : Nat) : Int)) = false := beqF e2
                  have HE : Hid (true = S l k) := by show true = S l k; rw [HSk.out, decide_eq_true e1, decide_eq_false e2]; rfl
                  clear e1 e2
                  go_wp2
                  go_roundg (n - (k + 1))
                  case measure => omega
                  case rel => exact ⟨k + 1, rfl, by omega, by go_num, (HST.out true HE.out).out.1, (HST.out true HE.out).out.2⟩
              · have b1 : (((l : Nat) : Int) == ((sl : Nat) : Int)) = false := beqF e1
                have HE : Hid (true = S l k) := by show true = S l k; rw [HSk.out, decide_eq_false e1]; rfl
                clear e1
                go_wp2
                go_roundg (n - (k + 1))
                case measure => omega
                case rel => exact ⟨k + 1, rfl, by omega, by go_num, (HST.out true HE.out).out.1, (HST.out true HE.out).out.2⟩
          · have HRe : Hid (Row wr wo.heap.size 4 n (fun i => .bool (S l i))) := hr2.congr (fun i hi => by rw [decide_eq_true (by omega), Bool.true_and])
            clear hb2 hr2
            go_wp2
            go_meet
            case rel => exact ⟨HB2.out, HRe.out⟩
      case rest =>
        obtain ⟨hb3, hr3⟩ := hcut
        have HB3 := hid hb3
        have hS3 := HS.out.below hb3
        have SI : SetIs wc FF l n (some ⟨wo.heap.size, 0, none⟩) C (D l) (WB l) (cc l) (XB l) (S l) (X l) := by
          have hnn := Hn.out
          refine ⟨hS3.ff, hl, hS3.f0 l hl, ?_, ?_, ?_, ?_, ?_, hn9, ?_, fun i hi => ⟨_, rfl, hr3.cell hi⟩⟩
          · rw [hnn]; exact hS3.f1 l hl
          · rw [hnn]; exact hS3.f2 l hl
          · rw [hnn]; exact hS3.wd l hl
          · rw [hnn]; exact hS3.ok l hl
          · rw [hnn]; exact hS3.dp l hl
          · rw [hnn]; exact hS3.out l hl
        have C22 := setMatches_any (cw := n) SI
        clear SI hS3 hb3 hr3 cm hb
        go_wp2_with (go_at_call 22; refine C22.mono ?_; rintro e w2 ⟨rfl, rfl⟩)
        go_roundg (5 - (l + 1))
        case measure => omega
        case rel => exact ⟨l + 1, rfl, by omega, by go_num, HB3.out⟩
    · clear hb
      go_wp2
      go_ret
      exact ⟨rfl, HB.out⟩
end Go.Proofs.Qxb6609507a.U

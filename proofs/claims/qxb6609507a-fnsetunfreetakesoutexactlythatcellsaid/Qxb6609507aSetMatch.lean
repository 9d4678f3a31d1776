import Derived.Test.Qxb6609507aSm2
import Derived.Test.Qxb6609507aSetIs
import Derived.Deep.CutBlock
namespace Go.Proofs.Qxb6609507a.U
open Go.RowKit Go.Proofs.Qxb6609507a.Plain
set_option linter.unusedVariables false
set_option linter.unusedSimpArgs false

set_option maxRecDepth 100000 in
set_option maxHeartbeats 8000000 in
theorem setMatches_any {w : World} {FF l nn : Nat} {aw : Option Addr} {cw : Nat} {C : Nat → Value} {D WB cc : Nat} {XB : Nat → Nat} {S : Nat → Bool} {X : Nat → Nat → Nat} (hS : SetIs w FF l nn aw C D WB cc XB S X) : Calls Try.prog 22 #[.pointer (some ⟨FF, 0, none⟩), .int .i64 (l : Nat), .slice aw nn cw] w (fun e w' => e = .returned (.bool true) ∧ w' = w) := by
  have HS := hid hS
  have hl := hS.hl
  have hn9 := hS.n9
  have hD := depth_le hn9 hS.dp
  have hD0 := hS.dp.1
  have C19 := acc19 hS.ff l _ hl hS.f2
  have C18 := acc18 hS.ff l D cc _ hl hS.f0
  have C44 := acc44 hS.ff l _ _ _ hl hS.f1
  have hw0 : wlen nn 0 = max ((nn + 63) / 64) 1 := rfl
  clear hS
  go_enter Try.func22, Try.ntmps22
  go_upto_block 0 with fail
  go_cut [8] from 23 to 33 (fun s8 wx => s8 = .int .i64 (cnt S nn : Nat) ∧ wx = w)
  case first =>
    go_wp2_with fail
    go_loopg [8, 9] nn (fun gk s8 s9 wr => ∃ i : Nat, gk = nn - i ∧ i ≤ nn ∧ s8 = .int .i64 (cnt S i : Nat) ∧ s9 = .int .i64 (i : Nat) ∧ wr = w)
    case atStart => exact ⟨0, rfl, Nat.zero_le _, rfl, rfl, rfl⟩
    case round =>
      obtain ⟨i, rfl, hi, rfl, rfl, rfl⟩ := hrel
      by_cases hlt : i < nn
      · obtain ⟨gw, rfl, cw1⟩ := HS.out.want i hlt
        obtain ⟨z, hz⟩ : ∃ z, z = S i := ⟨_, rfl⟩
        obtain ⟨cv, hcv⟩ : ∃ cv, cv = cnt S i := ⟨_, rfl⟩
        have hcv9 : cv ≤ 65536 := by rw [hcv]; exact Nat.le_trans (cnt_le S i) (by omega)
        have Hz := hid hz
        have Hcv := hid hcv
        rw [← hz] at cw1
        rw [← hcv]
        clear hz hcv C19 C18 C44
        cases z with
        | true =>
          go_wp2
          go_roundg (nn - (i + 1))
          case measure => omega
          case rel =>
            refine ⟨i + 1, rfl, by omega, ?_, by go_num, rfl⟩
            have e : cnt S (i + 1) = cv + 1 := by
              show cnt S i + (if S i = true then 1 else 0) = _
              rw [← Hz.out, Hcv.out]; rfl
            rw [e]; go_num
        | false =>
          go_wp2
          go_roundg (nn - (i + 1))
          case measure => omega
          case rel =>
            refine ⟨i + 1, rfl, by omega, ?_, by go_num, rfl⟩
            have e : cnt S (i + 1) = cv := by
              show cnt S i + (if S i = true then 1 else 0) = _
              rw [← Hz.out, Hcv.out]; rfl
            rw [e]
      · have e : i = nn := by omega
        go_wp2
        go_meet
        case rel => exact ⟨by rw [e], rfl⟩
  case rest =>
    obtain ⟨rfl, rfl⟩ := hcut
    by_cases h0 : nn = 0
    · subst h0
      have C44' : Calls Try.prog 44 #[.pointer (some ⟨FF, 0, none⟩), .int .i64 (l : Nat)] wc (fun e w' => e = .returned (.int .i64 1) ∧ w' = wc) := C44
      go_upto_block 2 with (first | (go_at_call 19; refine C19.mono ?_; rintro e w2 ⟨rfl, rfl⟩) | (go_at_call 18; refine C18.mono ?_; rintro e w2 ⟨rfl, rfl⟩) | (go_at_call 44; refine C44'.mono ?_; rintro e w2 ⟨rfl, rfl⟩))
      refine Code.wp_mono then_imp (sm2 (cw := cw) (XB := XB) (WB := WB) (cc := cc) (D := D) (C := C) (S := S) (X := X) (nn := 0) _ _ _ _ _ _ _ _ _ _ _ _ _ _ _ _ _ _ _ _ _ _ _ _ _ _ _ _ _ _ _ _ _ _ _ _ _ _ _ _ _ _ _ _ _ _ _ _ _ _ _ _ _ _ _ _ _ _ _ _ _ _ _ _ _ _ _ _ _ _ _ _ _ _ _ _ _ _ _ _ _ _ _ _ _ _ _ _ _ _ _ _ _ _ _ _ _ _ _ _ _ _ _ _ _ _ _ _ _ _ _ _ _ _ _ _ _ _ _ _ _ _ _ _ _ _ _ _ _ _ _ _ _ _ _ HS.out ?_)
      intro v6 v11 v12 v13 v14 v15 v16 v17 v18 v19 v20 v58 v59 v60 v61 v62 v63 v64 v65 v66 v67 v68 v69 v70 v71 v72 v73 v74 v75 v76 v77 v78 v79 v80 v81 v82 v83 v84 v85 v86 v87 v88 v89 v90 v91 v92 v93 v94 v95 v96 v97 v98 v99 v100 v101 v102 v103 v104 v105 v106 v107 v108 v109 v110 v111 v112 v113 v114 v115 v116 v117 v118 v119 v120 v121 v122 v123 v124 v125 v126 v127 v128 v129 v130 v131 v132 v133 v134 v135 v136 v137 v138 v139 v140
      go_wp2
      go_ret
      exact ⟨rfl, rfl⟩
    · have hq : (((nn : Nat) : Int) + 63) / 64 = ((wlen nn 0 : Nat) : Int) := by rw [hw0]; omega
      have hw9 := wlen_le hn9 0
      have hw1 := wlen_pos nn 0
      go_upto_block 2 with (first | (go_at_call 19; refine C19.mono ?_; rintro e w2 ⟨rfl, rfl⟩) | (go_at_call 18; refine C18.mono ?_; rintro e w2 ⟨rfl, rfl⟩) | (go_at_call 44; refine C44.mono ?_; rintro e w2 ⟨rfl, rfl⟩))
      refine Code.wp_mono then_imp (sm2 (cw := cw) (XB := XB) (WB := WB) (cc := cc) (D := D) (C := C) (S := S) (X := X) (nn := nn) _ _ _ _ _ _ _ _ _ _ _ _ _ _ _ _ _ _ _ _ _ _ _ _ _ _ _ _ _ _ _ _ _ _ _ _ _ _ _ _ _ _ _ _ _ _ _ _ _ _ _ _ _ _ _ _ _ _ _ _ _ _ _ _ _ _ _ _ _ _ _ _ _ _ _ _ _ _ _ _ _ _ _ _ _ _ _ _ _ _ _ _ _ _ _ _ _ _ _ _ _ _ _ _ _ _ _ _ _ _ _ _ _ _ _ _ _ _ _ _ _ _ _ _ _ _ _ _ _ _ _ _ _ _ _ HS.out ?_)
      intro v6 v11 v12 v13 v14 v15 v16 v17 v18 v19 v20 v58 v59 v60 v61 v62 v63 v64 v65 v66 v67 v68 v69 v70 v71 v72 v73 v74 v75 v76 v77 v78 v79 v80 v81 v82 v83 v84 v85 v86 v87 v88 v89 v90 v91 v92 v93 v94 v95 v96 v97 v98 v99 v100 v101 v102 v103 v104 v105 v106 v107 v108 v109 v110 v111 v112 v113 v114 v115 v116 v117 v118 v119 v120 v121 v122 v123 v124 v125 v126 v127 v128 v129 v130 v131 v132 v133 v134 v135 v136 v137 v138 v139 v140
      go_wp2
      go_ret
      exact ⟨rfl, rfl⟩

end Go.Proofs.Qxb6609507a.U

import Derived.Test.Qxb6609507aSm6
import Derived.Test.Qxb6609507aSetIs
import Derived.Deep.CutBlock
namespace Go.Proofs.Qxb6609507a.U
open Go.RowKit Go.Proofs.Qxb6609507a.Plain
set_option linter.unusedVariables false
set_option linter.unusedSimpArgs false

set_option maxRecDepth 100000 in
set_option maxHeartbeats 8000000 in
theorem sm4 {w : World} {FF l nn : Nat} {aw : Option Addr} {cw : Nat} {C : Nat → Value} {D WB cc : Nat} {XB : Nat → Nat} {S : Nat → Bool} {X : Nat → Nat → Nat} (k pl : Nat) (K : Act → World → Prop) (Q : Exit → Act → World → Prop) (c3 c4 c5 c6 c8 c9 c10 c11 c16 c17 c18 c19 c20 c21 c22 c23 c24 c25 c26 c27 c28 c29 c30 c31 c32 c33 c34 c35 c36 c37 c38 c39 c40 c41 c42 c43 c44 c45 c46 c47 c48 c49 c50 c51 c52 c53 c54 c55 c56 c57 c58 c59 c60 c61 c62 c63 c64 c65 c66 c67 c68 c69 c70 c71 c72 c73 c74 c75 c76 c77 c78 c79 c80 c81 c82 c83 c84 c85 c86 c87 c88 c89 c90 c91 c92 c93 c94 c95 c96 c97 c98 c99 c100 c101 c102 c103 c104 c105 c106 c107 c108 c109 c110 c111 c112 c113 c114 c115 c116 c117 c118 c119 c120 c121 c122 c123 c124 c125 c126 c127 c128 c129 c130 c131 c132 c133 c134 c135 c136 c137 c138 c139 c140 : Value)
    (hS : SetIs w FF l nn aw C D WB cc XB S X) (hk : k < D) (hpl : ∀ k0, k = k0 + 1 → pl = wlen nn k0)
    (hK : ∀ (u6 u15 u16 u17 u18 u19 u20 u77 u78 u79 u80 u81 u82 u83 u84 u85 u86 u87 u88 u89 u90 u91 u92 u93 u94 u95 u96 u97 u98 u99 u100 u101 u102 u103 u104 u105 u106 u107 u108 u109 u110 u111 u112 u113 u114 u115 u116 u117 u118 u119 u120 u121 u122 u123 u124 u125 u126 u127 u128 u129 u130 u131 u132 u133 u134 u135 u136 : Value), K ⟨(.pointer (some ⟨FF, 0, none⟩) :: .int .i64 (l : Nat) :: .slice aw nn cw :: c3 :: c4 :: c5 :: u6 :: .int .i64 (nn : Nat) :: c8 :: c9 :: c10 :: c11 :: .int .i64 (pl : Nat) :: .int .i64 (k : Nat) :: .int .i64 (wlen nn k : Nat) :: u15 :: u16 :: u17 :: u18 :: u19 :: u20 :: c21 :: c22 :: c23 :: c24 :: c25 :: c26 :: c27 :: c28 :: c29 :: c30 :: c31 :: c32 :: c33 :: c34 :: c35 :: c36 :: c37 :: c38 :: c39 :: c40 :: c41 :: c42 :: c43 :: c44 :: c45 :: c46 :: c47 :: c48 :: c49 :: c50 :: c51 :: c52 :: c53 :: c54 :: c55 :: c56 :: c57 :: c58 :: c59 :: c60 :: c61 :: c62 :: c63 :: c64 :: c65 :: c66 :: c67 :: c68 :: c69 :: c70 :: c71 :: c72 :: c73 :: c74 :: c75 :: c76 :: u77 :: u78 :: u79 :: u80 :: u81 :: u82 :: u83 :: u84 :: u85 :: u86 :: u87 :: u88 :: u89 :: u90 :: u91 :: u92 :: u93 :: u94 :: u95 :: u96 :: u97 :: u98 :: u99 :: u100 :: u101 :: u102 :: u103 :: u104 :: u105 :: u106 :: u107 :: u108 :: u109 :: u110 :: u111 :: u112 :: u113 :: u114 :: u115 :: u116 :: u117 :: u118 :: u119 :: u120 :: u121 :: u122 :: u123 :: u124 :: u125 :: u126 :: u127 :: u128 :: u129 :: u130 :: u131 :: u132 :: u133 :: u134 :: u135 :: u136 :: c137 :: c138 :: c139 :: c140 :: [] : List Value).toArray, []⟩ w) :
    Code.wp Try.prog ((Try.f22.body.bind (blockAt 4)).getD .skip) (Exit.then K (NoPanic Q)) ⟨(.pointer (some ⟨FF, 0, none⟩) :: .int .i64 (l : Nat) :: .slice aw nn cw :: c3 :: c4 :: c5 :: c6 :: .int .i64 (nn : Nat) :: c8 :: c9 :: c10 :: c11 :: .int .i64 (pl : Nat) :: .int .i64 (k : Nat) :: .int .i64 (wlen nn k : Nat) :: .int .i64 0 :: c16 :: c17 :: c18 :: c19 :: c20 :: c21 :: c22 :: c23 :: c24 :: c25 :: c26 :: c27 :: c28 :: c29 :: c30 :: c31 :: c32 :: c33 :: c34 :: c35 :: c36 :: c37 :: c38 :: c39 :: c40 :: c41 :: c42 :: c43 :: c44 :: c45 :: c46 :: c47 :: c48 :: c49 :: c50 :: c51 :: c52 :: c53 :: c54 :: c55 :: c56 :: c57 :: c58 :: c59 :: c60 :: c61 :: c62 :: c63 :: c64 :: c65 :: c66 :: c67 :: c68 :: c69 :: c70 :: c71 :: c72 :: c73 :: c74 :: c75 :: c76 :: c77 :: c78 :: c79 :: c80 :: c81 :: c82 :: c83 :: c84 :: c85 :: c86 :: c87 :: c88 :: c89 :: c90 :: c91 :: c92 :: c93 :: c94 :: c95 :: c96 :: c97 :: c98 :: c99 :: c100 :: c101 :: c102 :: c103 :: c104 :: c105 :: c106 :: c107 :: c108 :: c109 :: c110 :: c111 :: c112 :: c113 :: c114 :: c115 :: c116 :: c117 :: c118 :: c119 :: c120 :: c121 :: c122 :: c123 :: c124 :: c125 :: c126 :: c127 :: c128 :: c129 :: c130 :: c131 :: c132 :: c133 :: c134 :: c135 :: c136 :: c137 :: c138 :: c139 :: c140 :: [] : List Value).toArray, []⟩ w := by
  have HK : Hid _ := hK
  have HS := hid hS
  have hl := hS.hl
  have hn9 := hS.n9
  clear hK hS
  conv => arg 2; whnf
  obtain ⟨ln, hln⟩ : ∃ ln, ln = wlen nn k := ⟨_, rfl⟩
  have hwl : ln ≤ 1024 := by rw [hln]; exact wlen_le hn9 k
  have Hln := hid hln
  have HK2 : Hid _ := HK.out
  have hD := depth_le hn9 HS.out.dp
  have Hpl := hid hpl
  clear hpl
  go_cut [14] from 77 to 136 (fun s14 wx => s14 = .int .i64 (wlen nn k : Nat) ∧ wx = w)
  case first =>
    rw [← hln]
    clear hln
    go_wp2_with fail
    go_loopg [15] ln (fun gk s15 wr => ∃ j : Nat, gk = ln - j ∧ j ≤ ln ∧ s15 = .int .i64 (j : Nat) ∧ wr = w)
    case atStart => exact ⟨0, rfl, Nat.zero_le _, rfl, rfl⟩
    case round =>
      obtain ⟨j, rfl, hj, rfl, rfl⟩ := hrel
      by_cases hjl : j < ln
      · have hji : ((j : Nat) : Int) < (ln : Int) := by omega
        go_upto_block 6 with fail
        refine Code.wp_mono then_imp (sm6 (cw := cw) (XB := XB) (WB := WB) (cc := cc) (D := D) (C := C) (S := S) (X := X) (nn := nn) k j pl _ _ _ _ _ _ _ _ _ _ _ _ _ _ _ _ _ _ _ _ _ _ _ _ _ _ _ _ _ _ _ _ _ _ _ _ _ _ _ _ _ _ _ _ _ _ _ _ _ _ _ _ _ _ _ _ _ _ _ _ _ _ _ _ _ _ _ _ _ _ _ _ _ _ _ _ _ _ _ _ _ _ _ _ _ _ _ _ _ _ _ _ _ _ _ _ _ _ _ _ _ _ _ _ _ _ _ _ _ _ _ _ _ _ _ _ _ _ _ _ _ _ _ _ _ _ _ _ _ _ _ _ _ _ HS.out hk (by rw [← Hln.out]; exact hjl) Hpl.out ?_)
        intro v17 v18 v19 v82 v83 v84 v85 v86 v87 v88 v89 v90 v91 v92 v93 v94 v95 v96 v97 v98 v99 v100 v101 v102 v103 v104 v105 v106 v107 v108 v109 v110 v111 v112 v113 v114 v115 v116 v117 v118
        obtain ⟨xv, hxv⟩ : ∃ xv, xv = X k j := ⟨_, rfl⟩
        have hX := HS.out.wd.row k hk
        have C21 := acc21 HS.out.ff l k j D cc WB (XB k) _ _ (wlen nn k) (wlen nn k) (xv : Nat) hl HS.out.f0 HS.out.wd.table hk rfl hX (by rw [← Hln.out]; exact hjl) (by rw [hxv])
        rw [← hxv]
        by_cases hk0 : k = 0
        · have hbk : (((k : Nat) : Int) == 0) = true := beqT (b := 0) hk0
          have C45 := acc45 HS.out.ff l j (wlen nn 0) (wlen nn 0) (XB 0) _ (xv : Nat) hl HS.out.f1 (by have h := hX; rw [hk0] at h; exact h) (by have h := Hln.out; rw [hk0] at h; rw [← h]; exact hjl) (by rw [hxv, hk0])
          clear hX hxv hk0
          go_wp2_with (first | (go_at_call 21; refine C21.mono ?_; rintro e w2 ⟨rfl, rfl⟩) | (go_at_call 45; refine C45.mono ?_; rintro e w2 ⟨rfl, rfl⟩))
          go_roundg (ln - (j + 1))
          case measure => omega
          case rel => exact ⟨j + 1, rfl, by omega, by go_num, rfl⟩
        · have hbk : (((k : Nat) : Int) == 0) = false := beqF (b := 0) hk0
          clear hX hxv hk0
          go_wp2_with (go_at_call 21; refine C21.mono ?_; rintro e w2 ⟨rfl, rfl⟩)
          go_roundg (ln - (j + 1))
          case measure => omega
          case rel => exact ⟨j + 1, rfl, by omega, by go_num, rfl⟩
      · go_wp2
        go_meet
        case rel => exact ⟨by rw [Hln.out], rfl⟩
  case rest =>
    obtain ⟨rfl, rfl⟩ := hcut
    exact HK.out _ _ _ _ _ _ _ _ _ _ _ _ _ _ _ _ _ _ _ _ _ _ _ _ _ _ _ _ _ _ _ _ _ _ _ _ _ _ _ _ _ _ _ _ _ _ _ _ _ _ _ _ _ _ _ _ _ _ _ _ _ _ _ _ _ _ _ 

end Go.Proofs.Qxb6609507a.U

import Derived.Test.Qxb6609507aSm4
import Derived.Test.Qxb6609507aSetIs
import Derived.Deep.CutBlock
namespace Go.Proofs.Qxb6609507a.U
open Go.RowKit Go.Proofs.Qxb6609507a.Plain
set_option linter.unusedVariables false
set_option linter.unusedSimpArgs false

set_option maxRecDepth 100000 in
set_option maxHeartbeats 8000000 in
theorem sm2 {w : World} {FF l nn : Nat} {aw : Option Addr} {cw : Nat} {C : Nat → Value} {D WB cc : Nat} {XB : Nat → Nat} {S : Nat → Bool} {X : Nat → Nat → Nat}  (K : Act → World → Prop) (Q : Exit → Act → World → Prop) (c3 c4 c5 c6 c8 c9 c14 c15 c16 c17 c18 c19 c20 c21 c22 c23 c24 c25 c26 c27 c28 c29 c30 c31 c32 c33 c34 c35 c36 c37 c38 c39 c40 c41 c42 c43 c44 c45 c46 c47 c48 c49 c50 c51 c52 c53 c54 c55 c56 c57 c58 c59 c60 c61 c62 c63 c64 c65 c66 c67 c68 c69 c70 c71 c72 c73 c74 c75 c76 c77 c78 c79 c80 c81 c82 c83 c84 c85 c86 c87 c88 c89 c90 c91 c92 c93 c94 c95 c96 c97 c98 c99 c100 c101 c102 c103 c104 c105 c106 c107 c108 c109 c110 c111 c112 c113 c114 c115 c116 c117 c118 c119 c120 c121 c122 c123 c124 c125 c126 c127 c128 c129 c130 c131 c132 c133 c134 c135 c136 c137 c138 c139 c140 : Value)
    (hS : SetIs w FF l nn aw C D WB cc XB S X) 
    (hK : ∀ (u6 u11 u12 u13 u14 u15 u16 u17 u18 u19 u20 u58 u59 u60 u61 u62 u63 u64 u65 u66 u67 u68 u69 u70 u71 u72 u73 u74 u75 u76 u77 u78 u79 u80 u81 u82 u83 u84 u85 u86 u87 u88 u89 u90 u91 u92 u93 u94 u95 u96 u97 u98 u99 u100 u101 u102 u103 u104 u105 u106 u107 u108 u109 u110 u111 u112 u113 u114 u115 u116 u117 u118 u119 u120 u121 u122 u123 u124 u125 u126 u127 u128 u129 u130 u131 u132 u133 u134 u135 u136 u137 u138 u139 u140 : Value), K ⟨(.pointer (some ⟨FF, 0, none⟩) :: .int .i64 (l : Nat) :: .slice aw nn cw :: c3 :: c4 :: c5 :: u6 :: .int .i64 (nn : Nat) :: c8 :: c9 :: .int .i64 (D : Nat) :: u11 :: u12 :: u13 :: u14 :: u15 :: u16 :: u17 :: u18 :: u19 :: u20 :: c21 :: c22 :: c23 :: c24 :: c25 :: c26 :: c27 :: c28 :: c29 :: c30 :: c31 :: c32 :: c33 :: c34 :: c35 :: c36 :: c37 :: c38 :: c39 :: c40 :: c41 :: c42 :: c43 :: c44 :: c45 :: c46 :: c47 :: c48 :: c49 :: c50 :: c51 :: c52 :: c53 :: c54 :: c55 :: c56 :: c57 :: u58 :: u59 :: u60 :: u61 :: u62 :: u63 :: u64 :: u65 :: u66 :: u67 :: u68 :: u69 :: u70 :: u71 :: u72 :: u73 :: u74 :: u75 :: u76 :: u77 :: u78 :: u79 :: u80 :: u81 :: u82 :: u83 :: u84 :: u85 :: u86 :: u87 :: u88 :: u89 :: u90 :: u91 :: u92 :: u93 :: u94 :: u95 :: u96 :: u97 :: u98 :: u99 :: u100 :: u101 :: u102 :: u103 :: u104 :: u105 :: u106 :: u107 :: u108 :: u109 :: u110 :: u111 :: u112 :: u113 :: u114 :: u115 :: u116 :: u117 :: u118 :: u119 :: u120 :: u121 :: u122 :: u123 :: u124 :: u125 :: u126 :: u127 :: u128 :: u129 :: u130 :: u131 :: u132 :: u133 :: u134 :: u135 :: u136 :: u137 :: u138 :: u139 :: u140 :: [] : List Value).toArray, []⟩ w) :
    Code.wp Try.prog ((Try.f22.body.bind (blockAt 2)).getD .skip) (Exit.then K (NoPanic Q)) ⟨(.pointer (some ⟨FF, 0, none⟩) :: .int .i64 (l : Nat) :: .slice aw nn cw :: c3 :: c4 :: c5 :: c6 :: .int .i64 (nn : Nat) :: c8 :: c9 :: .int .i64 (D : Nat) :: .int .i64 (wlen nn 0 : Nat) :: .int .i64 0 :: .int .i64 0 :: c14 :: c15 :: c16 :: c17 :: c18 :: c19 :: c20 :: c21 :: c22 :: c23 :: c24 :: c25 :: c26 :: c27 :: c28 :: c29 :: c30 :: c31 :: c32 :: c33 :: c34 :: c35 :: c36 :: c37 :: c38 :: c39 :: c40 :: c41 :: c42 :: c43 :: c44 :: c45 :: c46 :: c47 :: c48 :: c49 :: c50 :: c51 :: c52 :: c53 :: c54 :: c55 :: c56 :: c57 :: c58 :: c59 :: c60 :: c61 :: c62 :: c63 :: c64 :: c65 :: c66 :: c67 :: c68 :: c69 :: c70 :: c71 :: c72 :: c73 :: c74 :: c75 :: c76 :: c77 :: c78 :: c79 :: c80 :: c81 :: c82 :: c83 :: c84 :: c85 :: c86 :: c87 :: c88 :: c89 :: c90 :: c91 :: c92 :: c93 :: c94 :: c95 :: c96 :: c97 :: c98 :: c99 :: c100 :: c101 :: c102 :: c103 :: c104 :: c105 :: c106 :: c107 :: c108 :: c109 :: c110 :: c111 :: c112 :: c113 :: c114 :: c115 :: c116 :: c117 :: c118 :: c119 :: c120 :: c121 :: c122 :: c123 :: c124 :: c125 :: c126 :: c127 :: c128 :: c129 :: c130 :: c131 :: c132 :: c133 :: c134 :: c135 :: c136 :: c137 :: c138 :: c139 :: c140 :: [] : List Value).toArray, []⟩ w := by
  have HK : Hid _ := hK
  have HS := hid hS
  have hl := hS.hl
  have hn9 := hS.n9
  clear hK hS
  conv => arg 2; whnf
  have hD := depth_le hn9 HS.out.dp
  go_cut [11] from 58 to 140 (fun s11 wx => wx = w)
  case first =>
    go_wp2_with fail
    go_loopg [11, 12, 13] D (fun gk s11 s12 s13 wr => ∃ k pl : Nat, gk = D - k ∧ k ≤ D ∧ s11 = .int .i64 (wlen nn k : Nat) ∧ s12 = .int .i64 (pl : Nat) ∧ s13 = .int .i64 (k : Nat) ∧ (∀ k0, k = k0 + 1 → pl = wlen nn k0) ∧ wr = w)
    case atStart => exact ⟨0, 0, rfl, Nat.zero_le _, rfl, rfl, rfl, fun k0 h => absurd h (by omega), rfl⟩
    case round =>
      obtain ⟨k, pl, rfl, hk, rfl, rfl, rfl, hpl, rfl⟩ := hrel
      have Hpl := hid hpl
      clear hpl
      by_cases hkD : k < D
      · obtain ⟨ln, hln⟩ : ∃ ln, ln = wlen nn k := ⟨_, rfl⟩
        have hwl : ln ≤ 1024 := by rw [hln]; exact wlen_le hn9 k
        have C20 := acc20 HS.out.ff l k D cc WB _ (some ⟨XB k, 0, none⟩) (wlen nn k) (wlen nn k) hl HS.out.f0 HS.out.wd.table hkD rfl
        rw [← hln] at C20
        have Hln := hid hln
        have hkDi : ((k : Nat) : Int) < (D : Int) := by omega
        have hnx : (((ln : Nat) : Int) + 63) / 64 = ((wlen nn (k + 1) : Nat) : Int) := by
          have h : wlen nn (k + 1) = (wlen nn k + 63) / 64 := rfl
          rw [h, ← hln]; omega
        have hnx2 := wlen_le hn9 (k + 1)
        have Hnext : Hid (∀ k0, k + 1 = k0 + 1 → ln = wlen nn k0) := by
          intro k0 h
          have e : k0 = k := by omega
          rw [e]; exact Hln.out
        rw [← hln]
        clear hln
        by_cases hlast : k = D - 1
        · have h1 : (((k : Nat) : Int) == ((D : Nat) : Int) - 1) = true := by simp; omega
          have h2 : ln = 1 := by rw [Hln.out, hlast]; exact HS.out.dp.2.1
          have h2i : (((ln : Nat) : Int) == 1) = true := beqT (b := 1) h2
          clear h2 hlast
          go_upto_block 4 with (go_at_call 20; refine C20.mono ?_; rintro e w2 ⟨rfl, rfl⟩)
          rw [Hln.out]
          refine Code.wp_mono then_imp (sm4 (cw := cw) (XB := XB) (WB := WB) (cc := cc) (D := D) (C := C) (S := S) (X := X) (nn := nn) k pl _ _ _ _ _ _ _ _ _ _ _ _ _ _ _ _ _ _ _ _ _ _ _ _ _ _ _ _ _ _ _ _ _ _ _ _ _ _ _ _ _ _ _ _ _ _ _ _ _ _ _ _ _ _ _ _ _ _ _ _ _ _ _ _ _ _ _ _ _ _ _ _ _ _ _ _ _ _ _ _ _ _ _ _ _ _ _ _ _ _ _ _ _ _ _ _ _ _ _ _ _ _ _ _ _ _ _ _ _ _ _ _ _ _ _ _ _ _ _ _ _ _ _ _ _ _ _ _ _ _ _ _ _ _ _ HS.out hkD Hpl.out ?_)
          intro v6 v15 v16 v17 v18 v19 v20 v77 v78 v79 v80 v81 v82 v83 v84 v85 v86 v87 v88 v89 v90 v91 v92 v93 v94 v95 v96 v97 v98 v99 v100 v101 v102 v103 v104 v105 v106 v107 v108 v109 v110 v111 v112 v113 v114 v115 v116 v117 v118 v119 v120 v121 v122 v123 v124 v125 v126 v127 v128 v129 v130 v131 v132 v133 v134 v135 v136
          rw [← Hln.out]
          go_wp2
          go_roundg (D - (k + 1))
          case measure => omega
          case rel => exact ⟨k + 1, ln, rfl, by omega, by first | rfl | (rw [← hnx]) | go_num, rfl, by go_num, Hnext.out, rfl⟩
        · have h1 : (((k : Nat) : Int) == ((D : Nat) : Int) - 1) = false := by simp; omega
          have h2 : 1 < ln := by rw [Hln.out]; exact HS.out.dp.2.2 k (by omega)
          have h2i : (((ln : Nat) : Int) == 1) = false := beqF (b := 1) (by omega)
          clear hlast
          go_upto_block 4 with (go_at_call 20; refine C20.mono ?_; rintro e w2 ⟨rfl, rfl⟩)
          rw [Hln.out]
          refine Code.wp_mono then_imp (sm4 (cw := cw) (XB := XB) (WB := WB) (cc := cc) (D := D) (C := C) (S := S) (X := X) (nn := nn) k pl _ _ _ _ _ _ _ _ _ _ _ _ _ _ _ _ _ _ _ _ _ _ _ _ _ _ _ _ _ _ _ _ _ _ _ _ _ _ _ _ _ _ _ _ _ _ _ _ _ _ _ _ _ _ _ _ _ _ _ _ _ _ _ _ _ _ _ _ _ _ _ _ _ _ _ _ _ _ _ _ _ _ _ _ _ _ _ _ _ _ _ _ _ _ _ _ _ _ _ _ _ _ _ _ _ _ _ _ _ _ _ _ _ _ _ _ _ _ _ _ _ _ _ _ _ _ _ _ _ _ _ _ _ _ _ HS.out hkD Hpl.out ?_)
          intro v6 v15 v16 v17 v18 v19 v20 v77 v78 v79 v80 v81 v82 v83 v84 v85 v86 v87 v88 v89 v90 v91 v92 v93 v94 v95 v96 v97 v98 v99 v100 v101 v102 v103 v104 v105 v106 v107 v108 v109 v110 v111 v112 v113 v114 v115 v116 v117 v118 v119 v120 v121 v122 v123 v124 v125 v126 v127 v128 v129 v130 v131 v132 v133 v134 v135 v136
          rw [← Hln.out]
          go_wp2
          go_roundg (D - (k + 1))
          case measure => omega
          case rel => exact ⟨k + 1, ln, rfl, by omega, by first | rfl | (rw [← hnx]) | go_num, rfl, by go_num, Hnext.out, rfl⟩
      · go_wp2
        go_meet
        case rel => exact rfl
  case rest =>
    subst hcut
    exact HK.out _ _ _ _ _ _ _ _ _ _ _ _ _ _ _ _ _ _ _ _ _ _ _ _ _ _ _ _ _ _ _ _ _ _ _ _ _ _ _ _ _ _ _ _ _ _ _ _ _ _ _ _ _ _ _ _ _ _ _ _ _ _ _ _ _ _ _ _ _ _ _ _ _ _ _ _ _ _ _ _ _ _ _ _ _ _ _ _ _ _ _ _ _ _ 

end Go.Proofs.Qxb6609507a.U

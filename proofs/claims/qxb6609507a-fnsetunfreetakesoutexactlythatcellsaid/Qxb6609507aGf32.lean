import Derived.Test.Qxb6609507aPlant2
import Derived.Test.Qxb6609507aPlant
import Derived.Test.Qxb6609507aBody0
import Derived.Deep.CutBlock
import Derived.Deep.RegionWith
import Derived.Deep.RegionLaw
import Derived.Deep.RegionHeld3
import Derived.Deep.RegionHeldLaw
namespace Go.Proofs.Qxb6609507a.U
open Go.RowKit Go.Proofs.Qxb6609507a.Plain
set_option linter.unusedVariables false
set_option linter.unusedSimpArgs false

set_option maxRecDepth 100000 in
set_option maxHeartbeats 8000000 in
theorem gf32 (fan t : Nat → Nat) (M : Nat) (a0 : Option Addr) (c0' : Nat) {B : Nat} {w : World} {x : Blk} {lk : Bool} {N D WB cc : Nat → Nat} {XB : Nat → Nat → Nat} (j T : Nat)  (wc : World) (K : Act → World → Prop) (Q : Exit → Act → World → Prop) (c0 c2 c3 c4 c5 c6 c8 c9 c10 c11 c12 c16 c19 c20 c21 c22 c23 c24 c25 c26 c27 c28 c29 c30 c31 c32 c33 c34 c35 c36 c37 c38 c39 c40 c41 c42 c43 c44 c45 c46 c47 c48 c49 c50 c51 c52 c53 c54 c55 c56 c57 c58 c59 c60 c61 c62 c63 c64 c65 c66 c67 c68 c69 c70 c71 c72 c73 c74 c75 c76 c77 c78 c79 c80 c81 c82 c83 c84 c85 c86 c87 c88 c89 c90 c91 c92 c93 c94 c95 c96 c97 c98 c99 c100 c101 c102 c103 c104 c105 c106 c107 c108 c109 c110 c111 c112 c113 c114 c115 c116 c117 c118 c119 c120 c121 c122 c123 c124 c125 c126 c127 c128 c129 c130 c131 c132 c133 c134 c135 c136 c137 c138 c139 c140 c141 c142 c143 c144 c145 c146 c147 c148 c149 c150 c151 c152 c153 c154 c155 c156 c157 c158 c159 c160 c161 c162 c163 c164 c165 c166 c167 c168 c169 c170 c171 c172 c173 c174 c175 c176 c177 c178 c179 c180 c181 c182 c183 c184 c185 c186 c187 c188 c189 c190 c191 c192 c193 c194 c195 c196 c197 c198 c199 c200 c201 c202 c203 c204 c205 c206 : Value)
    (hT : Trees fan t M) (hj : j < M) (hTj : T = t j) (hN : ∀ l, l < 5 → N l = bs fan t M l)
    (hP : Pl fan t M B w x lk N D WB cc XB (j + 1) (j + 1) j j wc)
    (hK : ∀ (u140 u141 u142 u143 u144 u145 u146 u147 u148 u149 : Value) (wx : World), Pl fan t M B w x lk N D WB cc XB (j + 1) (j + 1) (j + 1) j wx → K ⟨(c0 :: .slice a0 M c0' :: c2 :: c3 :: c4 :: c5 :: c6 :: .pointer (some ⟨x.FV, 0, none⟩) :: c8 :: c9 :: c10 :: c11 :: c12 :: .pointer (some ⟨x.GB, 0, none⟩) :: .pointer (some ⟨x.GV, 0, none⟩) :: .int .i32 (off fan t j : Nat) :: c16 :: .int .i8 (T : Nat) :: .pointer (some ⟨x.LV T, bs fan t j T * 6, none⟩) :: c19 :: c20 :: c21 :: c22 :: c23 :: c24 :: c25 :: c26 :: c27 :: c28 :: c29 :: c30 :: c31 :: c32 :: c33 :: c34 :: c35 :: c36 :: c37 :: c38 :: c39 :: c40 :: c41 :: c42 :: c43 :: c44 :: c45 :: c46 :: c47 :: c48 :: c49 :: c50 :: c51 :: c52 :: c53 :: c54 :: c55 :: c56 :: c57 :: c58 :: c59 :: c60 :: c61 :: c62 :: c63 :: c64 :: c65 :: c66 :: c67 :: c68 :: c69 :: c70 :: c71 :: c72 :: c73 :: c74 :: c75 :: c76 :: c77 :: c78 :: c79 :: c80 :: c81 :: c82 :: c83 :: c84 :: c85 :: c86 :: c87 :: c88 :: c89 :: c90 :: c91 :: c92 :: c93 :: c94 :: c95 :: c96 :: c97 :: c98 :: c99 :: c100 :: c101 :: c102 :: c103 :: c104 :: c105 :: c106 :: c107 :: c108 :: c109 :: c110 :: c111 :: c112 :: c113 :: c114 :: c115 :: c116 :: c117 :: c118 :: c119 :: c120 :: c121 :: c122 :: c123 :: c124 :: c125 :: c126 :: c127 :: c128 :: c129 :: c130 :: c131 :: c132 :: c133 :: c134 :: c135 :: c136 :: c137 :: c138 :: c139 :: u140 :: u141 :: u142 :: u143 :: u144 :: u145 :: u146 :: u147 :: u148 :: u149 :: c150 :: c151 :: c152 :: c153 :: c154 :: c155 :: c156 :: c157 :: c158 :: c159 :: c160 :: c161 :: c162 :: c163 :: c164 :: c165 :: c166 :: c167 :: c168 :: c169 :: c170 :: c171 :: c172 :: c173 :: c174 :: c175 :: c176 :: c177 :: c178 :: c179 :: c180 :: c181 :: c182 :: c183 :: c184 :: c185 :: c186 :: c187 :: c188 :: c189 :: c190 :: c191 :: c192 :: c193 :: c194 :: c195 :: c196 :: c197 :: c198 :: c199 :: c200 :: c201 :: c202 :: c203 :: c204 :: c205 :: c206 :: [] : List Value).toArray, []⟩ wx) :
    Code.wp Try.prog ((Try.f35.body.bind (regionAt 32)).getD .skip) (Exit.then K (NoPanic Q)) ⟨(c0 :: .slice a0 M c0' :: c2 :: c3 :: c4 :: c5 :: c6 :: .pointer (some ⟨x.FV, 0, none⟩) :: c8 :: c9 :: c10 :: c11 :: c12 :: .pointer (some ⟨x.GB, 0, none⟩) :: .pointer (some ⟨x.GV, 0, none⟩) :: .int .i32 (off fan t j : Nat) :: c16 :: .int .i8 (T : Nat) :: .pointer (some ⟨x.LV T, bs fan t j T * 6, none⟩) :: c19 :: c20 :: c21 :: c22 :: c23 :: c24 :: c25 :: c26 :: c27 :: c28 :: c29 :: c30 :: c31 :: c32 :: c33 :: c34 :: c35 :: c36 :: c37 :: c38 :: c39 :: c40 :: c41 :: c42 :: c43 :: c44 :: c45 :: c46 :: c47 :: c48 :: c49 :: c50 :: c51 :: c52 :: c53 :: c54 :: c55 :: c56 :: c57 :: c58 :: c59 :: c60 :: c61 :: c62 :: c63 :: c64 :: c65 :: c66 :: c67 :: c68 :: c69 :: c70 :: c71 :: c72 :: c73 :: c74 :: c75 :: c76 :: c77 :: c78 :: c79 :: c80 :: c81 :: c82 :: c83 :: c84 :: c85 :: c86 :: c87 :: c88 :: c89 :: c90 :: c91 :: c92 :: c93 :: c94 :: c95 :: c96 :: c97 :: c98 :: c99 :: c100 :: c101 :: c102 :: c103 :: c104 :: c105 :: c106 :: c107 :: c108 :: c109 :: c110 :: c111 :: c112 :: c113 :: c114 :: c115 :: c116 :: c117 :: c118 :: c119 :: c120 :: c121 :: c122 :: c123 :: c124 :: c125 :: c126 :: c127 :: c128 :: c129 :: c130 :: c131 :: c132 :: c133 :: c134 :: c135 :: c136 :: c137 :: c138 :: c139 :: c140 :: c141 :: c142 :: c143 :: c144 :: c145 :: c146 :: c147 :: c148 :: c149 :: c150 :: c151 :: c152 :: c153 :: c154 :: c155 :: c156 :: c157 :: c158 :: c159 :: c160 :: c161 :: c162 :: c163 :: c164 :: c165 :: c166 :: c167 :: c168 :: c169 :: c170 :: c171 :: c172 :: c173 :: c174 :: c175 :: c176 :: c177 :: c178 :: c179 :: c180 :: c181 :: c182 :: c183 :: c184 :: c185 :: c186 :: c187 :: c188 :: c189 :: c190 :: c191 :: c192 :: c193 :: c194 :: c195 :: c196 :: c197 :: c198 :: c199 :: c200 :: c201 :: c202 :: c203 :: c204 :: c205 :: c206 :: [] : List Value).toArray, []⟩ wc := by
  have HK : Hid _ := hK
  have HT := hid hT
  have HTj := hid hTj
  have HN := hid hN
  have hM9 := hT.few
  have hT4 : T ≤ 4 := by rw [hTj]; exact hT.top j hj
  have hT5 : ((T : Nat) : Int) < 5 := by omega
  have hoff : off fan t j ≤ 65536 := Nat.le_trans (off_mono (by omega)) hT.all
  have hbM : ∀ l, bs fan t M l ≤ 65536 := fun l => Nat.le_trans (bs_le_off l M) hT.all
  have hgN : bs fan t j T < N T := by
    rw [hN T (by omega)]
    have h1 := bs_mono (fan := fan) (t := t) (show j + 1 ≤ M by omega) T
    have h2 : bs fan t (j + 1) T = bs fan t j T + 1 := by
      show bs fan t j T + cn fan (t j) T = _
      rw [hTj, cn_self (hT.pos j hj)]
    omega
  have hN9 : ∀ l, l < 5 → N l ≤ 65536 := fun l hl => by rw [hN l hl]; exact hbM l
  have HN9 := hid hN9
  have hg9 : bs fan t j T ≤ 65536 := by have := hN9 T (by omega); omega
  clear hK hT hN hTj hbM hN9
  conv => arg 2; whnf
  obtain ⟨C, X, V0, V1, hC, hM⟩ := hP
  have HC := hid hC
  have HM := hid hM
  obtain ⟨gq, hgq⟩ : ∃ gq, gq = bs fan t j T := ⟨_, rfl⟩
  obtain ⟨d1, d2, d3, d4⟩ := lv_cells HT.out hj HTj.out hgN hM.base.st
  rw [← hgq] at d1 d2 hgN hg9 ⊢
  have cf : wc.cell? ⟨x.FV, 0, none⟩ = some (.pointer (some ⟨x.FF, 0, none⟩)) := hM.base.st.fv.cell (i := 0) (by omega)
  have hfr := hM.base.fr T (by omega)
  have SF := setFree_any x.FF T (N T) (D T) (WB T) (cc T) gq (XB T) (SJ fan t M j T) (X T) C (cnt (SJ fan t M j T) (N T)) wc.drew (by omega) hM.base.st.ff (hC.f0 T (by omega)) (hC.f2 T (by omega)) (Nat.le_trans (cnt_le _ _) (HN9.out T (by omega))) hfr.2.2.2.1 hfr.2.2.1 (HN9.out T (by omega)) hfr.1.drew hfr.2.1 hgN (by rw [hgq]; exact SJ_new j T)
  have Hgq := hid hgq
  clear hC hM hfr hgq
  go_cut [] from 140 to 149 (fun wx => Pl fan t M B w x lk N D WB cc XB (j + 1) (j + 1) (j + 1) j wx)
  case first =>
    go_region_with (go_at_call 46; refine SF.mono ?_; rintro e w2 ⟨rfl, hk2, hF2, Y, hW2, hO2⟩)
    all_goals
      have HF : Hid (Pl fan t M B w x lk N D WB cc XB (j + 1) (j + 1) (j + 1) j w2) := by
        have hTj := HTj.out
        have hgqe := Hgq.out
        subst hTj
        have hp := HT.out.pos j hj
        have hS : (fun i => SJ fan t M j (t j) i || decide (i = gq)) = SJ fan t M (j + 1) (t j) := by rw [hgqe]; exact (SJ_own hj hp).symm
        have hcnt : cnt (SJ fan t M (j + 1) (t j)) (N (t j)) = cnt (SJ fan t M j (t j)) (N (t j)) + 1 := by
          rw [← hS]
          exact cnt_add (by rw [hgqe]; exact SJ_new j (t j)) hgN
        exact ⟨_, _, V0, V1, HC.out.free (by omega) (fun l hl e => SJ_other hj e) (by rw [hcnt]; omega), (HM.out.keeps ((Keeps.refl _ _).drew)).free hj hp (by omega) hS hk2 hF2 hW2 hO2⟩
      clear hk2 hF2 hW2 hO2
      go_wp2
      go_meet
      case rel => exact HF.out
  case rest =>
    rw [Hgq.out]
    exact HK.out _ _ _ _ _ _ _ _ _ _ _ hcut

end Go.Proofs.Qxb6609507a.U

import Derived.Test.Qxb6609507aGf30
import Derived.Test.Qxb6609507aGf31
import Derived.Test.Qxb6609507aGf32
import Derived.Test.Qxb6609507aGf34
import Derived.Test.Qxb6609507aGfIf
import Derived.Test.Qxb6609507aPlant
import Derived.Test.Qxb6609507aBody0
import Derived.Deep.CutBlock
import Derived.Deep.RegionWith
import Derived.Deep.RegionLaw
import Derived.Deep.RegionHeld3
import Derived.Deep.RegionHeldLaw
namespace Go.Proofs.Qxb6609507a.U
open Go.RowKit Go.Proofs.Qxb6609507a.Plain
set_option linter.unusedVariables false
set_option linter.unusedSimpArgs false

set_option maxRecDepth 100000 in
set_option maxHeartbeats 8000000 in
theorem gfB7 (fan t : Nat → Nat) (M : Nat) (a0 : Option Addr) (c0' : Nat) {B : Nat} {w : World} {x : Blk} {lk : Bool} {N D WB cc : Nat → Nat} {XB : Nat → Nat → Nat} (j T : Nat) (tb ob : Nat) (wc : World) (K : Act → World → Prop) (Q : Exit → Act → World → Prop) (c0 c2 c3 c4 c5 c6 c8 c9 c10 c11 c12 c16 c17 c18 c19 c20 c21 c22 c23 c24 c25 c26 c27 c28 c29 c30 c31 c32 c33 c34 c35 c36 c37 c38 c39 c40 c41 c42 c43 c44 c45 c46 c47 c48 c49 c50 c51 c52 c53 c54 c55 c56 c57 c58 c59 c60 c61 c62 c63 c64 c65 c66 c67 c68 c69 c70 c71 c72 c73 c74 c75 c76 c77 c78 c79 c80 c81 c82 c83 c84 c85 c86 c87 c88 c89 c90 c91 c92 c93 c94 c95 c96 c97 c98 c99 c100 c101 c102 c103 c104 c105 c106 c107 c108 c109 c110 c111 c112 c113 c114 c115 c116 c117 c118 c119 c121 c123 c124 c125 c126 c127 c128 c129 c130 c131 c132 c133 c134 c135 c136 c137 c138 c139 c140 c141 c142 c143 c144 c145 c146 c147 c148 c149 c150 c151 c152 c153 c154 c155 c156 c157 c158 c159 c160 c161 c162 c163 c164 c165 c166 c167 c168 c169 c170 c171 c172 c173 c174 c175 c176 c177 c178 c179 c180 c181 c182 c183 c184 c185 c186 c187 c188 c189 c190 c191 c192 c193 c194 c195 c196 c197 c198 c199 c200 c201 c202 c203 c204 c205 c206 : Value)
    (hT : Trees fan t M) (hj : j < M) (hTj : T = t j) (hN : ∀ l, l < 5 → N l = bs fan t M l)
    (ha0 : a0 = some ⟨tb, ob, none⟩) (htb : tb < B) (htc : w.cell? ⟨tb, ob + j, none⟩ = some (.int .i8 (T : Nat))) (hP : Pl fan t M B w x lk N D WB cc XB j j j j wc)
    (hK : ∀ (u17 u18 u19 u124 u125 u126 u127 u128 u129 u130 u131 u132 u133 u134 u135 u136 u137 u138 u139 u140 u141 u142 u143 u144 u145 u146 u147 u148 u149 u150 u151 u152 u153 u154 u155 u156 u157 u158 u159 u160 u161 u162 u163 u164 u165 u166 u167 u168 u169 u170 u171 u172 u173 u174 u175 u176 u177 u178 u179 u180 u181 u182 u183 u184 u185 u186 u187 u188 u189 u190 u191 u192 u193 u194 u195 u196 u197 u198 u199 u200 u201 u202 u203 u204 : Value) (wx : World), Pl fan t M B w x lk N D WB cc XB (j + 1) (j + 1) (j + 1) (j + 1) wx → K ⟨(c0 :: .slice a0 M c0' :: c2 :: c3 :: c4 :: c5 :: c6 :: .pointer (some ⟨x.FV, 0, none⟩) :: c8 :: c9 :: c10 :: c11 :: c12 :: .pointer (some ⟨x.GB, 0, none⟩) :: .pointer (some ⟨x.GV, 0, none⟩) :: .int .i32 (off fan t (j + 1) : Nat) :: c16 :: u17 :: u18 :: u19 :: c20 :: c21 :: c22 :: c23 :: c24 :: c25 :: c26 :: c27 :: c28 :: c29 :: c30 :: c31 :: c32 :: c33 :: c34 :: c35 :: c36 :: c37 :: c38 :: c39 :: c40 :: c41 :: c42 :: c43 :: c44 :: c45 :: c46 :: c47 :: c48 :: c49 :: c50 :: c51 :: c52 :: c53 :: c54 :: c55 :: c56 :: c57 :: c58 :: c59 :: c60 :: c61 :: c62 :: c63 :: c64 :: c65 :: c66 :: c67 :: c68 :: c69 :: c70 :: c71 :: c72 :: c73 :: c74 :: c75 :: c76 :: c77 :: c78 :: c79 :: c80 :: c81 :: c82 :: c83 :: c84 :: c85 :: c86 :: c87 :: c88 :: c89 :: c90 :: c91 :: c92 :: c93 :: c94 :: c95 :: c96 :: c97 :: c98 :: c99 :: c100 :: c101 :: c102 :: c103 :: c104 :: c105 :: c106 :: c107 :: c108 :: c109 :: c110 :: c111 :: c112 :: c113 :: c114 :: c115 :: c116 :: c117 :: c118 :: c119 :: .slice a0 M c0' :: c121 :: .int .i64 (j : Nat) :: c123 :: u124 :: u125 :: u126 :: u127 :: u128 :: u129 :: u130 :: u131 :: u132 :: u133 :: u134 :: u135 :: u136 :: u137 :: u138 :: u139 :: u140 :: u141 :: u142 :: u143 :: u144 :: u145 :: u146 :: u147 :: u148 :: u149 :: u150 :: u151 :: u152 :: u153 :: u154 :: u155 :: u156 :: u157 :: u158 :: u159 :: u160 :: u161 :: u162 :: u163 :: u164 :: u165 :: u166 :: u167 :: u168 :: u169 :: u170 :: u171 :: u172 :: u173 :: u174 :: u175 :: u176 :: u177 :: u178 :: u179 :: u180 :: u181 :: u182 :: u183 :: u184 :: u185 :: u186 :: u187 :: u188 :: u189 :: u190 :: u191 :: u192 :: u193 :: u194 :: u195 :: u196 :: u197 :: u198 :: u199 :: u200 :: u201 :: u202 :: u203 :: u204 :: c205 :: c206 :: [] : List Value).toArray, []⟩ wx) :
    Code.wp Try.prog ((Try.f35.body.bind (blockAt 7)).getD .skip) (Exit.then K (NoPanic Q)) ⟨(c0 :: .slice a0 M c0' :: c2 :: c3 :: c4 :: c5 :: c6 :: .pointer (some ⟨x.FV, 0, none⟩) :: c8 :: c9 :: c10 :: c11 :: c12 :: .pointer (some ⟨x.GB, 0, none⟩) :: .pointer (some ⟨x.GV, 0, none⟩) :: .int .i32 (off fan t j : Nat) :: c16 :: c17 :: c18 :: c19 :: c20 :: c21 :: c22 :: c23 :: c24 :: c25 :: c26 :: c27 :: c28 :: c29 :: c30 :: c31 :: c32 :: c33 :: c34 :: c35 :: c36 :: c37 :: c38 :: c39 :: c40 :: c41 :: c42 :: c43 :: c44 :: c45 :: c46 :: c47 :: c48 :: c49 :: c50 :: c51 :: c52 :: c53 :: c54 :: c55 :: c56 :: c57 :: c58 :: c59 :: c60 :: c61 :: c62 :: c63 :: c64 :: c65 :: c66 :: c67 :: c68 :: c69 :: c70 :: c71 :: c72 :: c73 :: c74 :: c75 :: c76 :: c77 :: c78 :: c79 :: c80 :: c81 :: c82 :: c83 :: c84 :: c85 :: c86 :: c87 :: c88 :: c89 :: c90 :: c91 :: c92 :: c93 :: c94 :: c95 :: c96 :: c97 :: c98 :: c99 :: c100 :: c101 :: c102 :: c103 :: c104 :: c105 :: c106 :: c107 :: c108 :: c109 :: c110 :: c111 :: c112 :: c113 :: c114 :: c115 :: c116 :: c117 :: c118 :: c119 :: .slice a0 M c0' :: c121 :: .int .i64 (j : Nat) :: c123 :: c124 :: c125 :: c126 :: c127 :: c128 :: c129 :: c130 :: c131 :: c132 :: c133 :: c134 :: c135 :: c136 :: c137 :: c138 :: c139 :: c140 :: c141 :: c142 :: c143 :: c144 :: c145 :: c146 :: c147 :: c148 :: c149 :: c150 :: c151 :: c152 :: c153 :: c154 :: c155 :: c156 :: c157 :: c158 :: c159 :: c160 :: c161 :: c162 :: c163 :: c164 :: c165 :: c166 :: c167 :: c168 :: c169 :: c170 :: c171 :: c172 :: c173 :: c174 :: c175 :: c176 :: c177 :: c178 :: c179 :: c180 :: c181 :: c182 :: c183 :: c184 :: c185 :: c186 :: c187 :: c188 :: c189 :: c190 :: c191 :: c192 :: c193 :: c194 :: c195 :: c196 :: c197 :: c198 :: c199 :: c200 :: c201 :: c202 :: c203 :: c204 :: c205 :: c206 :: [] : List Value).toArray, []⟩ wc := by
  have HK : Hid _ := hK
  have HT := hid hT
  have HTj := hid hTj
  have HN := hid hN
  have hM9 := hT.few
  have hT4 : T ≤ 4 := by rw [hTj]; exact hT.top j hj
  have hT5 : ((T : Nat) : Int) < 5 := by omega
  have hoff : off fan t j ≤ 65536 := Nat.le_trans (off_mono (by omega)) hT.all
  have hbM : ∀ l, bs fan t M l ≤ 65536 := fun l => Nat.le_trans (bs_le_off l M) hT.all
  have hgN : bs fan t j T < N T := by
    rw [hN T (by omega)]
    have h1 := bs_mono (fan := fan) (t := t) (show j + 1 ≤ M by omega) T
    have h2 : bs fan t (j + 1) T = bs fan t j T + 1 := by
      show bs fan t j T + cn fan (t j) T = _
      rw [hTj, cn_self (hT.pos j hj)]
    omega
  have hN9 : ∀ l, l < 5 → N l ≤ 65536 := fun l hl => by rw [hN l hl]; exact hbM l
  have HN9 := hid hN9
  have hg9 : bs fan t j T ≤ 65536 := by have := hN9 T (by omega); omega
  clear hK hT hN hTj hbM hN9
  conv => arg 2; whnf
  subst ha0
  have HP := hid hP
  have ct : wc.cell? ⟨tb, ob + j, none⟩ = some (.int .i8 (T : Nat)) := by
    obtain ⟨C, X, V0, V1, hC, hM⟩ := hP
    exact (hM.base.below.cell (by exact htb)).trans htc
  have hjM : ((j : Nat) : Int) < (M : Int) := by omega
  clear hP htc
  go_upto_region 30 with fail
  clear ct
  refine Code.wp_mono then_imp (gf30 fan t M _ c0' (cc := cc) j T wc _ _ _ _ _ _ _ _ _ _ _ _ _ _ _ _ _ _ _ _ _ _ _ _ _ _ _ _ _ _ _ _ _ _ _ _ _ _ _ _ _ _ _ _ _ _ _ _ _ _ _ _ _ _ _ _ _ _ _ _ _ _ _ _ _ _ _ _ _ _ _ _ _ _ _ _ _ _ _ _ _ _ _ _ _ _ _ _ _ _ _ _ _ _ _ _ _ _ _ _ _ _ _ _ _ _ _ _ _ _ _ _ _ _ _ _ _ _ _ _ _ _ _ _ _ _ _ _ _ _ _ _ _ _ _ _ _ _ _ _ _ _ _ _ _ _ _ _ _ _ _ _ _ _ _ _ _ _ _ _ _ _ _ _ _ _ _ _ _ _ _ _ _ _ _ _ _ _ _ _ _ _ _ _ _ _ _ _ _ _ _ _ _ _ _ _ _ _ _ _ _ _ _ HT.out hj HTj.out HN.out HP.out ?k30)
  intro v126 v127 v128 v129 w1 h
  have H1 := hid h
  clear h HP
  go_upto_region 31 with fail
  refine Code.wp_mono then_imp (gf31 fan t M _ c0' (cc := cc) j T w1 _ _ _ _ _ _ _ _ _ _ _ _ _ _ _ _ _ _ _ _ _ _ _ _ _ _ _ _ _ _ _ _ _ _ _ _ _ _ _ _ _ _ _ _ _ _ _ _ _ _ _ _ _ _ _ _ _ _ _ _ _ _ _ _ _ _ _ _ _ _ _ _ _ _ _ _ _ _ _ _ _ _ _ _ _ _ _ _ _ _ _ _ _ _ _ _ _ _ _ _ _ _ _ _ _ _ _ _ _ _ _ _ _ _ _ _ _ _ _ _ _ _ _ _ _ _ _ _ _ _ _ _ _ _ _ _ _ _ _ _ _ _ _ _ _ _ _ _ _ _ _ _ _ _ _ _ _ _ _ _ _ _ _ _ _ _ _ _ _ _ _ _ _ _ _ _ _ _ _ _ _ _ _ _ _ _ _ _ _ _ _ _ _ _ _ _ _ _ _ _ _ _ HT.out hj HTj.out HN.out H1.out ?k31)
  intro v130 v131 v132 v133 v134 v135 v136 v137 v138 v139 w2 h
  have H2 := hid h
  clear h H1
  go_upto_region 32 with fail
  refine Code.wp_mono then_imp (gf32 fan t M _ c0' (cc := cc) j T w2 _ _ _ _ _ _ _ _ _ _ _ _ _ _ _ _ _ _ _ _ _ _ _ _ _ _ _ _ _ _ _ _ _ _ _ _ _ _ _ _ _ _ _ _ _ _ _ _ _ _ _ _ _ _ _ _ _ _ _ _ _ _ _ _ _ _ _ _ _ _ _ _ _ _ _ _ _ _ _ _ _ _ _ _ _ _ _ _ _ _ _ _ _ _ _ _ _ _ _ _ _ _ _ _ _ _ _ _ _ _ _ _ _ _ _ _ _ _ _ _ _ _ _ _ _ _ _ _ _ _ _ _ _ _ _ _ _ _ _ _ _ _ _ _ _ _ _ _ _ _ _ _ _ _ _ _ _ _ _ _ _ _ _ _ _ _ _ _ _ _ _ _ _ _ _ _ _ _ _ _ _ _ _ _ _ _ _ _ _ _ _ _ _ _ _ _ _ _ _ _ _ _ HT.out hj HTj.out HN.out H2.out ?k32)
  intro v140 v141 v142 v143 v144 v145 v146 v147 v148 v149 w3 h
  have H3 := hid h
  obtain ⟨R, hRl⟩ : ∃ R, R = (RL t j).length := ⟨_, rfl⟩
  have HRl := hid hRl
  have hRj : R ≤ 65536 := by have := RL_le (t := t) j; omega
  obtain ⟨a1, b1, cf, c1x⟩ : ∃ a1 b1, w3.cell? ⟨x.FV, 0, none⟩ = some (.pointer (some ⟨x.FF, 0, none⟩)) ∧ w3.cell? ⟨x.FF, 1, none⟩ = some (.slice a1 R b1) := by
    obtain ⟨C, X, V0, V1, hC, hM⟩ := h
    have hru := hM.ru
    rw [← hRl] at hru
    have c1 : w3.cell? ⟨x.FF, 1, none⟩ = some V1 := (hM.base.st.ff.cell (i := 1) (by omega)).trans (congrArg some hC.c1)
    obtain ⟨_, ⟨hv, h0⟩ | ⟨gb, cap, cur, hv, _⟩⟩ := hru
    · exact ⟨none, 0, hM.base.st.fv.cell (i := 0) (by omega), by rw [c1, hv, h0]⟩
    · exact ⟨some ⟨gb, 0, none⟩, cap, hM.base.st.fv.cell (i := 0) (by omega), by rw [c1, hv]⟩
  clear h H2 hRl
  go_upto_region 34 with fail
  clear cf c1x
  generalize hq : ((R : Nat) : Int) - 1 = q
  refine Code.wp_mono then_imp (gf34 fan t M _ c0' (cc := cc) j T R q w3 _ _ _ _ _ _ _ _ _ _ _ _ _ _ _ _ _ _ _ _ _ _ _ _ _ _ _ _ _ _ _ _ _ _ _ _ _ _ _ _ _ _ _ _ _ _ _ _ _ _ _ _ _ _ _ _ _ _ _ _ _ _ _ _ _ _ _ _ _ _ _ _ _ _ _ _ _ _ _ _ _ _ _ _ _ _ _ _ _ _ _ _ _ _ _ _ _ _ _ _ _ _ _ _ _ _ _ _ _ _ _ _ _ _ _ _ _ _ _ _ _ _ _ _ _ _ _ _ _ _ _ _ _ _ _ _ _ _ _ _ _ _ _ _ _ _ _ _ _ _ _ _ _ _ _ _ _ _ _ _ _ _ _ _ _ _ _ _ _ _ _ _ _ _ _ _ _ _ _ _ _ _ _ _ _ _ _ _ _ _ _ _ _ _ _ _ _ _ _ _ _ HT.out hj HTj.out HN.out HRl.out hq H3.out ?k34)
  intro v156 v157 v158 v159 v160 v161 v162 v163 v164 v165 v166 v167 v168 w4 h
  have H4 := hid h
  clear h H3
  go_upto_if 169 with fail
  refine Code.wp_mono then_imp (gfIf fan t M _ c0' (cc := cc) j T R q w4 _ _ _ _ _ _ _ _ _ _ _ _ _ _ _ _ _ _ _ _ _ _ _ _ _ _ _ _ _ _ _ _ _ _ _ _ _ _ _ _ _ _ _ _ _ _ _ _ _ _ _ _ _ _ _ _ _ _ _ _ _ _ _ _ _ _ _ _ _ _ _ _ _ _ _ _ _ _ _ _ _ _ _ _ _ _ _ _ _ _ _ _ _ _ _ _ _ _ _ _ _ _ _ _ _ _ _ _ _ _ _ _ _ _ _ _ _ _ _ _ _ _ _ _ _ _ _ _ _ _ _ _ _ _ _ _ _ _ _ _ _ _ _ _ _ _ _ _ _ _ _ _ _ _ _ _ _ _ _ _ _ _ _ _ _ _ _ _ _ _ _ _ _ _ _ _ _ _ _ _ _ _ _ _ _ _ _ _ _ _ _ _ _ _ _ _ _ _ _ _ HT.out hj HTj.out HN.out HRl.out hq H4.out ?kif)
  intro v169 v170 v171 v172 v173 v174 v175 v176 v177 v178 v179 v180 v181 v182 v183 v184 v185 v186 v187 v188 v189 v190 v191 v192 v193 v194 v195 v196 w5 h
  have H5 := hid h
  obtain ⟨cf, cs⟩ : w5.cell? ⟨x.FV, 0, none⟩ = some (.pointer (some ⟨x.FF, 0, none⟩)) ∧ w5.cell? ⟨x.FF, 28 + T, none⟩ = some (.int .i32 (sz fan T : Nat)) := by
    obtain ⟨C, X, V0, V1, hC, hM⟩ := h
    exact ⟨hM.base.st.fv.cell (i := 0) (by omega), (hM.base.st.ff.cell (by omega)).trans (congrArg some (hC.head.size T (by omega)))⟩
  have hsz : off fan t j + sz fan T = off fan t (j + 1) := by rw [HTj.out]; rfl
  have hofj : off fan t (j + 1) ≤ 65536 := Nat.le_trans (off_mono (by omega)) HT.out.all
  have y9 : IntKind.i32.wrap ((off fan t j : Int) + (sz fan T : Int)) = ((off fan t (j + 1) : Nat) : Int) := by rw [← hsz, wrap_i32 (by omega) (by omega)]; omega
  clear h H4
  go_wp2
  exact HK.out _ _ _ _ _ _ _ _ _ _ _ _ _ _ _ _ _ _ _ _ _ _ _ _ _ _ _ _ _ _ _ _ _ _ _ _ _ _ _ _ _ _ _ _ _ _ _ _ _ _ _ _ _ _ _ _ _ _ _ _ _ _ _ _ _ _ _ _ _ _ _ _ _ _ _ _ _ _ _ _ _ _ _ _ _ H5.out

end Go.Proofs.Qxb6609507a.U

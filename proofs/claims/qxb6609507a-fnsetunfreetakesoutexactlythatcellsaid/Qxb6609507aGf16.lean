import Derived.Test.Qxb6609507aMake
import Derived.Test.Qxb6609507aBody0
import Derived.Deep.CutBlock
import Derived.Deep.RegionWith
import Derived.Deep.RegionLaw
import Derived.Deep.RegionHeld3
namespace Go.Proofs.Qxb6609507a.U
open Go.RowKit Go.Proofs.Qxb6609507a.Plain
set_option linter.unusedVariables false
set_option linter.unusedSimpArgs false

set_option maxRecDepth 100000 in
set_option maxHeartbeats 8000000 in
theorem gf16 (g p s n : Nat) (a0 : Option Addr) (M c0' : Nat) {B : Nat} {w : World} {N : Nat → Nat} {lk : Bool} {TB FV LB FF KB : Nat} {LV LK : Nat → Nat} {D WB cc : Nat → Nat} {XB : Nat → Nat → Nat} {C KT : Nat → Value} (l : Nat) (wc : World) (K : Act → World → Prop) (Q : Exit → Act → World → Prop) (c0 c2 c4 c6 c10 c11 c12 c13 c14 c15 c16 c17 c18 c19 c20 c21 c22 c23 c24 c25 c26 c27 c28 c29 c30 c31 c32 c33 c34 c35 c36 c37 c38 c39 c40 c41 c42 c43 c44 c45 c46 c47 c48 c49 c50 c51 c52 c53 c54 c55 c56 c57 c58 c59 c60 c61 c62 c63 c64 c65 c66 c67 c68 c69 c70 c71 c72 c73 c74 c75 c76 c77 c78 c79 c80 c81 c82 c83 c84 c85 c86 c87 c88 c89 c90 c91 c92 c93 c94 c95 c96 c97 c98 c99 c100 c101 c102 c103 c104 c105 c106 c107 c108 c109 c110 c111 c112 c113 c114 c115 c116 c117 c118 c119 c120 c121 c122 c123 c124 c125 c126 c127 c128 c129 c130 c131 c132 c133 c134 c135 c136 c137 c138 c139 c140 c141 c142 c143 c144 c145 c146 c147 c148 c149 c150 c151 c152 c153 c154 c155 c156 c157 c158 c159 c160 c161 c162 c163 c164 c165 c166 c167 c168 c169 c170 c171 c172 c173 c174 c175 c176 c177 c178 c179 c180 c181 c182 c183 c184 c185 c186 c187 c188 c189 c190 c191 c192 c193 c194 c195 c196 c197 c198 c199 c200 c201 c202 c203 c204 c205 c206 : Value)
    (hl : l < 5) (hN9 : N l ≤ 65536) (hM : MkM B w (topoF g p s n) N lk TB FV LB FF KB LV LK D WB XB (l + 1) l l C KT wc)
    (hH : HdC (fanOf g p s n) N lk KB LV D WB cc XB (l + 1) (l + 1) l C)
    (hK : ∀ (D2 WB2 cc2 : Nat → Nat) (XB2 : Nat → Nat → Nat) (C2 : Nat → Value) (u75 u76 u77 u78 u79 u80 u81 : Value) (wx : World), HdC (fanOf g p s n) N lk KB LV D2 WB2 cc2 XB2 (l + 1) (l + 1) (l + 1) C2 → MkM B w (topoF g p s n) N lk TB FV LB FF KB LV LK D2 WB2 XB2 (l + 1) (l + 1) l C2 KT wx → K ⟨(c0 :: .slice a0 M c0' :: c2 :: .pointer (some ⟨TB, 0, none⟩) :: c4 :: .pointer (some ⟨LB, 0, none⟩) :: c6 :: .pointer (some ⟨FV, 0, none⟩) :: .int .i8 (l : Nat) :: .int .i64 (N l : Nat) :: c10 :: c11 :: c12 :: c13 :: c14 :: c15 :: c16 :: c17 :: c18 :: c19 :: c20 :: c21 :: c22 :: c23 :: c24 :: c25 :: c26 :: c27 :: c28 :: c29 :: c30 :: c31 :: c32 :: c33 :: c34 :: c35 :: c36 :: c37 :: c38 :: c39 :: c40 :: c41 :: c42 :: c43 :: c44 :: c45 :: c46 :: c47 :: c48 :: c49 :: c50 :: c51 :: c52 :: c53 :: c54 :: c55 :: c56 :: c57 :: c58 :: c59 :: c60 :: c61 :: c62 :: c63 :: c64 :: c65 :: c66 :: c67 :: c68 :: c69 :: c70 :: c71 :: c72 :: c73 :: c74 :: u75 :: u76 :: u77 :: u78 :: u79 :: u80 :: u81 :: c82 :: c83 :: c84 :: c85 :: c86 :: c87 :: c88 :: c89 :: c90 :: c91 :: c92 :: c93 :: c94 :: c95 :: c96 :: c97 :: c98 :: c99 :: c100 :: c101 :: c102 :: c103 :: c104 :: c105 :: c106 :: c107 :: c108 :: c109 :: c110 :: c111 :: c112 :: c113 :: c114 :: c115 :: c116 :: c117 :: c118 :: c119 :: c120 :: c121 :: c122 :: c123 :: c124 :: c125 :: c126 :: c127 :: c128 :: c129 :: c130 :: c131 :: c132 :: c133 :: c134 :: c135 :: c136 :: c137 :: c138 :: c139 :: c140 :: c141 :: c142 :: c143 :: c144 :: c145 :: c146 :: c147 :: c148 :: c149 :: c150 :: c151 :: c152 :: c153 :: c154 :: c155 :: c156 :: c157 :: c158 :: c159 :: c160 :: c161 :: c162 :: c163 :: c164 :: c165 :: c166 :: c167 :: c168 :: c169 :: c170 :: c171 :: c172 :: c173 :: c174 :: c175 :: c176 :: c177 :: c178 :: c179 :: c180 :: c181 :: c182 :: c183 :: c184 :: c185 :: c186 :: c187 :: c188 :: c189 :: c190 :: c191 :: c192 :: c193 :: c194 :: c195 :: c196 :: c197 :: c198 :: c199 :: c200 :: c201 :: c202 :: c203 :: c204 :: c205 :: c206 :: [] : List Value).toArray, []⟩ wx) :
    Code.wp Try.prog ((Try.f35.body.bind (regionAt 16)).getD .skip) (Exit.then K (NoPanic Q)) ⟨(c0 :: .slice a0 M c0' :: c2 :: .pointer (some ⟨TB, 0, none⟩) :: c4 :: .pointer (some ⟨LB, 0, none⟩) :: c6 :: .pointer (some ⟨FV, 0, none⟩) :: .int .i8 (l : Nat) :: .int .i64 (N l : Nat) :: c10 :: c11 :: c12 :: c13 :: c14 :: c15 :: c16 :: c17 :: c18 :: c19 :: c20 :: c21 :: c22 :: c23 :: c24 :: c25 :: c26 :: c27 :: c28 :: c29 :: c30 :: c31 :: c32 :: c33 :: c34 :: c35 :: c36 :: c37 :: c38 :: c39 :: c40 :: c41 :: c42 :: c43 :: c44 :: c45 :: c46 :: c47 :: c48 :: c49 :: c50 :: c51 :: c52 :: c53 :: c54 :: c55 :: c56 :: c57 :: c58 :: c59 :: c60 :: c61 :: c62 :: c63 :: c64 :: c65 :: c66 :: c67 :: c68 :: c69 :: c70 :: c71 :: c72 :: c73 :: c74 :: c75 :: c76 :: c77 :: c78 :: c79 :: c80 :: c81 :: c82 :: c83 :: c84 :: c85 :: c86 :: c87 :: c88 :: c89 :: c90 :: c91 :: c92 :: c93 :: c94 :: c95 :: c96 :: c97 :: c98 :: c99 :: c100 :: c101 :: c102 :: c103 :: c104 :: c105 :: c106 :: c107 :: c108 :: c109 :: c110 :: c111 :: c112 :: c113 :: c114 :: c115 :: c116 :: c117 :: c118 :: c119 :: c120 :: c121 :: c122 :: c123 :: c124 :: c125 :: c126 :: c127 :: c128 :: c129 :: c130 :: c131 :: c132 :: c133 :: c134 :: c135 :: c136 :: c137 :: c138 :: c139 :: c140 :: c141 :: c142 :: c143 :: c144 :: c145 :: c146 :: c147 :: c148 :: c149 :: c150 :: c151 :: c152 :: c153 :: c154 :: c155 :: c156 :: c157 :: c158 :: c159 :: c160 :: c161 :: c162 :: c163 :: c164 :: c165 :: c166 :: c167 :: c168 :: c169 :: c170 :: c171 :: c172 :: c173 :: c174 :: c175 :: c176 :: c177 :: c178 :: c179 :: c180 :: c181 :: c182 :: c183 :: c184 :: c185 :: c186 :: c187 :: c188 :: c189 :: c190 :: c191 :: c192 :: c193 :: c194 :: c195 :: c196 :: c197 :: c198 :: c199 :: c200 :: c201 :: c202 :: c203 :: c204 :: c205 :: c206 :: [] : List Value).toArray, []⟩ wc := by
  have HK : Hid _ := hK
  clear hK
  conv => arg 2; whnf
  have HM := hid hM
  have HH := hid hH
  have hl5 : ((l : Nat) : Int) < 5 := by omega
  have cf : wc.cell? ⟨FV, 0, none⟩ = some (.pointer (some ⟨FF, 0, none⟩)) := hM.fv.cell (i := 0) (by omega)
  have e0 : wc.cell? ⟨FF, 7 + l * 3, none⟩ = some (C (7 + l * 3)) := hM.ff.cell (by omega)
  have e1 : wc.cell? ⟨FF, 7 + l * 3 + 1, none⟩ = some (C (7 + l * 3 + 1)) := hM.ff.cell (by omega)
  have e2 : wc.cell? ⟨FF, 7 + l * 3 + 2, none⟩ = some (C (7 + l * 3 + 2)) := hM.ff.cell (by omega)
  have hFF := hM.ff.lt
  have hFV := hM.fv.lt
  have fz := hM.ff.frozen
  have hne : FF ≠ FV := Ne.symm (hM.fv.ne hM.ff (by decide))
  have C52 := newSet_any (N l) wc.drew hN9
  have kr : ∀ w', Below wc.drew.heap.size wc.drew w' → ∀ i, w'.frozen? ⟨FF, i, none⟩ = false := fun w' k i => (hM.ff.drew.below k hFF).frozen i
  clear hM hH
  go_cut [] from 75 to 81 (fun wx => ∃ D2 WB2 cc2 XB2 C2, HdC (fanOf g p s n) N lk KB LV D2 WB2 cc2 XB2 (l + 1) (l + 1) (l + 1) C2 ∧ MkM B w (topoF g p s n) N lk TB FV LB FF KB LV LK D2 WB2 XB2 (l + 1) (l + 1) l C2 KT wx)
  case first =>
    go_region_held3 (fun w' => w'.cell? ⟨FV, 0, none⟩ = some (.pointer (some ⟨FF, 0, none⟩))) (go_keep) (first | (go_at_call 52; refine C52.mono ?_; rintro e w2 ⟨dd, wb, cp, xb, rfl, hb2, hW2, hD2, hd2, hwb2, hx2⟩; have cf2 : w2.cell? ⟨FV, 0, none⟩ = some (.pointer (some ⟨FF, 0, none⟩)) := (hb2.cell (by exact hFV)).trans cf; have g0 : w2.cell? ⟨FF, 7 + l * 3, none⟩ = some (C (7 + l * 3)) := (hb2.cell (by exact hFF)).trans e0; have g1 : w2.cell? ⟨FF, 7 + l * 3 + 1, none⟩ = some (C (7 + l * 3 + 1)) := (hb2.cell (by exact hFF)).trans e1; have g2 : w2.cell? ⟨FF, 7 + l * 3 + 2, none⟩ = some (C (7 + l * 3 + 2)) := (hb2.cell (by exact hFF)).trans e2; have gf := kr w2 hb2))
    all_goals
      go_wp2
      go_meet
      case rel =>
        exact ⟨_, _, _, _, _, HH.out.free (by omega) (by omega) hl dd wb cp xb, ((((HM.out.keeps ((Keeps.refl _ _).drew)).free hb2 hW2 hD2 hd2 hx2).set _ _).set _ _).set _ _⟩
  case rest =>
    obtain ⟨D2, WB2, cc2, XB2, C2, h1, h2⟩ := hcut
    exact HK.out _ _ _ _ _ _ _ _ _ _ _ _ _ h1 h2

end Go.Proofs.Qxb6609507a.U

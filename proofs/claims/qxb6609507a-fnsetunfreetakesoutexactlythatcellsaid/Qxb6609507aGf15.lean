import Derived.Test.Qxb6609507aMake
import Derived.Test.Qxb6609507aBody0
import Derived.Deep.CutBlock
import Derived.Deep.RegionWith
import Derived.Deep.RegionLaw
import Derived.Deep.RegionHeld3
namespace Go.Proofs.Qxb6609507a.U
open Go.RowKit Go.Proofs.Qxb6609507a.Plain
set_option linter.unusedVariables false
set_option linter.unusedSimpArgs false

set_option maxRecDepth 100000 in
set_option maxHeartbeats 8000000 in
theorem gf15 (g p s n : Nat) (a0 : Option Addr) (M c0' : Nat) {B : Nat} {w : World} {N : Nat → Nat} {lk : Bool} {TB FV LB FF KB : Nat} {LV LK : Nat → Nat} {D WB cc : Nat → Nat} {XB : Nat → Nat → Nat} {C KT : Nat → Value} (l : Nat) (wc : World) (K : Act → World → Prop) (Q : Exit → Act → World → Prop) (c0 c2 c4 c6 c10 c11 c12 c13 c14 c15 c16 c17 c18 c19 c20 c21 c22 c23 c24 c25 c26 c27 c28 c29 c30 c31 c32 c33 c34 c35 c36 c37 c38 c39 c40 c41 c42 c43 c44 c45 c46 c47 c48 c49 c50 c51 c52 c53 c54 c55 c56 c57 c58 c59 c60 c61 c62 c63 c64 c65 c66 c67 c68 c69 c70 c71 c72 c73 c74 c75 c76 c77 c78 c79 c80 c81 c82 c83 c84 c85 c86 c87 c88 c89 c90 c91 c92 c93 c94 c95 c96 c97 c98 c99 c100 c101 c102 c103 c104 c105 c106 c107 c108 c109 c110 c111 c112 c113 c114 c115 c116 c117 c118 c119 c120 c121 c122 c123 c124 c125 c126 c127 c128 c129 c130 c131 c132 c133 c134 c135 c136 c137 c138 c139 c140 c141 c142 c143 c144 c145 c146 c147 c148 c149 c150 c151 c152 c153 c154 c155 c156 c157 c158 c159 c160 c161 c162 c163 c164 c165 c166 c167 c168 c169 c170 c171 c172 c173 c174 c175 c176 c177 c178 c179 c180 c181 c182 c183 c184 c185 c186 c187 c188 c189 c190 c191 c192 c193 c194 c195 c196 c197 c198 c199 c200 c201 c202 c203 c204 c205 c206 : Value)
    (hl : l < 5) (hN9 : N l ≤ 65536) (hM : MkM B w (topoF g p s n) N lk TB FV LB FF KB LV LK D WB XB l l l C KT wc)
    (hH : HdC (fanOf g p s n) N lk KB LV D WB cc XB (l + 1) l l C)
    (hK : ∀ (LV2 : Nat → Nat) (C2 : Nat → Value) (u68 u69 u70 u71 u72 u73 u74 : Value) (wx : World), HdC (fanOf g p s n) N lk KB LV2 D WB cc XB (l + 1) (l + 1) l C2 → MkM B w (topoF g p s n) N lk TB FV LB FF KB LV2 LK D WB XB (l + 1) l l C2 KT wx → K ⟨(c0 :: .slice a0 M c0' :: c2 :: .pointer (some ⟨TB, 0, none⟩) :: c4 :: .pointer (some ⟨LB, 0, none⟩) :: c6 :: .pointer (some ⟨FV, 0, none⟩) :: .int .i8 (l : Nat) :: .int .i64 (N l : Nat) :: c10 :: c11 :: c12 :: c13 :: c14 :: c15 :: c16 :: c17 :: c18 :: c19 :: c20 :: c21 :: c22 :: c23 :: c24 :: c25 :: c26 :: c27 :: c28 :: c29 :: c30 :: c31 :: c32 :: c33 :: c34 :: c35 :: c36 :: c37 :: c38 :: c39 :: c40 :: c41 :: c42 :: c43 :: c44 :: c45 :: c46 :: c47 :: c48 :: c49 :: c50 :: c51 :: c52 :: c53 :: c54 :: c55 :: c56 :: c57 :: c58 :: c59 :: c60 :: c61 :: c62 :: c63 :: c64 :: c65 :: c66 :: c67 :: u68 :: u69 :: u70 :: u71 :: u72 :: u73 :: u74 :: c75 :: c76 :: c77 :: c78 :: c79 :: c80 :: c81 :: c82 :: c83 :: c84 :: c85 :: c86 :: c87 :: c88 :: c89 :: c90 :: c91 :: c92 :: c93 :: c94 :: c95 :: c96 :: c97 :: c98 :: c99 :: c100 :: c101 :: c102 :: c103 :: c104 :: c105 :: c106 :: c107 :: c108 :: c109 :: c110 :: c111 :: c112 :: c113 :: c114 :: c115 :: c116 :: c117 :: c118 :: c119 :: c120 :: c121 :: c122 :: c123 :: c124 :: c125 :: c126 :: c127 :: c128 :: c129 :: c130 :: c131 :: c132 :: c133 :: c134 :: c135 :: c136 :: c137 :: c138 :: c139 :: c140 :: c141 :: c142 :: c143 :: c144 :: c145 :: c146 :: c147 :: c148 :: c149 :: c150 :: c151 :: c152 :: c153 :: c154 :: c155 :: c156 :: c157 :: c158 :: c159 :: c160 :: c161 :: c162 :: c163 :: c164 :: c165 :: c166 :: c167 :: c168 :: c169 :: c170 :: c171 :: c172 :: c173 :: c174 :: c175 :: c176 :: c177 :: c178 :: c179 :: c180 :: c181 :: c182 :: c183 :: c184 :: c185 :: c186 :: c187 :: c188 :: c189 :: c190 :: c191 :: c192 :: c193 :: c194 :: c195 :: c196 :: c197 :: c198 :: c199 :: c200 :: c201 :: c202 :: c203 :: c204 :: c205 :: c206 :: [] : List Value).toArray, []⟩ wx) :
    Code.wp Try.prog ((Try.f35.body.bind (regionAt 15)).getD .skip) (Exit.then K (NoPanic Q)) ⟨(c0 :: .slice a0 M c0' :: c2 :: .pointer (some ⟨TB, 0, none⟩) :: c4 :: .pointer (some ⟨LB, 0, none⟩) :: c6 :: .pointer (some ⟨FV, 0, none⟩) :: .int .i8 (l : Nat) :: .int .i64 (N l : Nat) :: c10 :: c11 :: c12 :: c13 :: c14 :: c15 :: c16 :: c17 :: c18 :: c19 :: c20 :: c21 :: c22 :: c23 :: c24 :: c25 :: c26 :: c27 :: c28 :: c29 :: c30 :: c31 :: c32 :: c33 :: c34 :: c35 :: c36 :: c37 :: c38 :: c39 :: c40 :: c41 :: c42 :: c43 :: c44 :: c45 :: c46 :: c47 :: c48 :: c49 :: c50 :: c51 :: c52 :: c53 :: c54 :: c55 :: c56 :: c57 :: c58 :: c59 :: c60 :: c61 :: c62 :: c63 :: c64 :: c65 :: c66 :: c67 :: c68 :: c69 :: c70 :: c71 :: c72 :: c73 :: c74 :: c75 :: c76 :: c77 :: c78 :: c79 :: c80 :: c81 :: c82 :: c83 :: c84 :: c85 :: c86 :: c87 :: c88 :: c89 :: c90 :: c91 :: c92 :: c93 :: c94 :: c95 :: c96 :: c97 :: c98 :: c99 :: c100 :: c101 :: c102 :: c103 :: c104 :: c105 :: c106 :: c107 :: c108 :: c109 :: c110 :: c111 :: c112 :: c113 :: c114 :: c115 :: c116 :: c117 :: c118 :: c119 :: c120 :: c121 :: c122 :: c123 :: c124 :: c125 :: c126 :: c127 :: c128 :: c129 :: c130 :: c131 :: c132 :: c133 :: c134 :: c135 :: c136 :: c137 :: c138 :: c139 :: c140 :: c141 :: c142 :: c143 :: c144 :: c145 :: c146 :: c147 :: c148 :: c149 :: c150 :: c151 :: c152 :: c153 :: c154 :: c155 :: c156 :: c157 :: c158 :: c159 :: c160 :: c161 :: c162 :: c163 :: c164 :: c165 :: c166 :: c167 :: c168 :: c169 :: c170 :: c171 :: c172 :: c173 :: c174 :: c175 :: c176 :: c177 :: c178 :: c179 :: c180 :: c181 :: c182 :: c183 :: c184 :: c185 :: c186 :: c187 :: c188 :: c189 :: c190 :: c191 :: c192 :: c193 :: c194 :: c195 :: c196 :: c197 :: c198 :: c199 :: c200 :: c201 :: c202 :: c203 :: c204 :: c205 :: c206 :: [] : List Value).toArray, []⟩ wc := by
  have HK : Hid _ := hK
  clear hK
  conv => arg 2; whnf
  have HM := hid hM
  have HH := hid hH
  have hl5 : ((l : Nat) : Int) < 5 := by omega
  have cf : wc.cell? ⟨FV, 0, none⟩ = some (.pointer (some ⟨FF, 0, none⟩)) := hM.fv.cell (i := 0) (by omega)
  have c2' : wc.cell? ⟨FF, 2 + l, none⟩ = some (C (2 + l)) := hM.ff.cell (by omega)
  have hFF := hM.ff.lt
  have fz := hM.ff.frozen
  have kv : ∀ w', Keeps (fun b => b = FF) wc w' → w'.cell? ⟨FV, 0, none⟩ = some (.pointer (some ⟨FF, 0, none⟩)) := fun w' k => hM.fv.cellF hM.ff (by decide) (i := 0) (by omega) rfl k
  have hmk := run_make_rows (P := Try.prog) 82 93 (.agg #[.int .i32 0, .int .i32 0, .int .i32 0, .int .i8 0, .bool false, .bool false]) 6 16 Try.underlying82 info93z .i64 .i64 (N l) (by omega) (by omega)
  simp only [Value.cells] at hmk
  clear hM hH
  go_cut [] from 68 to 74 (fun wx => ∃ LV2 C2, HdC (fanOf g p s n) N lk KB LV2 D WB cc XB (l + 1) (l + 1) l C2 ∧ MkM B w (topoF g p s n) N lk TB FV LB FF KB LV2 LK D WB XB (l + 1) l l C2 KT wx)
  case first =>
    go_region_held3 (fun w' => w'.cell? ⟨FV, 0, none⟩ = some (.pointer (some ⟨FF, 0, none⟩))) (((try dsimp only); (refine kv _ ?_; ((repeat (first | refine Keeps.drew ?_ | refine Keeps.drewN ?_ _ | refine Keeps.alloc ?_ _ | refine Keeps.setCell ?_ (by first | exact Or.inl rfl | exact Or.inl (Or.inl rfl) | exact Or.inl (Or.inr rfl)) _)); exact Keeps.refl _ _)))) (fail)
    all_goals
      go_wp2
      go_meet
      case rel =>
        have h := (HM.out.set (2 + l) (.slice (some ⟨wc.heap.size, 0, none⟩) (N l) (N l))).level
        have hsz : (wc.setCell ⟨FF, 2 + l, none⟩ (.slice (some ⟨wc.heap.size, 0, none⟩) (N l) (N l))).heap.size = wc.heap.size := by simp [World.setCell]
        rw [hsz] at h
        exact ⟨_, _, HH.out.level (by omega) hl (by omega) wc.heap.size, h.keeps ((Keeps.refl _ _).drew)⟩
  case rest =>
    obtain ⟨LV2, C2, h1, h2⟩ := hcut
    exact HK.out _ _ _ _ _ _ _ _ _ _ h1 h2

end Go.Proofs.Qxb6609507a.U

import Derived.Test.Qxb6609507aMake
import Derived.Test.Qxb6609507aBody0
import Derived.Deep.CutBlock
import Derived.Deep.RegionWith
import Derived.Deep.RegionLaw
import Derived.Deep.RegionHeld3
namespace Go.Proofs.Qxb6609507a.U
open Go.RowKit Go.Proofs.Qxb6609507a.Plain
set_option linter.unusedVariables false
set_option linter.unusedSimpArgs false

set_option maxRecDepth 100000 in
set_option maxHeartbeats 8000000 in
theorem gf7 (g p s n : Nat) (a0 : Option Addr) (M c0' : Nat) {B : Nat} {w : World} {N : Nat → Nat} {lk : Bool} {TB FV LB FF KB : Nat} {LV LK : Nat → Nat} {D WB cc : Nat → Nat} {XB : Nat → Nat → Nat} {C KT : Nat → Value} (l : Nat) (wc : World) (K : Act → World → Prop) (Q : Exit → Act → World → Prop) (c0 c2 c4 c6 c9 c10 c11 c12 c13 c14 c15 c16 c17 c18 c19 c20 c21 c22 c23 c24 c25 c26 c27 c28 c29 c30 c31 c32 c33 c34 c35 c36 c37 c38 c39 c40 c41 c42 c43 c44 c45 c46 c47 c48 c49 c50 c51 c52 c53 c54 c55 c56 c57 c58 c59 c60 c61 c62 c63 c64 c65 c66 c67 c68 c69 c70 c71 c72 c73 c74 c75 c76 c77 c78 c79 c80 c81 c82 c83 c84 c85 c86 c87 c88 c89 c90 c91 c92 c93 c94 c95 c96 c97 c98 c99 c100 c101 c102 c103 c104 c105 c106 c107 c108 c109 c110 c111 c112 c113 c114 c115 c116 c117 c118 c119 c120 c121 c122 c123 c124 c125 c126 c127 c128 c129 c130 c131 c132 c133 c134 c135 c136 c137 c138 c139 c140 c141 c142 c143 c144 c145 c146 c147 c148 c149 c150 c151 c152 c153 c154 c155 c156 c157 c158 c159 c160 c161 c162 c163 c164 c165 c166 c167 c168 c169 c170 c171 c172 c173 c174 c175 c176 c177 c178 c179 c180 c181 c182 c183 c184 c185 c186 c187 c188 c189 c190 c191 c192 c193 c194 c195 c196 c197 c198 c199 c200 c201 c202 c203 c204 c205 c206 : Value)
    (hS : Small g p s n) (hl : l < 5) (hM : MkM B w (topoF g p s n) N lk TB FV LB FF KB LV LK D WB XB l l l C KT wc)
    (hH : HdC (fanOf g p s n) N lk KB LV D WB cc XB l l l C)
    (hK : ∀ (C2 : Nat → Value) (u31 u32 u33 u34 u35 u36 u37 u38 u39 u40 u41 u42 u43 u44 u45 u46 u47 u48 : Value) (wx : World), HdC (fanOf g p s n) N lk KB LV D WB cc XB (l + 1) l l C2 → MkM B w (topoF g p s n) N lk TB FV LB FF KB LV LK D WB XB l l l C2 KT wx → K ⟨(c0 :: .slice a0 M c0' :: c2 :: .pointer (some ⟨TB, 0, none⟩) :: c4 :: .pointer (some ⟨LB, 0, none⟩) :: c6 :: .pointer (some ⟨FV, 0, none⟩) :: .int .i8 (l : Nat) :: c9 :: c10 :: c11 :: c12 :: c13 :: c14 :: c15 :: c16 :: c17 :: c18 :: c19 :: c20 :: c21 :: c22 :: c23 :: c24 :: c25 :: c26 :: c27 :: c28 :: c29 :: c30 :: u31 :: u32 :: u33 :: u34 :: u35 :: u36 :: u37 :: u38 :: u39 :: u40 :: u41 :: u42 :: u43 :: u44 :: u45 :: u46 :: u47 :: u48 :: c49 :: c50 :: c51 :: c52 :: c53 :: c54 :: c55 :: c56 :: c57 :: c58 :: c59 :: c60 :: c61 :: c62 :: c63 :: c64 :: c65 :: c66 :: c67 :: c68 :: c69 :: c70 :: c71 :: c72 :: c73 :: c74 :: c75 :: c76 :: c77 :: c78 :: c79 :: c80 :: c81 :: c82 :: c83 :: c84 :: c85 :: c86 :: c87 :: c88 :: c89 :: c90 :: c91 :: c92 :: c93 :: c94 :: c95 :: c96 :: c97 :: c98 :: c99 :: c100 :: c101 :: c102 :: c103 :: c104 :: c105 :: c106 :: c107 :: c108 :: c109 :: c110 :: c111 :: c112 :: c113 :: c114 :: c115 :: c116 :: c117 :: c118 :: c119 :: c120 :: c121 :: c122 :: c123 :: c124 :: c125 :: c126 :: c127 :: c128 :: c129 :: c130 :: c131 :: c132 :: c133 :: c134 :: c135 :: c136 :: c137 :: c138 :: c139 :: c140 :: c141 :: c142 :: c143 :: c144 :: c145 :: c146 :: c147 :: c148 :: c149 :: c150 :: c151 :: c152 :: c153 :: c154 :: c155 :: c156 :: c157 :: c158 :: c159 :: c160 :: c161 :: c162 :: c163 :: c164 :: c165 :: c166 :: c167 :: c168 :: c169 :: c170 :: c171 :: c172 :: c173 :: c174 :: c175 :: c176 :: c177 :: c178 :: c179 :: c180 :: c181 :: c182 :: c183 :: c184 :: c185 :: c186 :: c187 :: c188 :: c189 :: c190 :: c191 :: c192 :: c193 :: c194 :: c195 :: c196 :: c197 :: c198 :: c199 :: c200 :: c201 :: c202 :: c203 :: c204 :: c205 :: c206 :: [] : List Value).toArray, []⟩ wx) :
    Code.wp Try.prog ((Try.f35.body.bind (regionAt 7)).getD .skip) (Exit.then K (NoPanic Q)) ⟨(c0 :: .slice a0 M c0' :: c2 :: .pointer (some ⟨TB, 0, none⟩) :: c4 :: .pointer (some ⟨LB, 0, none⟩) :: c6 :: .pointer (some ⟨FV, 0, none⟩) :: .int .i8 (l : Nat) :: c9 :: c10 :: c11 :: c12 :: c13 :: c14 :: c15 :: c16 :: c17 :: c18 :: c19 :: c20 :: c21 :: c22 :: c23 :: c24 :: c25 :: c26 :: c27 :: c28 :: c29 :: c30 :: c31 :: c32 :: c33 :: c34 :: c35 :: c36 :: c37 :: c38 :: c39 :: c40 :: c41 :: c42 :: c43 :: c44 :: c45 :: c46 :: c47 :: c48 :: c49 :: c50 :: c51 :: c52 :: c53 :: c54 :: c55 :: c56 :: c57 :: c58 :: c59 :: c60 :: c61 :: c62 :: c63 :: c64 :: c65 :: c66 :: c67 :: c68 :: c69 :: c70 :: c71 :: c72 :: c73 :: c74 :: c75 :: c76 :: c77 :: c78 :: c79 :: c80 :: c81 :: c82 :: c83 :: c84 :: c85 :: c86 :: c87 :: c88 :: c89 :: c90 :: c91 :: c92 :: c93 :: c94 :: c95 :: c96 :: c97 :: c98 :: c99 :: c100 :: c101 :: c102 :: c103 :: c104 :: c105 :: c106 :: c107 :: c108 :: c109 :: c110 :: c111 :: c112 :: c113 :: c114 :: c115 :: c116 :: c117 :: c118 :: c119 :: c120 :: c121 :: c122 :: c123 :: c124 :: c125 :: c126 :: c127 :: c128 :: c129 :: c130 :: c131 :: c132 :: c133 :: c134 :: c135 :: c136 :: c137 :: c138 :: c139 :: c140 :: c141 :: c142 :: c143 :: c144 :: c145 :: c146 :: c147 :: c148 :: c149 :: c150 :: c151 :: c152 :: c153 :: c154 :: c155 :: c156 :: c157 :: c158 :: c159 :: c160 :: c161 :: c162 :: c163 :: c164 :: c165 :: c166 :: c167 :: c168 :: c169 :: c170 :: c171 :: c172 :: c173 :: c174 :: c175 :: c176 :: c177 :: c178 :: c179 :: c180 :: c181 :: c182 :: c183 :: c184 :: c185 :: c186 :: c187 :: c188 :: c189 :: c190 :: c191 :: c192 :: c193 :: c194 :: c195 :: c196 :: c197 :: c198 :: c199 :: c200 :: c201 :: c202 :: c203 :: c204 :: c205 :: c206 :: [] : List Value).toArray, []⟩ wc := by
  have HK : Hid _ := hK
  clear hK
  conv => arg 2; whnf
  have HM := hid hM
  have HH := hid hH
  obtain ⟨z, hz⟩ : ∃ z, z = sz (fanOf g p s n) l := ⟨_, rfl⟩
  obtain ⟨f, hf⟩ : ∃ f, f = fanOf g p s n l := ⟨_, rfl⟩
  have hz9 : z ≤ 2147483647 := by rw [hz]; exact hS.sz_le l hl
  have hf9 : f ≤ 65536 := by rw [hf]; exact hS.fan_le l
  have hl5 : ((l : Nat) : Int) < 5 := by omega
  have hl6 : ((l : Nat) : Int) < 6 := by omega
  have y1 : IntKind.i32.wrap ((z : Nat) : Int) = (z : Int) := wrap_i32 (by omega) (by omega)
  have y2 : IntKind.i32.wrap ((f : Nat) : Int) = (f : Int) := wrap_i32 (by omega) (by omega)
  have C50 := fun w => size_any g p s n l w hS hl
  have C51 := fun w => fanout_any g p s n l w hS hl
  rw [← hz] at C50
  rw [← hf] at C51
  have Hz := hid hz
  have Hf := hid hf
  have t0 : wc.cell? ⟨TB, 0, none⟩ = some (.int .i64 g) := hM.tb.cell (i := 0) (by omega)
  have t1 : wc.cell? ⟨TB, 1, none⟩ = some (.int .i64 p) := hM.tb.cell (i := 1) (by omega)
  have t2 : wc.cell? ⟨TB, 2, none⟩ = some (.int .i64 s) := hM.tb.cell (i := 2) (by omega)
  have t3 : wc.cell? ⟨TB, 3, none⟩ = some (.int .i64 n) := hM.tb.cell (i := 3) (by omega)
  have hTB := hM.tb.lt
  have cf : wc.cell? ⟨FV, 0, none⟩ = some (.pointer (some ⟨FF, 0, none⟩)) := hM.fv.cell (i := 0) (by omega)
  have hFV := hM.fv.lt
  have c28 : wc.cell? ⟨FF, 28 + l, none⟩ = some (C (28 + l)) := hM.ff.cell (by omega)
  have c33 : wc.cell? ⟨FF, 33 + l, none⟩ = some (C (33 + l)) := hM.ff.cell (by omega)
  have hFF := hM.ff.lt
  have fz := hM.ff.frozen
  have k0 : ∀ w', Keeps (fun b => b = FF) wc w' → w'.cell? ⟨TB, 0, none⟩ = some (.int .i64 g) := fun w' k => hM.tb.cellF hM.ff (by decide) (i := 0) (by omega) rfl k
  have k1 : ∀ w', Keeps (fun b => b = FF) wc w' → w'.cell? ⟨TB, 1, none⟩ = some (.int .i64 p) := fun w' k => hM.tb.cellF hM.ff (by decide) (i := 1) (by omega) rfl k
  have k2 : ∀ w', Keeps (fun b => b = FF) wc w' → w'.cell? ⟨TB, 2, none⟩ = some (.int .i64 s) := fun w' k => hM.tb.cellF hM.ff (by decide) (i := 2) (by omega) rfl k
  have k3 : ∀ w', Keeps (fun b => b = FF) wc w' → w'.cell? ⟨TB, 3, none⟩ = some (.int .i64 n) := fun w' k => hM.tb.cellF hM.ff (by decide) (i := 3) (by omega) rfl k
  have kv : ∀ w', Keeps (fun b => b = FF) wc w' → w'.cell? ⟨FV, 0, none⟩ = some (.pointer (some ⟨FF, 0, none⟩)) := fun w' k => hM.fv.cellF hM.ff (by decide) (i := 0) (by omega) rfl k
  clear hM hH hz hf hS
  go_cut [] from 31 to 48 (fun wx => ∃ C2, HdC (fanOf g p s n) N lk KB LV D WB cc XB (l + 1) l l C2 ∧ MkM B w (topoF g p s n) N lk TB FV LB FF KB LV LK D WB XB l l l C2 KT wx)
  case first =>
    go_region_held3 (fun w' => w'.cell? ⟨TB, 0, none⟩ = some (.int .i64 g) ∧ w'.cell? ⟨TB, 1, none⟩ = some (.int .i64 p) ∧ w'.cell? ⟨TB, 2, none⟩ = some (.int .i64 s) ∧ w'.cell? ⟨TB, 3, none⟩ = some (.int .i64 n) ∧ w'.cell? ⟨FV, 0, none⟩ = some (.pointer (some ⟨FF, 0, none⟩))) (((try dsimp only); (refine ⟨k0 _ ?_, k1 _ ?_, k2 _ ?_, k3 _ ?_, kv _ ?_⟩ <;> ((repeat (first | refine Keeps.drew ?_ | refine Keeps.drewN ?_ _ | refine Keeps.alloc ?_ _ | refine Keeps.setCell ?_ (by first | exact Or.inl rfl | exact Or.inl (Or.inl rfl) | exact Or.inl (Or.inr rfl)) _)); exact Keeps.refl _ _)))) (first | (go_at_call 50; refine (C50 _).mono ?_; rintro e w2 ⟨rfl, rfl⟩) | (go_at_call 51; refine (C51 _).mono ?_; rintro e w2 ⟨rfl, rfl⟩))
    all_goals
      go_wp2
      go_meet
      case rel =>
        refine ⟨_, (HH.out.size hl).resolve_right (by omega), ?_⟩
        rw [← Hz.out, ← Hf.out]
        exact ((HM.out.set (28 + l) _).set (33 + l) _).keeps (by ((repeat (first | refine Keeps.drew ?_ | refine Keeps.drewN ?_ _ | refine Keeps.alloc ?_ _ | refine Keeps.setCell ?_ (by first | exact Or.inl rfl | exact Or.inl (Or.inl rfl) | exact Or.inl (Or.inr rfl)) _)); exact Keeps.refl _ _))
  case rest =>
    obtain ⟨C2, h1, h2⟩ := hcut
    exact HK.out _ _ _ _ _ _ _ _ _ _ _ _ _ _ _ _ _ _ _ _ h1 h2

end Go.Proofs.Qxb6609507a.U

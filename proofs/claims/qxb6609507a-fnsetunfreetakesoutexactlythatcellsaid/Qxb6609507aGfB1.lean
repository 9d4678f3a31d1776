import Derived.Test.Qxb6609507aGf7
import Derived.Test.Qxb6609507aGf2
import Derived.Test.Qxb6609507aGf15
import Derived.Test.Qxb6609507aGf16
import Derived.Test.Qxb6609507aMake
import Derived.Test.Qxb6609507aBody0
import Derived.Deep.CutBlock
import Derived.Deep.RegionWith
import Derived.Deep.RegionLaw
import Derived.Deep.RegionHeld3
namespace Go.Proofs.Qxb6609507a.U
open Go.RowKit Go.Proofs.Qxb6609507a.Plain
set_option linter.unusedVariables false
set_option linter.unusedSimpArgs false

set_option maxRecDepth 100000 in
set_option maxHeartbeats 8000000 in
theorem gfB1 (g p s n : Nat) (a0 : Option Addr) (M c0' : Nat) {B : Nat} {w : World} {N : Nat → Nat} {lk : Bool} {TB FV LB FF KB : Nat} {LV LK : Nat → Nat} {D WB cc : Nat → Nat} {XB : Nat → Nat → Nat} {C KT : Nat → Value} (t : Nat → Nat) (l : Nat) (wc : World) (K : Act → World → Prop) (Q : Exit → Act → World → Prop) (c0 c2 c4 c6 c9 c10 c11 c12 c13 c14 c15 c16 c17 c18 c19 c20 c21 c22 c23 c24 c25 c26 c27 c28 c29 c30 c31 c32 c33 c34 c35 c36 c37 c38 c39 c40 c41 c42 c43 c44 c45 c46 c47 c48 c49 c50 c51 c52 c53 c54 c55 c56 c57 c58 c59 c60 c61 c62 c63 c64 c65 c66 c67 c68 c69 c70 c71 c72 c73 c74 c75 c76 c77 c78 c79 c80 c81 c82 c83 c84 c85 c86 c87 c88 c89 c90 c91 c92 c93 c94 c95 c96 c97 c98 c99 c100 c101 c102 c103 c104 c105 c106 c107 c108 c109 c110 c111 c112 c113 c114 c115 c116 c117 c118 c119 c120 c121 c122 c123 c124 c125 c126 c127 c128 c129 c130 c131 c132 c133 c134 c135 c136 c137 c138 c139 c140 c141 c142 c143 c144 c145 c146 c147 c148 c149 c150 c151 c152 c153 c154 c155 c156 c157 c158 c159 c160 c161 c162 c163 c164 c165 c166 c167 c168 c169 c170 c171 c172 c173 c174 c175 c176 c177 c178 c179 c180 c181 c182 c183 c184 c185 c186 c187 c188 c189 c190 c191 c192 c193 c194 c195 c196 c197 c198 c199 c200 c201 c202 c203 c204 c205 c206 : Value)
    (hS : Small g p s n) (hl : l < 5) (hT : Trees (fanOf g p s n) t M) (hTo : Tops w a0 M (fun i => (t i : Int))) (hB : B = w.heap.size) (hNl : N l = bs (fanOf g p s n) t M l) (hN9 : N l ≤ 65536) (hM : MkM B w (topoF g p s n) N lk TB FV LB FF KB LV LK D WB XB l l l C KT wc)
    (hH : HdC (fanOf g p s n) N lk KB LV D WB cc XB l l l C)
    (hK : ∀ (LV2 LK2 D2 WB2 cc2 : Nat → Nat) (XB2 : Nat → Nat → Nat) (C2 KT2 : Nat → Value) (u9 u11 u31 u32 u33 u34 u35 u36 u37 u38 u39 u40 u41 u42 u43 u44 u45 u46 u47 u48 u49 u50 u51 u52 u53 u54 u55 u56 u57 u58 u59 u60 u61 u62 u63 u64 u65 u66 u67 u68 u69 u70 u71 u72 u73 u74 u75 u76 u77 u78 u79 u80 u81 u82 u83 u84 u85 u86 u87 u88 u89 u90 u91 : Value) (wx : World), HdC (fanOf g p s n) N lk KB LV2 D2 WB2 cc2 XB2 (l + 1) (l + 1) (l + 1) C2 → MkM B w (topoF g p s n) N lk TB FV LB FF KB LV2 LK2 D2 WB2 XB2 (l + 1) (l + 1) (l + 1) C2 KT2 wx → K ⟨(c0 :: .slice a0 M c0' :: c2 :: .pointer (some ⟨TB, 0, none⟩) :: c4 :: .pointer (some ⟨LB, 0, none⟩) :: c6 :: .pointer (some ⟨FV, 0, none⟩) :: .int .i8 (l : Nat) :: u9 :: c10 :: u11 :: c12 :: c13 :: c14 :: c15 :: c16 :: c17 :: c18 :: c19 :: c20 :: c21 :: c22 :: c23 :: c24 :: c25 :: c26 :: c27 :: c28 :: c29 :: c30 :: u31 :: u32 :: u33 :: u34 :: u35 :: u36 :: u37 :: u38 :: u39 :: u40 :: u41 :: u42 :: u43 :: u44 :: u45 :: u46 :: u47 :: u48 :: u49 :: u50 :: u51 :: u52 :: u53 :: u54 :: u55 :: u56 :: u57 :: u58 :: u59 :: u60 :: u61 :: u62 :: u63 :: u64 :: u65 :: u66 :: u67 :: u68 :: u69 :: u70 :: u71 :: u72 :: u73 :: u74 :: u75 :: u76 :: u77 :: u78 :: u79 :: u80 :: u81 :: u82 :: u83 :: u84 :: u85 :: u86 :: u87 :: u88 :: u89 :: u90 :: u91 :: c92 :: c93 :: c94 :: c95 :: c96 :: c97 :: c98 :: c99 :: c100 :: c101 :: c102 :: c103 :: c104 :: c105 :: c106 :: c107 :: c108 :: c109 :: c110 :: c111 :: c112 :: c113 :: c114 :: c115 :: c116 :: c117 :: c118 :: c119 :: c120 :: c121 :: c122 :: c123 :: c124 :: c125 :: c126 :: c127 :: c128 :: c129 :: c130 :: c131 :: c132 :: c133 :: c134 :: c135 :: c136 :: c137 :: c138 :: c139 :: c140 :: c141 :: c142 :: c143 :: c144 :: c145 :: c146 :: c147 :: c148 :: c149 :: c150 :: c151 :: c152 :: c153 :: c154 :: c155 :: c156 :: c157 :: c158 :: c159 :: c160 :: c161 :: c162 :: c163 :: c164 :: c165 :: c166 :: c167 :: c168 :: c169 :: c170 :: c171 :: c172 :: c173 :: c174 :: c175 :: c176 :: c177 :: c178 :: c179 :: c180 :: c181 :: c182 :: c183 :: c184 :: c185 :: c186 :: c187 :: c188 :: c189 :: c190 :: c191 :: c192 :: c193 :: c194 :: c195 :: c196 :: c197 :: c198 :: c199 :: c200 :: c201 :: c202 :: c203 :: c204 :: c205 :: c206 :: [] : List Value).toArray, []⟩ wx) :
    Code.wp Try.prog ((Try.f35.body.bind (blockAt 1)).getD .skip) (Exit.then K (NoPanic Q)) ⟨(c0 :: .slice a0 M c0' :: c2 :: .pointer (some ⟨TB, 0, none⟩) :: c4 :: .pointer (some ⟨LB, 0, none⟩) :: c6 :: .pointer (some ⟨FV, 0, none⟩) :: .int .i8 (l : Nat) :: c9 :: c10 :: c11 :: c12 :: c13 :: c14 :: c15 :: c16 :: c17 :: c18 :: c19 :: c20 :: c21 :: c22 :: c23 :: c24 :: c25 :: c26 :: c27 :: c28 :: c29 :: c30 :: c31 :: c32 :: c33 :: c34 :: c35 :: c36 :: c37 :: c38 :: c39 :: c40 :: c41 :: c42 :: c43 :: c44 :: c45 :: c46 :: c47 :: c48 :: c49 :: c50 :: c51 :: c52 :: c53 :: c54 :: c55 :: c56 :: c57 :: c58 :: c59 :: c60 :: c61 :: c62 :: c63 :: c64 :: c65 :: c66 :: c67 :: c68 :: c69 :: c70 :: c71 :: c72 :: c73 :: c74 :: c75 :: c76 :: c77 :: c78 :: c79 :: c80 :: c81 :: c82 :: c83 :: c84 :: c85 :: c86 :: c87 :: c88 :: c89 :: c90 :: c91 :: c92 :: c93 :: c94 :: c95 :: c96 :: c97 :: c98 :: c99 :: c100 :: c101 :: c102 :: c103 :: c104 :: c105 :: c106 :: c107 :: c108 :: c109 :: c110 :: c111 :: c112 :: c113 :: c114 :: c115 :: c116 :: c117 :: c118 :: c119 :: c120 :: c121 :: c122 :: c123 :: c124 :: c125 :: c126 :: c127 :: c128 :: c129 :: c130 :: c131 :: c132 :: c133 :: c134 :: c135 :: c136 :: c137 :: c138 :: c139 :: c140 :: c141 :: c142 :: c143 :: c144 :: c145 :: c146 :: c147 :: c148 :: c149 :: c150 :: c151 :: c152 :: c153 :: c154 :: c155 :: c156 :: c157 :: c158 :: c159 :: c160 :: c161 :: c162 :: c163 :: c164 :: c165 :: c166 :: c167 :: c168 :: c169 :: c170 :: c171 :: c172 :: c173 :: c174 :: c175 :: c176 :: c177 :: c178 :: c179 :: c180 :: c181 :: c182 :: c183 :: c184 :: c185 :: c186 :: c187 :: c188 :: c189 :: c190 :: c191 :: c192 :: c193 :: c194 :: c195 :: c196 :: c197 :: c198 :: c199 :: c200 :: c201 :: c202 :: c203 :: c204 :: c205 :: c206 :: [] : List Value).toArray, []⟩ wc := by
  have HK : Hid _ := hK
  clear hK
  conv => arg 2; whnf
  have HM := hid hM
  have HH := hid hH
  have HT := hid hT
  have HTo := hid hTo
  have HNl := hid hNl
  have HS := hid hS
  have hM9 := hT.few
  clear hM hT hTo hNl hS hH
  go_upto_region 7 with fail
  refine Code.wp_mono then_imp (gf7 g p s n a0 M c0' l wc _ _ _ _ _ _ _ _ _ _ _ _ _ _ _ _ _ _ _ _ _ _ _ _ _ _ _ _ _ _ _ _ _ _ _ _ _ _ _ _ _ _ _ _ _ _ _ _ _ _ _ _ _ _ _ _ _ _ _ _ _ _ _ _ _ _ _ _ _ _ _ _ _ _ _ _ _ _ _ _ _ _ _ _ _ _ _ _ _ _ _ _ _ _ _ _ _ _ _ _ _ _ _ _ _ _ _ _ _ _ _ _ _ _ _ _ _ _ _ _ _ _ _ _ _ _ _ _ _ _ _ _ _ _ _ _ _ _ _ _ _ _ _ _ _ _ _ _ _ _ _ _ _ _ _ _ _ _ _ _ _ _ _ _ _ _ _ _ _ _ _ _ _ _ _ _ _ _ _ _ _ _ _ _ _ _ _ _ _ _ _ _ _ _ _ _ _ _ _ _ _ _ _ _ HS.out hl HM.out HH.out ?k7)
  intro C1 v31 v32 v33 v34 v35 v36 v37 v38 v39 v40 v41 v42 v43 v44 v45 v46 v47 v48 w1 h1 h2
  have HH1 := hid h1
  have HM1 := hid h2
  clear h1 h2 HM HH
  go_upto_block 2 with fail
  refine Code.wp_mono then_imp (gf2 g p s n a0 M c0' (cc := cc) t l l l l w1 _ _ _ _ _ _ _ _ _ _ _ _ _ _ _ _ _ _ _ _ _ _ _ _ _ _ _ _ _ _ _ _ _ _ _ _ _ _ _ _ _ _ _ _ _ _ _ _ _ _ _ _ _ _ _ _ _ _ _ _ _ _ _ _ _ _ _ _ _ _ _ _ _ _ _ _ _ _ _ _ _ _ _ _ _ _ _ _ _ _ _ _ _ _ _ _ _ _ _ _ _ _ _ _ _ _ _ _ _ _ _ _ _ _ _ _ _ _ _ _ _ _ _ _ _ _ _ _ _ _ _ _ _ _ _ _ _ _ _ _ _ _ _ _ _ _ _ _ _ _ _ _ _ _ _ _ _ _ _ _ _ _ _ _ _ _ _ _ _ _ _ _ _ _ _ _ _ _ _ _ _ _ _ _ _ _ _ _ _ _ _ _ _ _ _ _ _ _ _ _ HS.out hl HT.out HTo.out hB HNl.out HM1.out ?k2)
  intro v11 v51 v52 v53 v54 v55 v56 v57 v58 v59 v60 v61 v62 v63 v64 v65 v66 v67 w2 h2
  have HM2 := hid h2
  clear h2 HM1
  go_upto_region 15 with fail
  refine Code.wp_mono then_imp (gf15 g p s n a0 M c0' l w2 _ _ _ _ _ _ _ _ _ _ _ _ _ _ _ _ _ _ _ _ _ _ _ _ _ _ _ _ _ _ _ _ _ _ _ _ _ _ _ _ _ _ _ _ _ _ _ _ _ _ _ _ _ _ _ _ _ _ _ _ _ _ _ _ _ _ _ _ _ _ _ _ _ _ _ _ _ _ _ _ _ _ _ _ _ _ _ _ _ _ _ _ _ _ _ _ _ _ _ _ _ _ _ _ _ _ _ _ _ _ _ _ _ _ _ _ _ _ _ _ _ _ _ _ _ _ _ _ _ _ _ _ _ _ _ _ _ _ _ _ _ _ _ _ _ _ _ _ _ _ _ _ _ _ _ _ _ _ _ _ _ _ _ _ _ _ _ _ _ _ _ _ _ _ _ _ _ _ _ _ _ _ _ _ _ _ _ _ _ _ _ _ _ _ _ _ _ _ _ _ _ _ _ hl hN9 HM2.out HH1.out ?k15)
  intro LV2 C2 v68 v69 v70 v71 v72 v73 v74 w3 h1 h2
  have HH3 := hid h1
  have HM3 := hid h2
  clear h1 h2 HM2 HH1
  go_upto_region 16 with fail
  refine Code.wp_mono then_imp (gf16 g p s n a0 M c0' l w3 _ _ _ _ _ _ _ _ _ _ _ _ _ _ _ _ _ _ _ _ _ _ _ _ _ _ _ _ _ _ _ _ _ _ _ _ _ _ _ _ _ _ _ _ _ _ _ _ _ _ _ _ _ _ _ _ _ _ _ _ _ _ _ _ _ _ _ _ _ _ _ _ _ _ _ _ _ _ _ _ _ _ _ _ _ _ _ _ _ _ _ _ _ _ _ _ _ _ _ _ _ _ _ _ _ _ _ _ _ _ _ _ _ _ _ _ _ _ _ _ _ _ _ _ _ _ _ _ _ _ _ _ _ _ _ _ _ _ _ _ _ _ _ _ _ _ _ _ _ _ _ _ _ _ _ _ _ _ _ _ _ _ _ _ _ _ _ _ _ _ _ _ _ _ _ _ _ _ _ _ _ _ _ _ _ _ _ _ _ _ _ _ _ _ _ _ _ _ _ _ _ _ _ hl hN9 HM3.out HH3.out ?k16)
  intro D2 WB2 cc2 XB2 C3 v75 v76 v77 v78 v79 v80 v81 w4 h1 h2
  have HH4 := hid h1
  have HM4 := hid h2
  have cl : w4.cell? ⟨LB, 0, none⟩ = some (.bool lk) := h2.lb.cell (i := 0) (by omega)
  have cf : w4.cell? ⟨FV, 0, none⟩ = some (.pointer (some ⟨FF, 0, none⟩)) := h2.fv.cell (i := 0) (by omega)
  have c22' : w4.cell? ⟨FF, 22, none⟩ = some (C3 22) := h2.ff.cell (i := 22) (by omega)
  have e22 := h1.c22
  clear HM3 HH3
  cases lk with
  | false =>
    clear h1 h2
    go_wp2
    exact HK.out LV2 LK D2 WB2 cc2 XB2 C3 KT _ _ _ _ _ _ _ _ _ _ _ _ _ _ _ _ _ _ _ _ _ _ _ _ _ _ _ _ _ _ _ _ _ _ _ _ _ _ _ _ _ _ _ _ _ _ _ _ _ _ _ _ _ _ _ _ _ _ _ _ _ _ _ w4 HH4.out ⟨HM4.out.tb, HM4.out.fv, HM4.out.lb, HM4.out.ff, fun e => absurd e (by decide), fun e => absurd e (by decide), HM4.out.lv, HM4.out.lvi, fun e => absurd e (by decide), fun e => absurd e (by decide), HM4.out.fr, HM4.out.fri, HM4.out.bF, HM4.out.below⟩
  | true =>
    have hk := (h2.kb rfl).1
    have e22' : C3 22 = .pointer (some ⟨KB, 0, none⟩) := e22
    rw [e22'] at c22'
    have ck : w4.cell? ⟨KB, l, none⟩ = some (KT l) := hk.cell (by omega)
    have hl5 : ((l : Nat) : Int) < 5 := by omega
    have hKB := hk.lt
    have fk := hk.frozen
    have kv : ∀ w', Keeps (fun b => b = KB) w4 w' → w'.cell? ⟨FV, 0, none⟩ = some (.pointer (some ⟨FF, 0, none⟩)) := fun w' k => h2.fv.cellK (S := fun b => b = KB) (h2.fv.ne hk (by decide)) (i := 0) (by omega) rfl k
    have kf : ∀ w', Keeps (fun b => b = KB) w4 w' → w'.cell? ⟨FF, 22, none⟩ = some (.pointer (some ⟨KB, 0, none⟩)) := fun w' k => h2.ff.cellK (S := fun b => b = KB) (h2.ff.ne hk (by decide)) (i := 22) (by omega) e22' k
    have hmk := run_make_rows (P := Try.prog) 91 98 (.agg #[.int .i32 0, .int .i32 0, .int .i32 0]) 3 12 Try.underlying91 info98z .i64 .i64 (N l) (by omega) (by omega)
    simp only [Value.cells] at hmk
    clear h1 h2 e22 e22' hk
    go_wp2_with fail
    go_region_held3 (fun w' => w'.cell? ⟨FV, 0, none⟩ = some (.pointer (some ⟨FF, 0, none⟩)) ∧ w'.cell? ⟨FF, 22, none⟩ = some (.pointer (some ⟨KB, 0, none⟩))) (((try dsimp only); (refine ⟨kv _ ?_, kf _ ?_⟩ <;> ((repeat (first | refine Keeps.drew ?_ | refine Keeps.drewN ?_ _ | refine Keeps.alloc ?_ _ | refine Keeps.setCell ?_ (by first | exact Or.inl rfl | exact Or.inl (Or.inl rfl) | exact Or.inl (Or.inr rfl)) _)); exact Keeps.refl _ _)))) (fail)
    all_goals
      go_wp2
      have hlk := HM4.out.link rfl
      rw [World.setCell_alloc_past (w := w4) _ KB l _ hKB] at hlk
      exact HK.out LV2 (upNN LK l w4.heap.size) D2 WB2 cc2 XB2 C3 _ _ _ _ _ _ _ _ _ _ _ _ _ _ _ _ _ _ _ _ _ _ _ _ _ _ _ _ _ _ _ _ _ _ _ _ _ _ _ _ _ _ _ _ _ _ _ _ _ _ _ _ _ _ _ _ _ _ _ _ _ _ _ _ _ HH4.out (hlk.keeps ((Keeps.refl _ _).drew))

end Go.Proofs.Qxb6609507a.U

import Derived.Test.Qxb6612537aGm10
namespace Go.Proofs.Qxb6612537a.U
open Go.RowKit Go.Proofs.Qxb6612537a.Plain
set_option linter.unusedVariables false
set_option linter.unusedSimpArgs false

set_option maxRecDepth 100000 in
set_option maxHeartbeats 8000000 in
theorem gm12 {w0 w : World} {WB nh ch nw cw g4 c4' ln : Nat} {ah aw : Option Addr} {name : ByteArray} {W : Nat → WRec} {Q0 : List Nat} (K : Act → World → Prop) (Q : Exit → Act → World → Prop) (c4 c5 c6 c7 c8 c9 c10 c11 c12 c13 c14 c15 c16 c17 c18 c20 c21 c23 c24 c25 c26 c27 c28 c29 c30 c31 c32 c33 c34 c35 c36 c37 c38 c39 c40 c41 c42 c43 c44 c45 c46 c47 c48 c49 c50 c51 c52 c53 c54 c55 c56 c57 c58 c59 c60 c61 c62 c63 c64 c65 c66 c67 c68 c69 c70 c71 c72 c73 c74 c75 c76 c77 c78 c79 c80 c81 c82 c83 c84 c85 c86 c87 c88 c89 c90 c91 c92 c93 c94 c95 c96 c97 c98 c99 c100 c101 c102 c103 c104 c105 c106 c107 c108 c109 c110 c111 c112 c113 c114 c115 c116 c117 c118 c119 c120 c121 c122 c123 c124 c125 c126 c127 c128 c129 c130 c131 c132 c133 c134 c135 c136 c137 c138 c139 c140 c141 c142 c143 c144 c145 c146 c147 c148 c149 c150 c151 c152 c153 c154 c155 c156 c157 c158 c159 c160 c161 c162 c163 c164 c165 c166 c167 c168 c169 c170 c171 c172 c173 c174 c175 c176 c177 c178 c179 c180 c181 c182 c183 c184 c185 c186 c187 c188 c189 c190 c191 c192 c193 c194 c195 c196 c197 c198 c199 c200 c201 c202 c203 c204 c205 c206 c207 c208 c209 c210 c211 c212 c213 c214 c215 c216 c217 c218 c219 c220 c221 c222 c223 c224 c225 c226 c227 c228 c229 c230 c231 c232 c233 c234 c235 c236 c237 c238 c239 c240 c241 c242 c243 c244 c245 c246 c247 c248 c249 c250 c251 c252 c253 c254 c255 c256 c257 c258 c259 c260 c261 c262 c263 c264 c265 : Value)
    (hin : In w0 aw 5 nw fun i => wc (W i)) (hn : nw ≤ 4096) (hln : ln = Q0.length) (hl9 : ln ≤ 4096) (hmem : ∀ x, x ∈ Q0 → x < nw) (hQ : QSt w0 g4 c4' Q0 w) (C30 : ∀ (i : Nat) (wr : World), i < ln → Below w0.heap.size w0 wr → Calls Try.prog 30 #[.pointer (some ⟨WB, 0, none⟩), .int .i64 (i : Nat)] wr (fun e w' => e = .returned (.tuple #[.string (W (Q0.getD i 0)).nm, .int .i64 (W (Q0.getD i 0)).tx, .int .i64 (W (Q0.getD i 0)).od, .int .i64 (W (Q0.getD i 0)).rk, .bool (W (Q0.getD i 0)).up]) ∧ ∃ m, w' = wr.drewN m))
    (hK : ∀ (u8 u22 u23 u24 u25 u26 u27 u28 u216 u217 u218 u219 u220 u221 u222 u223 u224 u225 u226 u227 u228 u229 u230 u231 u232 u233 u234 u235 u236 u237 u238 u239 u240 u241 u242 u243 u244 u245 u246 u247 u248 u249 u250 u251 u252 u253 u254 u255 u256 u257 u258 u259 u260 u261 u262 u263 u264 u265 : Value) (w' : World), Below w0.heap.size w0 w' → K ⟨(.pointer (some ⟨WB, 0, none⟩) :: .slice ah nh ch :: .slice aw nw cw :: .string name :: c4 :: c5 :: c6 :: c7 :: u8 :: c9 :: c10 :: c11 :: c12 :: c13 :: c14 :: c15 :: c16 :: c17 :: c18 :: .slice (some ⟨g4, 0, none⟩) ln c4' :: c20 :: c21 :: u22 :: u23 :: u24 :: u25 :: u26 :: u27 :: u28 :: c29 :: c30 :: c31 :: c32 :: c33 :: c34 :: c35 :: c36 :: c37 :: c38 :: c39 :: c40 :: c41 :: c42 :: c43 :: c44 :: c45 :: c46 :: c47 :: c48 :: c49 :: c50 :: c51 :: c52 :: c53 :: c54 :: c55 :: c56 :: c57 :: c58 :: c59 :: c60 :: c61 :: c62 :: c63 :: c64 :: c65 :: c66 :: c67 :: c68 :: c69 :: c70 :: c71 :: c72 :: c73 :: c74 :: c75 :: c76 :: c77 :: c78 :: c79 :: c80 :: c81 :: c82 :: c83 :: c84 :: c85 :: c86 :: c87 :: c88 :: c89 :: c90 :: c91 :: c92 :: c93 :: c94 :: c95 :: c96 :: c97 :: c98 :: c99 :: c100 :: c101 :: c102 :: c103 :: c104 :: c105 :: c106 :: c107 :: c108 :: c109 :: c110 :: c111 :: c112 :: c113 :: c114 :: c115 :: c116 :: c117 :: c118 :: c119 :: c120 :: c121 :: c122 :: c123 :: c124 :: c125 :: c126 :: c127 :: c128 :: c129 :: c130 :: c131 :: c132 :: c133 :: c134 :: c135 :: c136 :: c137 :: c138 :: c139 :: c140 :: c141 :: c142 :: c143 :: c144 :: c145 :: c146 :: c147 :: c148 :: c149 :: c150 :: c151 :: c152 :: c153 :: c154 :: c155 :: c156 :: c157 :: c158 :: c159 :: c160 :: c161 :: c162 :: c163 :: c164 :: c165 :: c166 :: c167 :: c168 :: c169 :: c170 :: c171 :: c172 :: c173 :: c174 :: c175 :: c176 :: c177 :: c178 :: c179 :: c180 :: c181 :: c182 :: c183 :: c184 :: c185 :: c186 :: c187 :: c188 :: c189 :: c190 :: c191 :: c192 :: c193 :: c194 :: c195 :: c196 :: c197 :: c198 :: c199 :: c200 :: c201 :: c202 :: c203 :: c204 :: c205 :: c206 :: c207 :: c208 :: c209 :: c210 :: c211 :: c212 :: c213 :: c214 :: c215 :: u216 :: u217 :: u218 :: u219 :: u220 :: u221 :: u222 :: u223 :: u224 :: u225 :: u226 :: u227 :: u228 :: u229 :: u230 :: u231 :: u232 :: u233 :: u234 :: u235 :: u236 :: u237 :: u238 :: u239 :: u240 :: u241 :: u242 :: u243 :: u244 :: u245 :: u246 :: u247 :: u248 :: u249 :: u250 :: u251 :: u252 :: u253 :: u254 :: u255 :: u256 :: u257 :: u258 :: u259 :: u260 :: u261 :: u262 :: u263 :: u264 :: u265 :: [] : List Value).toArray, []⟩ w') :
    Code.wp Try.prog ((Try.f13.body.bind (blockAt 12)).getD .skip) (Exit.then K (NoPanic Q)) ⟨(.pointer (some ⟨WB, 0, none⟩) :: .slice ah nh ch :: .slice aw nw cw :: .string name :: c4 :: c5 :: c6 :: c7 :: c8 :: c9 :: c10 :: c11 :: c12 :: c13 :: c14 :: c15 :: c16 :: c17 :: c18 :: .slice (some ⟨g4, 0, none⟩) ln c4' :: c20 :: c21 :: .int .i64 0 :: c23 :: c24 :: c25 :: c26 :: c27 :: c28 :: c29 :: c30 :: c31 :: c32 :: c33 :: c34 :: c35 :: c36 :: c37 :: c38 :: c39 :: c40 :: c41 :: c42 :: c43 :: c44 :: c45 :: c46 :: c47 :: c48 :: c49 :: c50 :: c51 :: c52 :: c53 :: c54 :: c55 :: c56 :: c57 :: c58 :: c59 :: c60 :: c61 :: c62 :: c63 :: c64 :: c65 :: c66 :: c67 :: c68 :: c69 :: c70 :: c71 :: c72 :: c73 :: c74 :: c75 :: c76 :: c77 :: c78 :: c79 :: c80 :: c81 :: c82 :: c83 :: c84 :: c85 :: c86 :: c87 :: c88 :: c89 :: c90 :: c91 :: c92 :: c93 :: c94 :: c95 :: c96 :: c97 :: c98 :: c99 :: c100 :: c101 :: c102 :: c103 :: c104 :: c105 :: c106 :: c107 :: c108 :: c109 :: c110 :: c111 :: c112 :: c113 :: c114 :: c115 :: c116 :: c117 :: c118 :: c119 :: c120 :: c121 :: c122 :: c123 :: c124 :: c125 :: c126 :: c127 :: c128 :: c129 :: c130 :: c131 :: c132 :: c133 :: c134 :: c135 :: c136 :: c137 :: c138 :: c139 :: c140 :: c141 :: c142 :: c143 :: c144 :: c145 :: c146 :: c147 :: c148 :: c149 :: c150 :: c151 :: c152 :: c153 :: c154 :: c155 :: c156 :: c157 :: c158 :: c159 :: c160 :: c161 :: c162 :: c163 :: c164 :: c165 :: c166 :: c167 :: c168 :: c169 :: c170 :: c171 :: c172 :: c173 :: c174 :: c175 :: c176 :: c177 :: c178 :: c179 :: c180 :: c181 :: c182 :: c183 :: c184 :: c185 :: c186 :: c187 :: c188 :: c189 :: c190 :: c191 :: c192 :: c193 :: c194 :: c195 :: c196 :: c197 :: c198 :: c199 :: c200 :: c201 :: c202 :: c203 :: c204 :: c205 :: c206 :: c207 :: c208 :: c209 :: c210 :: c211 :: c212 :: c213 :: c214 :: c215 :: c216 :: c217 :: c218 :: c219 :: c220 :: c221 :: c222 :: c223 :: c224 :: c225 :: c226 :: c227 :: c228 :: c229 :: c230 :: c231 :: c232 :: c233 :: c234 :: c235 :: c236 :: c237 :: c238 :: c239 :: c240 :: c241 :: c242 :: c243 :: c244 :: c245 :: c246 :: c247 :: c248 :: c249 :: c250 :: c251 :: c252 :: c253 :: c254 :: c255 :: c256 :: c257 :: c258 :: c259 :: c260 :: c261 :: c262 :: c263 :: c264 :: c265 :: [] : List Value).toArray, []⟩ w := by
  have HK : Hid _ := hK
  clear hK
  conv => arg 2; whnf
  have HQ0 := hid hQ
  have Hin := hid hin
  have Hln := hid hln
  have Hmem := hid hmem
  have HC30 := hid C30
  clear hQ hin hln hmem C30
  go_cut [22] from 216 to 265 (fun s22 wx => Below w0.heap.size w0 wx)
  case first =>
    go_wp2_with fail
    go_loopg [22, 23, 24, 25, 26, 27, 28] ln (fun gk s22 s23 s24 s25 s26 s27 s28 wr => ∃ (i : Nat), gk = ln - i ∧ i ≤ ln ∧ s22 = .int .i64 (i : Nat) ∧ QSt w0 g4 c4' Q0 wr)
    case atStart => exact ⟨0, rfl, Nat.zero_le _, rfl, HQ0.out⟩
    case round =>
      clear HQ0
      obtain ⟨i, rfl, hi, rfl, hM⟩ := hrel
      have HM := hid hM
      clear hM
      by_cases hlt : i < ln
      · have hltI : ((i : Nat) : Int) < (ln : Int) := by omega
        have hiL : i < Q0.length := by rw [← Hln.out]; exact hlt
        obtain ⟨x, hx⟩ : ∃ x, x = Q0.getD i 0 := ⟨_, rfl⟩
        have hxn : x < nw := by
          refine Hmem.out x ?_
          rw [hx, List.getD_eq_getElem?_getD, List.getElem?_eq_getElem hiL]
          exact List.getElem_mem _
        have C := HC30.out i wr hlt HM.out.bl
        have cx := HM.out.c hiL
        rw [← hx] at C cx
        obtain ⟨ba, off, rfl, hba, hcs⟩ := Hin.out (by omega)
        have kc : ∀ j, j < 5 → wr.cell? ⟨ba, off + x * 5 + j, none⟩ = some ((wc (W x)).getD j undef) := fun j hj => hcs.below HM.out.bl hba x hxn j hj
        have k0 : wr.cell? ⟨ba, off + x * 5, none⟩ = some (.string (W x).nm) := kc 0 (by omega)
        have k1 : wr.cell? ⟨ba, off + x * 5 + 1, none⟩ = some (.int .i64 (W x).tx) := kc 1 (by omega)
        have k2 : wr.cell? ⟨ba, off + x * 5 + 2, none⟩ = some (.int .i64 (W x).od) := kc 2 (by omega)
        have k3 : wr.cell? ⟨ba, off + x * 5 + 3, none⟩ = some (.int .i64 (W x).rk) := kc 3 (by omega)
        have k4 : wr.cell? ⟨ba, off + x * 5 + 4, none⟩ = some (.bool (W x).up) := kc 4 (by omega)
        have hxI : ((x : Nat) : Int) < (nw : Int) := by omega
        generalize (W x).nm = nm at *
        generalize (W x).tx = tx at *
        generalize (W x).od = od at *
        generalize (W x).rk = rk at *
        generalize (W x).up = up at *
        have b1 : (nm.toList == nm.toList) = true := by simp
        have b2 : (tx == tx) = true := by simp
        have b3 : (od == od) = true := by simp
        have b4 : (rk == rk) = true := by simp
        have b5 : (up == up) = true := by simp
        clear kc hcs hx hiL
        go_upto_region 46 with (go_at_call 30; refine C.mono ?_; rintro e w2 ⟨rfl, q, rfl⟩)
        have HM2 : Hid (QSt w0 g4 c4' Q0 (wr.drewN q)) := HM.out.keeps0 ((Keeps.refl _ wr).drewN q)
        have cx2 : (wr.drewN q).cell? ⟨g4, i, none⟩ = some (.int .i64 ((x : Nat) : Int)) := cx
        have k0' : (wr.drewN q).cell? ⟨ba, off + x * 5, none⟩ = some (.string nm) := k0
        have k1' : (wr.drewN q).cell? ⟨ba, off + x * 5 + 1, none⟩ = some (.int .i64 tx) := k1
        have k2' : (wr.drewN q).cell? ⟨ba, off + x * 5 + 2, none⟩ = some (.int .i64 od) := k2
        have k3' : (wr.drewN q).cell? ⟨ba, off + x * 5 + 3, none⟩ = some (.int .i64 rk) := k3
        have k4' : (wr.drewN q).cell? ⟨ba, off + x * 5 + 4, none⟩ = some (.bool up) := k4
        clear cx k0 k1 k2 k3 k4 C HM
        generalize wr.drewN q = W2 at *
        go_upto_region 47 with fail
        obtain ⟨W3, hW3⟩ : ∃ W3, W3 = W2.alloc (.cells #[.string nm, .int .i64 tx, .int .i64 od, .int .i64 rk, .bool up] 49) := ⟨_, rfl⟩
        have r3 : Row W3 W2.heap.size 49 5 (fun q => ([.string nm, .int .i64 tx, .int .i64 od, .int .i64 rk, .bool up] : List Value).getD q undef) := by
          rw [hW3]
          refine Row.new W2 #[.string nm, .int .i64 tx, .int .i64 od, .int .i64 rk, .bool up] 49 _ (fun q hq => ?_)
          have : q = 0 ∨ q = 1 ∨ q = 2 ∨ q = 3 ∨ q = 4 := by simp at hq; omega
          rcases this with rfl | rfl | rfl | rfl | rfl <;> rfl
        have HM3 : Hid (QSt w0 g4 c4' Q0 W3) := by show QSt _ _ _ _ _; rw [hW3]; exact HM2.out.keeps0 ((Keeps.refl _ W2).alloc _)
        rw [← hW3]
        obtain ⟨LB, hLB⟩ : ∃ LB, LB = W2.heap.size := ⟨_, rfl⟩
        rw [← hLB] at r3 ⊢
        have m0 : W3.cell? ⟨LB, 0, none⟩ = some (.string nm) := r3.cell (i := 0) (by omega)
        have m1 : W3.cell? ⟨LB, 1, none⟩ = some (.int .i64 tx) := r3.cell (i := 1) (by omega)
        have m2 : W3.cell? ⟨LB, 2, none⟩ = some (.int .i64 od) := r3.cell (i := 2) (by omega)
        have m3 : W3.cell? ⟨LB, 3, none⟩ = some (.int .i64 rk) := r3.cell (i := 3) (by omega)
        have m4 : W3.cell? ⟨LB, 4, none⟩ = some (.bool up) := r3.cell (i := 4) (by omega)
        clear hW3 hLB r3 HM2 cx2 k0' k1' k2' k3' k4'
        go_wp2_with fail
        go_roundg (ln - (i + 1))
        case measure => omega
        case rel => exact ⟨i + 1, rfl, by omega, by go_num, HM3.out⟩
      · go_wp2
        go_meet
        case rel => exact HM.out.bl
  case rest =>
    exact HK.out _ _ _ _ _ _ _ _ _ _ _ _ _ _ _ _ _ _ _ _ _ _ _ _ _ _ _ _ _ _ _ _ _ _ _ _ _ _ _ _ _ _ _ _ _ _ _ _ _ _ _ _ _ _ _ _ _ _ _ hcut
end Go.Proofs.Qxb6612537a.U

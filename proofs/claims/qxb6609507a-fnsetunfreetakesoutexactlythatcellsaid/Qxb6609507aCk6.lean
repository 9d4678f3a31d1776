import Derived.Test.Qxb6609507aChk
import Derived.Deep.CutBlock
import Derived.Deep.QuietTactic
import Derived.LaidEqlPtr
namespace Go.Proofs.Qxb6609507a.U
open Go.RowKit Go.Proofs.Qxb6609507a.Plain
set_option linter.unusedVariables false
set_option linter.unusedSimpArgs false

theorem neq_same (a : Addr) (w : World) : (binOp .neq 62 (.pointer (some a)) (.pointer (some a))).run Try.prog w = .ok (.bool false) w := by
  obtain ⟨j, hj⟩ : ∃ j, Try.prog.info? 93 = some j := Option.isSome_iff_exists.1 (by kernel_rfl)
  have h : ∀ d : Nat, (Op.equalIn (d + 1) 62 (.pointer (some a)) (.pointer (some a))).run Try.prog w = .ok true w := fun d => by
    simp [Op.equalIn, run_underlying Try.underlying62, sizeOf, typeInfo, hj, run_sameAddr_same]
  simp only [binOp]
  simp [Op.equal, Op.maxDepth, h 9999]

set_option maxRecDepth 100000 in
set_option maxHeartbeats 8000000 in
theorem ck6 {fan t : Nat → Nat} {M : Nat} {x : Blk} {lk : Bool} {N : Nat → Nat} {C V : Nat → Value} {V0 V1 : Value} {MB : Nat} {aT : Option Addr} {cT : Nat}  (w : World) (K : Act → World → Prop) (Q : Exit → Act → World → Prop) (c4 c5 c6 c7 c8 c9 c10 c11 c12 c13 c14 c15 c16 c17 c18 c19 c21 c22 c23 c24 c25 c26 c27 c28 c29 c30 c31 c32 c33 c34 c35 c36 c37 c38 c39 c40 c41 c42 c43 c44 c45 c46 c47 c48 c49 c50 c51 c52 c53 c54 c55 c56 c57 c58 c59 c60 c61 c62 c63 c64 c65 c66 c67 c68 c69 c70 c71 c72 c73 c74 c75 c76 c77 c78 c79 c80 c81 c82 c83 c84 c85 c86 c87 c88 c89 c90 c91 c92 c93 c94 c95 c96 c97 c98 c99 c100 c101 c102 c103 c104 c105 c106 c107 c108 c109 c110 c111 c112 c113 c114 c115 c116 c117 c118 c119 c120 c121 c122 c123 c124 c125 c126 c127 c128 c129 c130 c131 c132 c133 c134 c135 c136 c137 c138 c139 c140 c141 c142 c143 c144 c145 c146 c147 c148 c149 c150 c151 c152 c153 c154 c155 c156 c157 c158 c159 c160 c161 c162 c163 c164 c165 c166 c167 c168 c169 c170 c171 c172 c173 c174 c175 c176 c177 c178 c179 c180 c181 c182 c183 c184 c185 c186 c187 c188 c189 c190 c191 c192 c193 c194 c195 c196 c197 c198 c199 c200 c201 c202 c203 c204 c205 c206 c207 c208 c209 c210 c211 c212 c213 c214 c215 c216 c217 c218 c219 c220 c221 c222 c223 c224 c225 c226 c227 c228 c229 c230 c231 c232 c233 c234 c235 c236 c237 c238 c239 c240 c241 c242 c243 c244 c245 c246 c247 c248 c249 c250 c251 c252 c253 c254 c255 c256 c257 c258 c259 c260 c261 c262 c263 c264 c265 c266 c267 c268 c269 c270 c271 c272 c273 c274 c275 c276 c277 c278 c279 c280 c281 c282 c283 c284 c285 c286 c287 c288 c289 c290 c291 c292 c293 c294 c295 c296 c297 c298 c299 c300 c301 c302 c303 c304 c305 c306 c307 c308 c309 c310 c311 c312 c313 : Value)
    (hC : Chk w fan t M x lk N C V V0 V1 MB aT) 
    (hK : ∀ (u8 u20 u145 u146 u147 u148 u149 u150 u151 u152 u153 u154 u155 u156 u157 u158 u159 u160 u161 u162 u163 u164 u165 u166 u167 u168 u169 : Value) (wx : World), Below w.heap.size w wx → K ⟨(.pointer (some ⟨x.FF, 0, none⟩) :: .pointer (some ⟨MB, 0, none⟩) :: .slice aT M cT :: .bool lk :: c4 :: c5 :: c6 :: c7 :: u8 :: c9 :: c10 :: c11 :: c12 :: c13 :: c14 :: c15 :: c16 :: c17 :: c18 :: c19 :: u20 :: c21 :: c22 :: c23 :: c24 :: c25 :: c26 :: c27 :: c28 :: c29 :: c30 :: c31 :: c32 :: c33 :: c34 :: c35 :: c36 :: c37 :: c38 :: c39 :: c40 :: c41 :: c42 :: c43 :: c44 :: c45 :: c46 :: c47 :: c48 :: c49 :: c50 :: c51 :: c52 :: c53 :: c54 :: c55 :: c56 :: c57 :: c58 :: c59 :: c60 :: c61 :: c62 :: c63 :: c64 :: c65 :: c66 :: c67 :: c68 :: c69 :: c70 :: c71 :: c72 :: c73 :: c74 :: c75 :: c76 :: c77 :: c78 :: c79 :: c80 :: c81 :: c82 :: c83 :: c84 :: c85 :: c86 :: c87 :: c88 :: c89 :: c90 :: c91 :: c92 :: c93 :: c94 :: c95 :: c96 :: c97 :: c98 :: c99 :: c100 :: c101 :: c102 :: c103 :: c104 :: c105 :: c106 :: c107 :: c108 :: c109 :: c110 :: c111 :: c112 :: c113 :: c114 :: c115 :: c116 :: c117 :: c118 :: c119 :: c120 :: c121 :: c122 :: c123 :: c124 :: c125 :: c126 :: c127 :: c128 :: c129 :: c130 :: c131 :: c132 :: c133 :: c134 :: c135 :: c136 :: c137 :: c138 :: c139 :: c140 :: c141 :: c142 :: c143 :: c144 :: u145 :: u146 :: u147 :: u148 :: u149 :: u150 :: u151 :: u152 :: u153 :: u154 :: u155 :: u156 :: u157 :: u158 :: u159 :: u160 :: u161 :: u162 :: u163 :: u164 :: u165 :: u166 :: u167 :: u168 :: u169 :: c170 :: c171 :: c172 :: c173 :: c174 :: c175 :: c176 :: c177 :: c178 :: c179 :: c180 :: c181 :: c182 :: c183 :: c184 :: c185 :: c186 :: c187 :: c188 :: c189 :: c190 :: c191 :: c192 :: c193 :: c194 :: c195 :: c196 :: c197 :: c198 :: c199 :: c200 :: c201 :: c202 :: c203 :: c204 :: c205 :: c206 :: c207 :: c208 :: c209 :: c210 :: c211 :: c212 :: c213 :: c214 :: c215 :: c216 :: c217 :: c218 :: c219 :: c220 :: c221 :: c222 :: c223 :: c224 :: c225 :: c226 :: c227 :: c228 :: c229 :: c230 :: c231 :: c232 :: c233 :: c234 :: c235 :: c236 :: c237 :: c238 :: c239 :: c240 :: c241 :: c242 :: c243 :: c244 :: c245 :: c246 :: c247 :: c248 :: c249 :: c250 :: c251 :: c252 :: c253 :: c254 :: c255 :: c256 :: c257 :: c258 :: c259 :: c260 :: c261 :: c262 :: c263 :: c264 :: c265 :: c266 :: c267 :: c268 :: c269 :: c270 :: c271 :: c272 :: c273 :: c274 :: c275 :: c276 :: c277 :: c278 :: c279 :: c280 :: c281 :: c282 :: c283 :: c284 :: c285 :: c286 :: c287 :: c288 :: c289 :: c290 :: c291 :: c292 :: c293 :: c294 :: c295 :: c296 :: c297 :: c298 :: c299 :: c300 :: c301 :: c302 :: c303 :: c304 :: c305 :: c306 :: c307 :: c308 :: c309 :: c310 :: c311 :: c312 :: c313 :: [] : List Value).toArray, []⟩ wx) :
    Code.wp Try.prog ((Try.f13.body.bind (blockAt 6)).getD .skip) (Exit.then K (NoPanic Q)) ⟨(.pointer (some ⟨x.FF, 0, none⟩) :: .pointer (some ⟨MB, 0, none⟩) :: .slice aT M cT :: .bool lk :: c4 :: c5 :: c6 :: c7 :: c8 :: c9 :: c10 :: c11 :: c12 :: c13 :: c14 :: c15 :: c16 :: c17 :: c18 :: c19 :: .int .i64 0 :: c21 :: c22 :: c23 :: c24 :: c25 :: c26 :: c27 :: c28 :: c29 :: c30 :: c31 :: c32 :: c33 :: c34 :: c35 :: c36 :: c37 :: c38 :: c39 :: c40 :: c41 :: c42 :: c43 :: c44 :: c45 :: c46 :: c47 :: c48 :: c49 :: c50 :: c51 :: c52 :: c53 :: c54 :: c55 :: c56 :: c57 :: c58 :: c59 :: c60 :: c61 :: c62 :: c63 :: c64 :: c65 :: c66 :: c67 :: c68 :: c69 :: c70 :: c71 :: c72 :: c73 :: c74 :: c75 :: c76 :: c77 :: c78 :: c79 :: c80 :: c81 :: c82 :: c83 :: c84 :: c85 :: c86 :: c87 :: c88 :: c89 :: c90 :: c91 :: c92 :: c93 :: c94 :: c95 :: c96 :: c97 :: c98 :: c99 :: c100 :: c101 :: c102 :: c103 :: c104 :: c105 :: c106 :: c107 :: c108 :: c109 :: c110 :: c111 :: c112 :: c113 :: c114 :: c115 :: c116 :: c117 :: c118 :: c119 :: c120 :: c121 :: c122 :: c123 :: c124 :: c125 :: c126 :: c127 :: c128 :: c129 :: c130 :: c131 :: c132 :: c133 :: c134 :: c135 :: c136 :: c137 :: c138 :: c139 :: c140 :: c141 :: c142 :: c143 :: c144 :: c145 :: c146 :: c147 :: c148 :: c149 :: c150 :: c151 :: c152 :: c153 :: c154 :: c155 :: c156 :: c157 :: c158 :: c159 :: c160 :: c161 :: c162 :: c163 :: c164 :: c165 :: c166 :: c167 :: c168 :: c169 :: c170 :: c171 :: c172 :: c173 :: c174 :: c175 :: c176 :: c177 :: c178 :: c179 :: c180 :: c181 :: c182 :: c183 :: c184 :: c185 :: c186 :: c187 :: c188 :: c189 :: c190 :: c191 :: c192 :: c193 :: c194 :: c195 :: c196 :: c197 :: c198 :: c199 :: c200 :: c201 :: c202 :: c203 :: c204 :: c205 :: c206 :: c207 :: c208 :: c209 :: c210 :: c211 :: c212 :: c213 :: c214 :: c215 :: c216 :: c217 :: c218 :: c219 :: c220 :: c221 :: c222 :: c223 :: c224 :: c225 :: c226 :: c227 :: c228 :: c229 :: c230 :: c231 :: c232 :: c233 :: c234 :: c235 :: c236 :: c237 :: c238 :: c239 :: c240 :: c241 :: c242 :: c243 :: c244 :: c245 :: c246 :: c247 :: c248 :: c249 :: c250 :: c251 :: c252 :: c253 :: c254 :: c255 :: c256 :: c257 :: c258 :: c259 :: c260 :: c261 :: c262 :: c263 :: c264 :: c265 :: c266 :: c267 :: c268 :: c269 :: c270 :: c271 :: c272 :: c273 :: c274 :: c275 :: c276 :: c277 :: c278 :: c279 :: c280 :: c281 :: c282 :: c283 :: c284 :: c285 :: c286 :: c287 :: c288 :: c289 :: c290 :: c291 :: c292 :: c293 :: c294 :: c295 :: c296 :: c297 :: c298 :: c299 :: c300 :: c301 :: c302 :: c303 :: c304 :: c305 :: c306 :: c307 :: c308 :: c309 :: c310 :: c311 :: c312 :: c313 :: [] : List Value).toArray, []⟩ w := by
  have HK : Hid _ := hK
  have HC := hid hC
  have hM9 := hC.tr.few
  clear hK hC
  conv => arg 2; whnf
  have hneq := neq_same
  go_cut [] from 145 to 169 (fun wx => Below w.heap.size w wx)
  case first =>
    go_wp2_with fail
    go_loopg [20] M (fun gk s20 wr => ∃ j : Nat, gk = M - j ∧ j ≤ M ∧ s20 = .int .i64 (j : Nat) ∧ Below w.heap.size w wr)
    case atStart => exact ⟨0, rfl, by omega, rfl, Below.refl _ _⟩
    case round =>
      obtain ⟨j, rfl, hj, rfl, hb⟩ := hrel
      have HB := hid hb
      by_cases hlt : j < M
      · have hCr := HC.out.below hb
        obtain ⟨tb, ob, rfl, htb, htc⟩ := hCr.tps (by omega)
        obtain ⟨T, hT⟩ : ∃ T, T = t j := ⟨_, rfl⟩
        obtain ⟨bq, hbq⟩ : ∃ bq, bq = bs fan t j T := ⟨_, rfl⟩
        have hT4 : T ≤ 4 := by rw [hT]; exact hCr.tr.top j hlt
        have ct : wr.cell? ⟨tb, ob + j, none⟩ = some (.int .i8 (T : Nat)) := by rw [hT]; exact htc j hlt
        obtain ⟨gr, cr, hvr, czr⟩ := hCr.ro.cell hlt
        obtain ⟨go, co, hvo, czo⟩ := hCr.s5.cell hlt
        have hbN : bq < N T := by
          rw [hbq, hCr.nn T (by omega)]
          have h1 := bs_mono (fan := fan) (t := t) (show j + 1 ≤ M by omega) T
          have h2 : bs fan t (j + 1) T = bs fan t j T + 1 := by
            show bs fan t j T + cn fan (t j) T = _
            rw [hT, cn_self (hCr.tr.pos j hlt)]
          omega
        have hb9 : bq ≤ 65536 := by have := hCr.n9 (l := T) (by omega); omega
        have m1 := hCr.mc (q := 31) (by omega) (by omega)
        rw [hvo] at m1
        have czo' : wr.cell? ⟨go, j, none⟩ = some (.int .i32 (bq : Nat)) := by rw [hbq, hT]; exact czo
        have e0 : C 0 = .slice (some ⟨gr, 0, none⟩) M cr := by rw [hCr.c0, hvr]
        obtain ⟨aR, cR, hvR, hrR⟩ := hCr.ro
        obtain ⟨gR, hgR, hrow⟩ := hrR (by omega)
        have e0' : C 0 = .slice (some ⟨gR, 0, none⟩) M cR := by rw [hCr.c0, hvR, hgR]
        have hrf : rootF fan t x j = .pointer (some ⟨x.LV T, bq * 6, none⟩) := by
          unfold rootF; rw [hbq, hT]
        have C39 := fun k => acc39 (w := wr.drewN k) (hCr.ff.drewN k) j M cR gR _ e0' (hrow.drewN k) hlt
        rw [hrf] at C39
        have C30 := fun k => acc30 (w := wr.drewN k) (hCr.ff.drewN k) T bq (N T) (N T) (x.LV T) (by omega) (hCr.head.levels T (by omega)) hbN
        have hjI : ((j : Nat) : Int) < (M : Int) := by omega
        have yT : IntKind.i64.wrap ((T : Nat) : Int) = (T : Int) := wrap_i64 (by omega) (by omega)
        have yb : IntKind.i64.wrap ((bq : Nat) : Int) = (bq : Int) := wrap_i64 (by omega) (by omega)
        clear hCr htc hvr czr hvo czo e0 e0' hvR hgR hrow hrR hrf hT hbq hb
        obtain ⟨wo, hwo⟩ : ∃ wo, wo = wr := ⟨_, rfl⟩
        subst hwo
        go_upto_region 30 with fail
        go_quiet (first | (go_at_call 39; exact Calls.quiet_of_same (C39 _)) | (go_at_call 30; exact Calls.quiet_of_same (C30 _)))
        clear C39 C30 m1 czo' ct
        go_wp2
        go_roundg (M - (j + 1))
        case measure => omega
        case rel => exact ⟨j + 1, rfl, by omega, by go_num, below_drewN HB.out _⟩
      · clear hb
        go_wp2
        go_meet
        case rel => exact HB.out
  case rest =>
    exact HK.out _ _ _ _ _ _ _ _ _ _ _ _ _ _ _ _ _ _ _ _ _ _ _ _ _ _ _ _ hcut

end Go.Proofs.Qxb6609507a.U

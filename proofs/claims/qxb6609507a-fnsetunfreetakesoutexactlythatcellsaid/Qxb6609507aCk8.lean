import Derived.Test.Qxb6609507aChk
import Derived.Deep.CutBlock
import Derived.Deep.QuietTactic
import Derived.LaidEqlPtr
namespace Go.Proofs.Qxb6609507a.U
open Go.RowKit Go.Proofs.Qxb6609507a.Plain
set_option linter.unusedVariables false
set_option linter.unusedSimpArgs false

set_option maxRecDepth 100000 in
set_option maxHeartbeats 8000000 in
theorem ck8 {fan t : Nat → Nat} {M : Nat} {x : Blk} {lk : Bool} {N : Nat → Nat} {C V : Nat → Value} {V0 V1 : Value} {MB : Nat} {aT : Option Addr} {cT : Nat}  (w : World) (K : Act → World → Prop) (Q : Exit → Act → World → Prop) (c4 c5 c6 c7 c8 c9 c10 c11 c12 c13 c14 c15 c16 c17 c18 c19 c20 c22 c23 c24 c25 c26 c27 c28 c29 c30 c31 c32 c33 c34 c35 c36 c37 c38 c39 c40 c41 c42 c43 c44 c45 c46 c47 c48 c49 c50 c51 c52 c53 c54 c55 c56 c57 c58 c59 c60 c61 c62 c63 c64 c65 c66 c67 c68 c69 c70 c71 c72 c73 c74 c75 c76 c77 c78 c79 c80 c81 c82 c83 c84 c85 c86 c87 c88 c89 c90 c91 c92 c93 c94 c95 c96 c97 c98 c99 c100 c101 c102 c103 c104 c105 c106 c107 c108 c109 c110 c111 c112 c113 c114 c115 c116 c117 c118 c119 c120 c121 c122 c123 c124 c125 c126 c127 c128 c129 c130 c131 c132 c133 c134 c135 c136 c137 c138 c139 c140 c141 c142 c143 c144 c145 c146 c147 c148 c149 c150 c151 c152 c153 c154 c155 c156 c157 c158 c159 c160 c161 c162 c163 c164 c165 c166 c167 c168 c169 c170 c171 c172 c173 c174 c175 c176 c177 c178 c179 c180 c181 c182 c183 c184 c185 c186 c187 c188 c189 c190 c191 c192 c193 c194 c195 c196 c197 c198 c199 c200 c201 c202 c203 c204 c205 c206 c207 c208 c209 c210 c211 c212 c213 c214 c215 c216 c217 c218 c219 c220 c221 c222 c223 c224 c225 c226 c227 c228 c229 c230 c231 c232 c233 c234 c235 c236 c237 c238 c239 c240 c241 c242 c243 c244 c245 c246 c247 c248 c249 c250 c251 c252 c253 c254 c255 c256 c257 c258 c259 c260 c261 c262 c263 c264 c265 c266 c267 c268 c269 c270 c271 c272 c273 c274 c275 c276 c277 c278 c279 c280 c281 c282 c283 c284 c285 c286 c287 c288 c289 c290 c291 c292 c293 c294 c295 c296 c297 c298 c299 c300 c301 c302 c303 c304 c305 c306 c307 c308 c309 c310 c311 c312 c313 : Value)
    (hC : Chk w fan t M x lk N C V V0 V1 MB aT) 
    (hK : ∀ (u8 u21 u22 u23 u24 u25 u178 u179 u180 u181 u182 u183 u184 u185 u186 u187 u188 u189 u190 u191 u192 u193 u194 u195 u196 u197 u198 u199 u200 u201 u202 u203 u204 u205 u206 u207 u208 u209 u210 u211 u212 u213 u214 u215 u216 u217 u218 u219 u220 u221 u222 u223 u224 u225 u226 u227 u228 u229 u230 u231 u232 u233 u234 u235 u236 : Value) (wx : World), Below w.heap.size w wx → K ⟨(.pointer (some ⟨x.FF, 0, none⟩) :: .pointer (some ⟨MB, 0, none⟩) :: .slice aT M cT :: .bool lk :: c4 :: c5 :: c6 :: c7 :: u8 :: c9 :: c10 :: c11 :: c12 :: c13 :: c14 :: c15 :: c16 :: c17 :: c18 :: c19 :: c20 :: u21 :: u22 :: u23 :: u24 :: u25 :: c26 :: c27 :: c28 :: c29 :: c30 :: c31 :: c32 :: c33 :: c34 :: c35 :: c36 :: c37 :: c38 :: c39 :: c40 :: c41 :: c42 :: c43 :: c44 :: c45 :: c46 :: c47 :: c48 :: c49 :: c50 :: c51 :: c52 :: c53 :: c54 :: c55 :: c56 :: c57 :: c58 :: c59 :: c60 :: c61 :: c62 :: c63 :: c64 :: c65 :: c66 :: c67 :: c68 :: c69 :: c70 :: c71 :: c72 :: c73 :: c74 :: c75 :: c76 :: c77 :: c78 :: c79 :: c80 :: c81 :: c82 :: c83 :: c84 :: c85 :: c86 :: c87 :: c88 :: c89 :: c90 :: c91 :: c92 :: c93 :: c94 :: c95 :: c96 :: c97 :: c98 :: c99 :: c100 :: c101 :: c102 :: c103 :: c104 :: c105 :: c106 :: c107 :: c108 :: c109 :: c110 :: c111 :: c112 :: c113 :: c114 :: c115 :: c116 :: c117 :: c118 :: c119 :: c120 :: c121 :: c122 :: c123 :: c124 :: c125 :: c126 :: c127 :: c128 :: c129 :: c130 :: c131 :: c132 :: c133 :: c134 :: c135 :: c136 :: c137 :: c138 :: c139 :: c140 :: c141 :: c142 :: c143 :: c144 :: c145 :: c146 :: c147 :: c148 :: c149 :: c150 :: c151 :: c152 :: c153 :: c154 :: c155 :: c156 :: c157 :: c158 :: c159 :: c160 :: c161 :: c162 :: c163 :: c164 :: c165 :: c166 :: c167 :: c168 :: c169 :: c170 :: c171 :: c172 :: c173 :: c174 :: c175 :: c176 :: c177 :: u178 :: u179 :: u180 :: u181 :: u182 :: u183 :: u184 :: u185 :: u186 :: u187 :: u188 :: u189 :: u190 :: u191 :: u192 :: u193 :: u194 :: u195 :: u196 :: u197 :: u198 :: u199 :: u200 :: u201 :: u202 :: u203 :: u204 :: u205 :: u206 :: u207 :: u208 :: u209 :: u210 :: u211 :: u212 :: u213 :: u214 :: u215 :: u216 :: u217 :: u218 :: u219 :: u220 :: u221 :: u222 :: u223 :: u224 :: u225 :: u226 :: u227 :: u228 :: u229 :: u230 :: u231 :: u232 :: u233 :: u234 :: u235 :: u236 :: c237 :: c238 :: c239 :: c240 :: c241 :: c242 :: c243 :: c244 :: c245 :: c246 :: c247 :: c248 :: c249 :: c250 :: c251 :: c252 :: c253 :: c254 :: c255 :: c256 :: c257 :: c258 :: c259 :: c260 :: c261 :: c262 :: c263 :: c264 :: c265 :: c266 :: c267 :: c268 :: c269 :: c270 :: c271 :: c272 :: c273 :: c274 :: c275 :: c276 :: c277 :: c278 :: c279 :: c280 :: c281 :: c282 :: c283 :: c284 :: c285 :: c286 :: c287 :: c288 :: c289 :: c290 :: c291 :: c292 :: c293 :: c294 :: c295 :: c296 :: c297 :: c298 :: c299 :: c300 :: c301 :: c302 :: c303 :: c304 :: c305 :: c306 :: c307 :: c308 :: c309 :: c310 :: c311 :: c312 :: c313 :: [] : List Value).toArray, []⟩ wx) :
    Code.wp Try.prog ((Try.f13.body.bind (blockAt 8)).getD .skip) (Exit.then K (NoPanic Q)) ⟨(.pointer (some ⟨x.FF, 0, none⟩) :: .pointer (some ⟨MB, 0, none⟩) :: .slice aT M cT :: .bool lk :: c4 :: c5 :: c6 :: c7 :: c8 :: c9 :: c10 :: c11 :: c12 :: c13 :: c14 :: c15 :: c16 :: c17 :: c18 :: c19 :: c20 :: .int .i64 0 :: c22 :: c23 :: c24 :: c25 :: c26 :: c27 :: c28 :: c29 :: c30 :: c31 :: c32 :: c33 :: c34 :: c35 :: c36 :: c37 :: c38 :: c39 :: c40 :: c41 :: c42 :: c43 :: c44 :: c45 :: c46 :: c47 :: c48 :: c49 :: c50 :: c51 :: c52 :: c53 :: c54 :: c55 :: c56 :: c57 :: c58 :: c59 :: c60 :: c61 :: c62 :: c63 :: c64 :: c65 :: c66 :: c67 :: c68 :: c69 :: c70 :: c71 :: c72 :: c73 :: c74 :: c75 :: c76 :: c77 :: c78 :: c79 :: c80 :: c81 :: c82 :: c83 :: c84 :: c85 :: c86 :: c87 :: c88 :: c89 :: c90 :: c91 :: c92 :: c93 :: c94 :: c95 :: c96 :: c97 :: c98 :: c99 :: c100 :: c101 :: c102 :: c103 :: c104 :: c105 :: c106 :: c107 :: c108 :: c109 :: c110 :: c111 :: c112 :: c113 :: c114 :: c115 :: c116 :: c117 :: c118 :: c119 :: c120 :: c121 :: c122 :: c123 :: c124 :: c125 :: c126 :: c127 :: c128 :: c129 :: c130 :: c131 :: c132 :: c133 :: c134 :: c135 :: c136 :: c137 :: c138 :: c139 :: c140 :: c141 :: c142 :: c143 :: c144 :: c145 :: c146 :: c147 :: c148 :: c149 :: c150 :: c151 :: c152 :: c153 :: c154 :: c155 :: c156 :: c157 :: c158 :: c159 :: c160 :: c161 :: c162 :: c163 :: c164 :: c165 :: c166 :: c167 :: c168 :: c169 :: c170 :: c171 :: c172 :: c173 :: c174 :: c175 :: c176 :: c177 :: c178 :: c179 :: c180 :: c181 :: c182 :: c183 :: c184 :: c185 :: c186 :: c187 :: c188 :: c189 :: c190 :: c191 :: c192 :: c193 :: c194 :: c195 :: c196 :: c197 :: c198 :: c199 :: c200 :: c201 :: c202 :: c203 :: c204 :: c205 :: c206 :: c207 :: c208 :: c209 :: c210 :: c211 :: c212 :: c213 :: c214 :: c215 :: c216 :: c217 :: c218 :: c219 :: c220 :: c221 :: c222 :: c223 :: c224 :: c225 :: c226 :: c227 :: c228 :: c229 :: c230 :: c231 :: c232 :: c233 :: c234 :: c235 :: c236 :: c237 :: c238 :: c239 :: c240 :: c241 :: c242 :: c243 :: c244 :: c245 :: c246 :: c247 :: c248 :: c249 :: c250 :: c251 :: c252 :: c253 :: c254 :: c255 :: c256 :: c257 :: c258 :: c259 :: c260 :: c261 :: c262 :: c263 :: c264 :: c265 :: c266 :: c267 :: c268 :: c269 :: c270 :: c271 :: c272 :: c273 :: c274 :: c275 :: c276 :: c277 :: c278 :: c279 :: c280 :: c281 :: c282 :: c283 :: c284 :: c285 :: c286 :: c287 :: c288 :: c289 :: c290 :: c291 :: c292 :: c293 :: c294 :: c295 :: c296 :: c297 :: c298 :: c299 :: c300 :: c301 :: c302 :: c303 :: c304 :: c305 :: c306 :: c307 :: c308 :: c309 :: c310 :: c311 :: c312 :: c313 :: [] : List Value).toArray, []⟩ w := by
  have HK : Hid _ := hK
  have HC := hid hC
  have hM9 := hC.tr.few
  clear hK hC
  conv => arg 2; whnf
  obtain ⟨R, hR⟩ : ∃ R, R = (RL t M).length := ⟨_, rfl⟩
  have hR9 : R ≤ 65536 := by have := RL_le (t := t) M; omega
  have HR := hid hR
  clear hR
  go_cut [] from 178 to 236 (fun wx => Below w.heap.size w wx)
  case first =>
    go_wp2_with fail
    go_loopg [21] R (fun gk s21 wr => ∃ k : Nat, gk = R - k ∧ k ≤ R ∧ s21 = .int .i64 (k : Nat) ∧ Below w.heap.size w wr)
    case atStart => exact ⟨0, rfl, by omega, rfl, Below.refl _ _⟩
    case round =>
      obtain ⟨k, rfl, hk, rfl, hb⟩ := hrel
      have HB := hid hb
      have hCr := HC.out.below hb
      obtain ⟨a6, c6', hv6⟩ := hCr.s6.form
      have m6 := hCr.mc (q := 32) (by omega) (by omega)
      rw [hv6, ← HR.out] at m6
      by_cases hlt : k < R
      · have hkR : k < (RL t M).length := by rw [← HR.out]; exact hlt
        obtain ⟨g6, d6, w6, z6⟩ := hCr.s6.cell hkR
        obtain ⟨g7, d7, w7, z7⟩ := hCr.s7.cell hkR
        obtain ⟨g8, d8, w8, z8⟩ := hCr.s8.cell hkR
        obtain ⟨g9, d9, w9, z9⟩ := hCr.s9.cell hkR
        have m6 := hCr.mc (q := 32) (by omega) (by omega)
        have m7 := hCr.mc (q := 33) (by omega) (by omega)
        have m8 := hCr.mc (q := 34) (by omega) (by omega)
        have m9 := hCr.mc (q := 35) (by omega) (by omega)
        rw [w6, ← HR.out] at m6
        rw [w7, ← HR.out] at m7
        rw [w8, ← HR.out] at m8
        rw [w9, ← HR.out] at m9
        obtain ⟨aR, cR, hvR, hrR⟩ := hCr.ru
        obtain ⟨gR, hgR, hrow⟩ := hrR (by omega)
        have e1 : C 1 = .slice (some ⟨gR, 0, none⟩) (RL t M).length cR := by rw [hCr.c1, hvR, hgR]
        obtain ⟨q0, q1, q2, q3⟩ := runF_at (RL t M) (RF fan t M) (RO fan t M) (RC t M) k
        obtain ⟨r0, hr0⟩ : ∃ r0, r0 = (RL t M).getD k 0 := ⟨_, rfl⟩
        obtain ⟨r1, hr1⟩ : ∃ r1, r1 = (RF fan t M).getD k 0 := ⟨_, rfl⟩
        obtain ⟨r2, hr2⟩ : ∃ r2, r2 = (RO fan t M).getD k 0 := ⟨_, rfl⟩
        obtain ⟨r3, hr3⟩ : ∃ r3, r3 = (RC t M).getD k 0 := ⟨_, rfl⟩
        rw [← hr0] at z6 q0
        rw [← hr1] at z7 q1
        rw [← hr2] at z8 q2
        rw [← hr3] at z9 q3
        have C41 := acc41 hCr.ff k (RL t M).length cR gR _ e1 hrow hkR (r0 : Nat) (r1 : Nat) (r2 : Nat) (r3 : Nat) q0 q1 q2 q3
        have hkI : ((k : Nat) : Int) < (R : Int) := by omega
        have m6d : ∀ n, (wr.drewN n).cell? ⟨MB, 32, none⟩ = some (.slice (some ⟨g6, 0, none⟩) R d6) := fun _ => m6
        have m7d : ∀ n, (wr.drewN n).cell? ⟨MB, 33, none⟩ = some (.slice (some ⟨g7, 0, none⟩) R d7) := fun _ => m7
        have m8d : ∀ n, (wr.drewN n).cell? ⟨MB, 34, none⟩ = some (.slice (some ⟨g8, 0, none⟩) R d8) := fun _ => m8
        have m9d : ∀ n, (wr.drewN n).cell? ⟨MB, 35, none⟩ = some (.slice (some ⟨g9, 0, none⟩) R d9) := fun _ => m9
        clear hCr hv6 w6 w7 w8 w9 hvR hgR hrow hrR e1 q0 q1 q2 q3 hr0 hr1 hr2 hr3 hb
        obtain ⟨wo, hwo⟩ : ∃ wo, wo = wr := ⟨_, rfl⟩
        subst hwo
        go_wp2_with (go_at_call 41; refine C41.mono ?_; rintro e w2 ⟨rfl, mm, rfl⟩)
        go_roundg (R - (k + 1))
        case measure => omega
        case rel => exact ⟨k + 1, rfl, by omega, by go_num, below_drewN HB.out _⟩
      · clear hb hCr hv6
        go_wp2
        go_meet
        case rel => exact HB.out
  case rest =>
    exact HK.out _ _ _ _ _ _ _ _ _ _ _ _ _ _ _ _ _ _ _ _ _ _ _ _ _ _ _ _ _ _ _ _ _ _ _ _ _ _ _ _ _ _ _ _ _ _ _ _ _ _ _ _ _ _ _ _ _ _ _ _ _ _ _ _ _ _ hcut

end Go.Proofs.Qxb6609507a.U

import Derived.Test.Qxb6609507aChk
import Derived.Deep.CutBlock
import Derived.Deep.QuietTactic
import Derived.LaidEqlPtr
namespace Go.Proofs.Qxb6609507a.U
open Go.RowKit Go.Proofs.Qxb6609507a.Plain
set_option linter.unusedVariables false
set_option linter.unusedSimpArgs false

set_option maxRecDepth 100000 in
set_option maxHeartbeats 8000000 in
theorem ck4 {fan t : Nat → Nat} {M : Nat} {x : Blk} {lk : Bool} {N : Nat → Nat} {C V : Nat → Value} {V0 V1 : Value} {MB : Nat} {aT : Option Addr} {cT : Nat} (l : Nat) (w : World) (K : Act → World → Prop) (Q : Exit → Act → World → Prop) (c4 c5 c6 c7 c8 c9 c14 c15 c16 c17 c18 c19 c20 c21 c22 c23 c24 c25 c26 c27 c28 c29 c30 c31 c32 c33 c34 c35 c36 c37 c38 c39 c40 c41 c42 c43 c44 c45 c46 c47 c48 c49 c50 c51 c52 c53 c54 c55 c56 c57 c58 c59 c60 c61 c62 c63 c64 c65 c66 c67 c68 c69 c70 c71 c72 c73 c74 c75 c76 c77 c78 c79 c80 c81 c82 c83 c84 c85 c86 c87 c88 c89 c90 c91 c92 c93 c94 c95 c96 c97 c98 c99 c100 c101 c102 c103 c104 c105 c106 c107 c108 c109 c110 c111 c112 c113 c114 c115 c116 c117 c118 c119 c120 c121 c122 c123 c124 c125 c126 c127 c128 c129 c130 c131 c132 c133 c134 c135 c136 c137 c138 c139 c140 c141 c142 c143 c144 c145 c146 c147 c148 c149 c150 c151 c152 c153 c154 c155 c156 c157 c158 c159 c160 c161 c162 c163 c164 c165 c166 c167 c168 c169 c170 c171 c172 c173 c174 c175 c176 c177 c178 c179 c180 c181 c182 c183 c184 c185 c186 c187 c188 c189 c190 c191 c192 c193 c194 c195 c196 c197 c198 c199 c200 c201 c202 c203 c204 c205 c206 c207 c208 c209 c210 c211 c212 c213 c214 c215 c216 c217 c218 c219 c220 c221 c222 c223 c224 c225 c226 c227 c228 c229 c230 c231 c232 c233 c234 c235 c236 c237 c238 c239 c240 c241 c242 c243 c244 c245 c246 c247 c248 c249 c250 c251 c252 c253 c254 c255 c256 c257 c258 c259 c260 c261 c262 c263 c264 c265 c266 c267 c268 c269 c270 c271 c272 c273 c274 c275 c276 c277 c278 c279 c280 c281 c282 c283 c284 c285 c286 c287 c288 c289 c290 c291 c292 c293 c294 c295 c296 c297 c298 c299 c300 c301 c302 c303 c304 c305 c306 c307 c308 c309 c310 c311 c312 c313 : Value)
    (hC : Chk w fan t M x lk N C V V0 V1 MB aT) (hl : l < 5)
    (hK : ∀ (u8 u13 u14 u15 u16 u17 u18 u19 u79 u80 u81 u82 u83 u84 u85 u86 u87 u88 u89 u90 u91 u92 u93 u94 u95 u96 u97 u98 u99 u100 u101 u102 u103 u104 u105 u106 u107 u108 u109 u110 u111 u112 u113 u114 u115 u116 u117 u118 u119 u120 u121 u122 u123 u124 u125 u126 u127 u128 u129 u130 u131 u132 u133 : Value) (wx : World), Below w.heap.size w wx → K ⟨(.pointer (some ⟨x.FF, 0, none⟩) :: .pointer (some ⟨MB, 0, none⟩) :: .slice aT M cT :: .bool lk :: c4 :: c5 :: c6 :: c7 :: u8 :: c9 :: .int .i64 (l : Nat) :: .int .i64 (N l : Nat) :: .int .i64 (nt fan t M l (N l) : Nat) :: u13 :: u14 :: u15 :: u16 :: u17 :: u18 :: u19 :: c20 :: c21 :: c22 :: c23 :: c24 :: c25 :: c26 :: c27 :: c28 :: c29 :: c30 :: c31 :: c32 :: c33 :: c34 :: c35 :: c36 :: c37 :: c38 :: c39 :: c40 :: c41 :: c42 :: c43 :: c44 :: c45 :: c46 :: c47 :: c48 :: c49 :: c50 :: c51 :: c52 :: c53 :: c54 :: c55 :: c56 :: c57 :: c58 :: c59 :: c60 :: c61 :: c62 :: c63 :: c64 :: c65 :: c66 :: c67 :: c68 :: c69 :: c70 :: c71 :: c72 :: c73 :: c74 :: c75 :: c76 :: c77 :: c78 :: u79 :: u80 :: u81 :: u82 :: u83 :: u84 :: u85 :: u86 :: u87 :: u88 :: u89 :: u90 :: u91 :: u92 :: u93 :: u94 :: u95 :: u96 :: u97 :: u98 :: u99 :: u100 :: u101 :: u102 :: u103 :: u104 :: u105 :: u106 :: u107 :: u108 :: u109 :: u110 :: u111 :: u112 :: u113 :: u114 :: u115 :: u116 :: u117 :: u118 :: u119 :: u120 :: u121 :: u122 :: u123 :: u124 :: u125 :: u126 :: u127 :: u128 :: u129 :: u130 :: u131 :: u132 :: u133 :: c134 :: c135 :: c136 :: c137 :: c138 :: c139 :: c140 :: c141 :: c142 :: c143 :: c144 :: c145 :: c146 :: c147 :: c148 :: c149 :: c150 :: c151 :: c152 :: c153 :: c154 :: c155 :: c156 :: c157 :: c158 :: c159 :: c160 :: c161 :: c162 :: c163 :: c164 :: c165 :: c166 :: c167 :: c168 :: c169 :: c170 :: c171 :: c172 :: c173 :: c174 :: c175 :: c176 :: c177 :: c178 :: c179 :: c180 :: c181 :: c182 :: c183 :: c184 :: c185 :: c186 :: c187 :: c188 :: c189 :: c190 :: c191 :: c192 :: c193 :: c194 :: c195 :: c196 :: c197 :: c198 :: c199 :: c200 :: c201 :: c202 :: c203 :: c204 :: c205 :: c206 :: c207 :: c208 :: c209 :: c210 :: c211 :: c212 :: c213 :: c214 :: c215 :: c216 :: c217 :: c218 :: c219 :: c220 :: c221 :: c222 :: c223 :: c224 :: c225 :: c226 :: c227 :: c228 :: c229 :: c230 :: c231 :: c232 :: c233 :: c234 :: c235 :: c236 :: c237 :: c238 :: c239 :: c240 :: c241 :: c242 :: c243 :: c244 :: c245 :: c246 :: c247 :: c248 :: c249 :: c250 :: c251 :: c252 :: c253 :: c254 :: c255 :: c256 :: c257 :: c258 :: c259 :: c260 :: c261 :: c262 :: c263 :: c264 :: c265 :: c266 :: c267 :: c268 :: c269 :: c270 :: c271 :: c272 :: c273 :: c274 :: c275 :: c276 :: c277 :: c278 :: c279 :: c280 :: c281 :: c282 :: c283 :: c284 :: c285 :: c286 :: c287 :: c288 :: c289 :: c290 :: c291 :: c292 :: c293 :: c294 :: c295 :: c296 :: c297 :: c298 :: c299 :: c300 :: c301 :: c302 :: c303 :: c304 :: c305 :: c306 :: c307 :: c308 :: c309 :: c310 :: c311 :: c312 :: c313 :: [] : List Value).toArray, []⟩ wx) :
    Code.wp Try.prog ((Try.f13.body.bind (blockAt 4)).getD .skip) (Exit.then K (NoPanic Q)) ⟨(.pointer (some ⟨x.FF, 0, none⟩) :: .pointer (some ⟨MB, 0, none⟩) :: .slice aT M cT :: .bool lk :: c4 :: c5 :: c6 :: c7 :: c8 :: c9 :: .int .i64 (l : Nat) :: .int .i64 (N l : Nat) :: .int .i64 0 :: .int .i64 0 :: c14 :: c15 :: c16 :: c17 :: c18 :: c19 :: c20 :: c21 :: c22 :: c23 :: c24 :: c25 :: c26 :: c27 :: c28 :: c29 :: c30 :: c31 :: c32 :: c33 :: c34 :: c35 :: c36 :: c37 :: c38 :: c39 :: c40 :: c41 :: c42 :: c43 :: c44 :: c45 :: c46 :: c47 :: c48 :: c49 :: c50 :: c51 :: c52 :: c53 :: c54 :: c55 :: c56 :: c57 :: c58 :: c59 :: c60 :: c61 :: c62 :: c63 :: c64 :: c65 :: c66 :: c67 :: c68 :: c69 :: c70 :: c71 :: c72 :: c73 :: c74 :: c75 :: c76 :: c77 :: c78 :: c79 :: c80 :: c81 :: c82 :: c83 :: c84 :: c85 :: c86 :: c87 :: c88 :: c89 :: c90 :: c91 :: c92 :: c93 :: c94 :: c95 :: c96 :: c97 :: c98 :: c99 :: c100 :: c101 :: c102 :: c103 :: c104 :: c105 :: c106 :: c107 :: c108 :: c109 :: c110 :: c111 :: c112 :: c113 :: c114 :: c115 :: c116 :: c117 :: c118 :: c119 :: c120 :: c121 :: c122 :: c123 :: c124 :: c125 :: c126 :: c127 :: c128 :: c129 :: c130 :: c131 :: c132 :: c133 :: c134 :: c135 :: c136 :: c137 :: c138 :: c139 :: c140 :: c141 :: c142 :: c143 :: c144 :: c145 :: c146 :: c147 :: c148 :: c149 :: c150 :: c151 :: c152 :: c153 :: c154 :: c155 :: c156 :: c157 :: c158 :: c159 :: c160 :: c161 :: c162 :: c163 :: c164 :: c165 :: c166 :: c167 :: c168 :: c169 :: c170 :: c171 :: c172 :: c173 :: c174 :: c175 :: c176 :: c177 :: c178 :: c179 :: c180 :: c181 :: c182 :: c183 :: c184 :: c185 :: c186 :: c187 :: c188 :: c189 :: c190 :: c191 :: c192 :: c193 :: c194 :: c195 :: c196 :: c197 :: c198 :: c199 :: c200 :: c201 :: c202 :: c203 :: c204 :: c205 :: c206 :: c207 :: c208 :: c209 :: c210 :: c211 :: c212 :: c213 :: c214 :: c215 :: c216 :: c217 :: c218 :: c219 :: c220 :: c221 :: c222 :: c223 :: c224 :: c225 :: c226 :: c227 :: c228 :: c229 :: c230 :: c231 :: c232 :: c233 :: c234 :: c235 :: c236 :: c237 :: c238 :: c239 :: c240 :: c241 :: c242 :: c243 :: c244 :: c245 :: c246 :: c247 :: c248 :: c249 :: c250 :: c251 :: c252 :: c253 :: c254 :: c255 :: c256 :: c257 :: c258 :: c259 :: c260 :: c261 :: c262 :: c263 :: c264 :: c265 :: c266 :: c267 :: c268 :: c269 :: c270 :: c271 :: c272 :: c273 :: c274 :: c275 :: c276 :: c277 :: c278 :: c279 :: c280 :: c281 :: c282 :: c283 :: c284 :: c285 :: c286 :: c287 :: c288 :: c289 :: c290 :: c291 :: c292 :: c293 :: c294 :: c295 :: c296 :: c297 :: c298 :: c299 :: c300 :: c301 :: c302 :: c303 :: c304 :: c305 :: c306 :: c307 :: c308 :: c309 :: c310 :: c311 :: c312 :: c313 :: [] : List Value).toArray, []⟩ w := by
  have HK : Hid _ := hK
  have HC := hid hC
  have hM9 := hC.tr.few
  clear hK hC
  conv => arg 2; whnf
  obtain ⟨n, hn⟩ : ∃ n, n = N l := ⟨_, rfl⟩
  have hn9 : n ≤ 65536 := by rw [hn]; exact HC.out.n9 hl
  have Hn := hid hn
  go_cut [11, 12] from 79 to 133 (fun s11 s12 wx => s11 = .int .i64 (N l : Nat) ∧ s12 = .int .i64 (nt fan t M l (N l) : Nat) ∧ Below w.heap.size w wx)
  case first =>
    rw [← hn]
    clear hn
    go_wp2_with fail
    go_loopg [12, 13] n (fun gk s12 s13 wr => ∃ i : Nat, gk = n - i ∧ i ≤ n ∧ s12 = .int .i64 (nt fan t M l i : Nat) ∧ s13 = .int .i64 (i : Nat) ∧ Below w.heap.size w wr)
    case atStart => exact ⟨0, rfl, by omega, rfl, rfl, Below.refl _ _⟩
    case round =>
      obtain ⟨i, rfl, hi, rfl, rfl, hb⟩ := hrel
      have HB := hid hb
      by_cases hlt : i < n
      · have hCr := HC.out.below hb
        have hiN : i < N l := by rw [← Hn.out]; exact hlt
        obtain ⟨z, hz⟩ : ∃ z, z = Tp fan t M l i := ⟨_, rfl⟩
        obtain ⟨q, hq⟩ : ∃ q, q = nt fan t M l i := ⟨_, rfl⟩
        have hq9 : q ≤ 65536 := by rw [hq]; exact Nat.le_trans (nt_le _ _ _ _ _) (by omega)
        have e : C (2 + l) = .slice (some ⟨x.LV l, 0, none⟩) n n := by rw [Hn.out]; exact hCr.head.levels l hl
        have C30 := acc30 hCr.ff l i n n (x.LV l) hl e hlt
        have C37 := acc37 (x.LV l) i (N l) _ (hCr.lv l hl) hiN (i : Nat) (-1) 0 (l : Nat) z false (hCr.cellAt hl hiN 0 (by omega)) (hCr.cellAt hl hiN 1 (by omega)) (hCr.cellAt hl hiN 2 (by omega)) (hCr.cellAt hl hiN 3 (by omega)) (by rw [hz]; exact hCr.cellAt hl hiN 4 (by omega)) (hCr.cellAt hl hiN 5 (by omega))
        obtain ⟨gt, ct, hvt, czt⟩ := (hCr.s4 l hl).cell hiN
        have m1 := hCr.mc (q := 26 + l) (by omega) (by omega)
        rw [hvt, ← Hn.out] at m1
        rw [← hz] at czt
        have m1d : ∀ k, (wr.drewN k).cell? ⟨MB, 26 + l, none⟩ = some (.slice (some ⟨gt, 0, none⟩) n ct) := fun _ => m1
        have czd : ∀ k, (wr.drewN k).cell? ⟨gt, i, none⟩ = some (.bool z) := fun _ => czt
        have hiI : ((i : Nat) : Int) < (n : Int) := by omega
        have hlI : ((l : Nat) : Int) < 5 := by omega
        have y1 : IntKind.i32.wrap ((i : Nat) : Int) = (i : Int) := wrap_i32 (by omega) (by omega)
        have Hz := hid hz
        have Hq := hid hq
        rw [← hq]
        clear hCr e hvt hz hq hb
        obtain ⟨wo, hwo⟩ : ∃ wo, wo = wr := ⟨_, rfl⟩
        subst hwo
        cases z with
        | true =>
          have HE : Hid (nt fan t M l (i + 1) = q) := by
            show nt fan t M l i + (if Tp fan t M l i = true then 0 else 1) = q
            rw [← Hz.out, Hq.out]; rfl
          go_wp2_with (first | (go_at_call 30; refine C30.mono ?_; rintro e w2 ⟨rfl, rfl⟩) | (go_at_call 37; refine C37.mono ?_; rintro e w2 ⟨rfl, mm, rfl⟩))
          go_roundg (n - (i + 1))
          case measure => omega
          case rel => exact ⟨i + 1, rfl, by omega, by rw [HE.out], by go_num, below_drewN HB.out _⟩
        | false =>
          have HE : Hid (nt fan t M l (i + 1) = q + 1) := by
            show nt fan t M l i + (if Tp fan t M l i = true then 0 else 1) = q + 1
            rw [← Hz.out, Hq.out]; rfl
          go_wp2_with (first | (go_at_call 30; refine C30.mono ?_; rintro e w2 ⟨rfl, rfl⟩) | (go_at_call 37; refine C37.mono ?_; rintro e w2 ⟨rfl, mm, rfl⟩))
          go_roundg (n - (i + 1))
          case measure => omega
          case rel => exact ⟨i + 1, rfl, by omega, by rw [HE.out]; go_num, by go_num, below_drewN HB.out _⟩
      · have e : i = N l := by rw [← Hn.out]; omega
        clear hb
        go_wp2
        go_meet
        case rel => exact ⟨by rw [Hn.out], by rw [e], HB.out⟩
  case rest =>
    obtain ⟨rfl, rfl, h⟩ := hcut
    exact HK.out _ _ _ _ _ _ _ _ _ _ _ _ _ _ _ _ _ _ _ _ _ _ _ _ _ _ _ _ _ _ _ _ _ _ _ _ _ _ _ _ _ _ _ _ _ _ _ _ _ _ _ _ _ _ _ _ _ _ _ _ _ _ _ _ h

end Go.Proofs.Qxb6609507a.U

import Derived.Test.Qxb6612537aGm0
import Derived.Test.Qxb6612537aGmT
namespace Go.Proofs.Qxb6612537a.U
open Go.RowKit Go.Proofs.Qxb6612537a.Plain
set_option linter.unusedVariables false
set_option linter.unusedSimpArgs false

set_option maxRecDepth 100000 in
set_option maxHeartbeats 8000000 in
theorem gm6 {w : World} {WB nh ch nw cw g1 c1 g2 c2 g3 i ln : Nat} {ah aw : Option Addr} {name : ByteArray} {rk tx : Int} {L : AL} (K : Act → World → Prop) (Q : Exit → Act → World → Prop) (c4 c5 c6 c7 c8 c11 c12 c13 c19 c20 c21 c22 c23 c24 c25 c26 c27 c28 c29 c30 c31 c32 c33 c34 c35 c36 c37 c38 c39 c40 c41 c42 c43 c44 c45 c46 c47 c48 c49 c50 c51 c52 c53 c54 c55 c56 c57 c58 c59 c60 c61 c62 c63 c64 c65 c66 c67 c68 c69 c70 c71 c72 c73 c74 c75 c76 c77 c78 c79 c80 c81 c82 c83 c84 c85 c86 c87 c88 c89 c90 c91 c92 c93 c94 c95 c96 c97 c98 c99 c100 c101 c102 c103 c104 c105 c106 c107 c108 c109 c110 c111 c112 c113 c114 c115 c116 c117 c118 c119 c120 c121 c122 c123 c124 c125 c126 c127 c128 c129 c130 c131 c132 c133 c134 c135 c136 c137 c138 c139 c140 c141 c142 c143 c144 c145 c146 c147 c148 c149 c150 c151 c152 c153 c154 c155 c156 c157 c158 c159 c160 c161 c162 c163 c164 c165 c166 c167 c168 c169 c170 c171 c172 c173 c174 c175 c176 c177 c178 c179 c180 c181 c182 c183 c184 c185 c186 c187 c188 c189 c190 c191 c192 c193 c194 c195 c196 c197 c198 c199 c200 c201 c202 c203 c204 c205 c206 c207 c208 c209 c210 c211 c212 c213 c214 c215 c216 c217 c218 c219 c220 c221 c222 c223 c224 c225 c226 c227 c228 c229 c230 c231 c232 c233 c234 c235 c236 c237 c238 c239 c240 c241 c242 c243 c244 c245 c246 c247 c248 c249 c250 c251 c252 c253 c254 c255 c256 c257 c258 c259 c260 c261 c262 c263 c264 c265 : Value)
    (hL : ln ≤ 4096) (hln : ln = L.length) (hkey : ∀ j, j < L.length → w.cell? ⟨g1, j, none⟩ = some (.int .i64 (key L j)))
    (hK : ∀ (u119 u120 u121 u122 u123 u124 u125 u126 u127 u128 u129 u130 u131 u132 : Value) (k : Nat), k ≤ ln → (∀ j, j < k → key L j ≠ tx) → (k = ln ∨ key L k = tx) → K ⟨(.pointer (some ⟨WB, 0, none⟩) :: .slice ah nh ch :: .slice aw nw cw :: .string name :: c4 :: c5 :: c6 :: c7 :: c8 :: .slice (some ⟨g1, 0, none⟩) ln c1 :: .slice (some ⟨g2, 0, none⟩) ln c2 :: c11 :: c12 :: c13 :: .slice (some ⟨g3, 0, none⟩) ln ln :: .int .i64 (i : Nat) :: .int .i64 tx :: .int .i64 rk :: .int .i64 (k : Nat) :: c19 :: c20 :: c21 :: c22 :: c23 :: c24 :: c25 :: c26 :: c27 :: c28 :: c29 :: c30 :: c31 :: c32 :: c33 :: c34 :: c35 :: c36 :: c37 :: c38 :: c39 :: c40 :: c41 :: c42 :: c43 :: c44 :: c45 :: c46 :: c47 :: c48 :: c49 :: c50 :: c51 :: c52 :: c53 :: c54 :: c55 :: c56 :: c57 :: c58 :: c59 :: c60 :: c61 :: c62 :: c63 :: c64 :: c65 :: c66 :: c67 :: c68 :: c69 :: c70 :: c71 :: c72 :: c73 :: c74 :: c75 :: c76 :: c77 :: c78 :: c79 :: c80 :: c81 :: c82 :: c83 :: c84 :: c85 :: c86 :: c87 :: c88 :: c89 :: c90 :: c91 :: c92 :: c93 :: c94 :: c95 :: c96 :: c97 :: c98 :: c99 :: c100 :: c101 :: c102 :: c103 :: c104 :: c105 :: c106 :: c107 :: c108 :: c109 :: c110 :: c111 :: c112 :: c113 :: c114 :: c115 :: c116 :: c117 :: c118 :: u119 :: u120 :: u121 :: u122 :: u123 :: u124 :: u125 :: u126 :: u127 :: u128 :: u129 :: u130 :: u131 :: u132 :: c133 :: c134 :: c135 :: c136 :: c137 :: c138 :: c139 :: c140 :: c141 :: c142 :: c143 :: c144 :: c145 :: c146 :: c147 :: c148 :: c149 :: c150 :: c151 :: c152 :: c153 :: c154 :: c155 :: c156 :: c157 :: c158 :: c159 :: c160 :: c161 :: c162 :: c163 :: c164 :: c165 :: c166 :: c167 :: c168 :: c169 :: c170 :: c171 :: c172 :: c173 :: c174 :: c175 :: c176 :: c177 :: c178 :: c179 :: c180 :: c181 :: c182 :: c183 :: c184 :: c185 :: c186 :: c187 :: c188 :: c189 :: c190 :: c191 :: c192 :: c193 :: c194 :: c195 :: c196 :: c197 :: c198 :: c199 :: c200 :: c201 :: c202 :: c203 :: c204 :: c205 :: c206 :: c207 :: c208 :: c209 :: c210 :: c211 :: c212 :: c213 :: c214 :: c215 :: c216 :: c217 :: c218 :: c219 :: c220 :: c221 :: c222 :: c223 :: c224 :: c225 :: c226 :: c227 :: c228 :: c229 :: c230 :: c231 :: c232 :: c233 :: c234 :: c235 :: c236 :: c237 :: c238 :: c239 :: c240 :: c241 :: c242 :: c243 :: c244 :: c245 :: c246 :: c247 :: c248 :: c249 :: c250 :: c251 :: c252 :: c253 :: c254 :: c255 :: c256 :: c257 :: c258 :: c259 :: c260 :: c261 :: c262 :: c263 :: c264 :: c265 :: [] : List Value).toArray, []⟩ w) :
    Code.wp Try.prog ((Try.f13.body.bind (blockAt 6)).getD .skip) (Exit.then K (NoPanic Q)) ⟨(.pointer (some ⟨WB, 0, none⟩) :: .slice ah nh ch :: .slice aw nw cw :: .string name :: c4 :: c5 :: c6 :: c7 :: c8 :: .slice (some ⟨g1, 0, none⟩) ln c1 :: .slice (some ⟨g2, 0, none⟩) ln c2 :: c11 :: c12 :: c13 :: .slice (some ⟨g3, 0, none⟩) ln ln :: .int .i64 (i : Nat) :: .int .i64 tx :: .int .i64 rk :: .int .i64 0 :: c19 :: c20 :: c21 :: c22 :: c23 :: c24 :: c25 :: c26 :: c27 :: c28 :: c29 :: c30 :: c31 :: c32 :: c33 :: c34 :: c35 :: c36 :: c37 :: c38 :: c39 :: c40 :: c41 :: c42 :: c43 :: c44 :: c45 :: c46 :: c47 :: c48 :: c49 :: c50 :: c51 :: c52 :: c53 :: c54 :: c55 :: c56 :: c57 :: c58 :: c59 :: c60 :: c61 :: c62 :: c63 :: c64 :: c65 :: c66 :: c67 :: c68 :: c69 :: c70 :: c71 :: c72 :: c73 :: c74 :: c75 :: c76 :: c77 :: c78 :: c79 :: c80 :: c81 :: c82 :: c83 :: c84 :: c85 :: c86 :: c87 :: c88 :: c89 :: c90 :: c91 :: c92 :: c93 :: c94 :: c95 :: c96 :: c97 :: c98 :: c99 :: c100 :: c101 :: c102 :: c103 :: c104 :: c105 :: c106 :: c107 :: c108 :: c109 :: c110 :: c111 :: c112 :: c113 :: c114 :: c115 :: c116 :: c117 :: c118 :: c119 :: c120 :: c121 :: c122 :: c123 :: c124 :: c125 :: c126 :: c127 :: c128 :: c129 :: c130 :: c131 :: c132 :: c133 :: c134 :: c135 :: c136 :: c137 :: c138 :: c139 :: c140 :: c141 :: c142 :: c143 :: c144 :: c145 :: c146 :: c147 :: c148 :: c149 :: c150 :: c151 :: c152 :: c153 :: c154 :: c155 :: c156 :: c157 :: c158 :: c159 :: c160 :: c161 :: c162 :: c163 :: c164 :: c165 :: c166 :: c167 :: c168 :: c169 :: c170 :: c171 :: c172 :: c173 :: c174 :: c175 :: c176 :: c177 :: c178 :: c179 :: c180 :: c181 :: c182 :: c183 :: c184 :: c185 :: c186 :: c187 :: c188 :: c189 :: c190 :: c191 :: c192 :: c193 :: c194 :: c195 :: c196 :: c197 :: c198 :: c199 :: c200 :: c201 :: c202 :: c203 :: c204 :: c205 :: c206 :: c207 :: c208 :: c209 :: c210 :: c211 :: c212 :: c213 :: c214 :: c215 :: c216 :: c217 :: c218 :: c219 :: c220 :: c221 :: c222 :: c223 :: c224 :: c225 :: c226 :: c227 :: c228 :: c229 :: c230 :: c231 :: c232 :: c233 :: c234 :: c235 :: c236 :: c237 :: c238 :: c239 :: c240 :: c241 :: c242 :: c243 :: c244 :: c245 :: c246 :: c247 :: c248 :: c249 :: c250 :: c251 :: c252 :: c253 :: c254 :: c255 :: c256 :: c257 :: c258 :: c259 :: c260 :: c261 :: c262 :: c263 :: c264 :: c265 :: [] : List Value).toArray, []⟩ w := by
  have HK : Hid _ := hK
  clear hK
  conv => arg 2; whnf
  have Hkey := hid hkey
  have Hln := hid hln
  clear hkey hln
  go_cut [18] from 119 to 132 (fun s18 wx => ∃ k : Nat, s18 = .int .i64 (k : Nat) ∧ k ≤ ln ∧ (∀ j, j < k → key L j ≠ tx) ∧ (k = ln ∨ key L k = tx) ∧ wx = w)
  case first =>
    go_wp2_with fail
    go_loopg [18] ln (fun gk s18 wr => ∃ k : Nat, gk = ln - k ∧ s18 = .int .i64 (k : Nat) ∧ k ≤ ln ∧ (∀ j, j < k → key L j ≠ tx) ∧ wr = w)
    case atStart => exact ⟨0, rfl, rfl, Nat.zero_le _, fun j hj => absurd hj (by omega), rfl⟩
    case round =>
      obtain ⟨k, rfl, rfl, hk, hall, rfl⟩ := hrel
      have Hall := hid hall
      clear hall
      by_cases hlt : k < ln
      · have c1 : wr.cell? ⟨g1, k, none⟩ = some (.int .i64 (key L k)) := Hkey.out k (by rw [← Hln.out]; exact hlt)
        obtain ⟨kv, hkv⟩ : ∃ kv, kv = key L k := ⟨_, rfl⟩
        have Hkv := hid hkv
        rw [← hkv] at c1
        have hltI : ((k : Nat) : Int) < (ln : Int) := by omega
        clear hkv
        by_cases he : kv = tx
        · have hbq : (kv == tx) = true := by simp [he]
          have Hfin : Hid (key L k = tx) := by show key L k = tx; rw [← Hkv.out]; exact he
          clear he
          go_wp2
          go_meet
          case rel => exact ⟨k, rfl, by omega, Hall.out, .inr Hfin.out, rfl⟩
        · have hbq : (kv == tx) = false := by simp [he]
          have Hall' : Hid (∀ j, j < k + 1 → key L j ≠ tx) := by
            intro j hj
            by_cases e : j = k
            · subst e; rw [← Hkv.out]; exact he
            · exact Hall.out j (by omega)
          clear he
          go_wp2
          go_roundg (ln - (k + 1))
          case measure => omega
          case rel => exact ⟨k + 1, rfl, by go_num, by omega, Hall'.out, rfl⟩
      · have Hend : Hid (k = ln) := by show k = ln; omega
        have hlt2 : decide (k < ln) = false := decide_eq_false hlt
        go_wp2
        go_meet
        case rel => exact ⟨k, rfl, hk, Hall.out, .inl Hend.out, rfl⟩
  case rest =>
    obtain ⟨k, rfl, h1, h2, h3, rfl⟩ := hcut
    exact HK.out _ _ _ _ _ _ _ _ _ _ _ _ _ _ k h1 h2 h3
set_option maxRecDepth 100000 in
set_option maxHeartbeats 8000000 in
theorem gm4 {w0 w : World} {WB nh ch nw cw g1 c1 g2 c2 g3 ln : Nat} {ah aw : Option Addr} {name : ByteArray} {R : Nat → HRec} {P : Nm → Prop} {L Hs : AL} (K : Act → World → Prop) (Q : Exit → Act → World → Prop) (c4 c5 c6 c7 c8 c11 c12 c13 c16 c17 c18 c19 c20 c21 c22 c23 c24 c25 c26 c27 c28 c29 c30 c31 c32 c33 c34 c35 c36 c37 c38 c39 c40 c41 c42 c43 c44 c45 c46 c47 c48 c49 c50 c51 c52 c53 c54 c55 c56 c57 c58 c59 c60 c61 c62 c63 c64 c65 c66 c67 c68 c69 c70 c71 c72 c73 c74 c75 c76 c77 c78 c79 c80 c81 c82 c83 c84 c85 c86 c87 c88 c89 c90 c91 c92 c93 c94 c95 c96 c97 c98 c99 c100 c101 c102 c103 c104 c105 c106 c107 c108 c109 c110 c111 c112 c113 c114 c115 c116 c117 c118 c119 c120 c121 c122 c123 c124 c125 c126 c127 c128 c129 c130 c131 c132 c133 c134 c135 c136 c137 c138 c139 c140 c141 c142 c143 c144 c145 c146 c147 c148 c149 c150 c151 c152 c153 c154 c155 c156 c157 c158 c159 c160 c161 c162 c163 c164 c165 c166 c167 c168 c169 c170 c171 c172 c173 c174 c175 c176 c177 c178 c179 c180 c181 c182 c183 c184 c185 c186 c187 c188 c189 c190 c191 c192 c193 c194 c195 c196 c197 c198 c199 c200 c201 c202 c203 c204 c205 c206 c207 c208 c209 c210 c211 c212 c213 c214 c215 c216 c217 c218 c219 c220 c221 c222 c223 c224 c225 c226 c227 c228 c229 c230 c231 c232 c233 c234 c235 c236 c237 c238 c239 c240 c241 c242 c243 c244 c245 c246 c247 c248 c249 c250 c251 c252 c253 c254 c255 c256 c257 c258 c259 c260 c261 c262 c263 c264 c265 : Value)
    (hn : nh ≤ 4096) (hln : ln = L.length) (hA : AOk R P nh L) (hH : HsOk R nh P Hs) (hS : SSt w0 g1 c1 g2 c2 g3 L (fun _ => false) w) (C28 : ∀ (i : Nat) (wr : World), i < ln → Below w0.heap.size w0 wr → Calls Try.prog 28 #[.pointer (some ⟨WB, 0, none⟩), .int .i64 (i : Nat)] wr (fun e w' => e = .returned (.tuple #[.int .i64 (key Hs i), .int .i64 (val Hs i)]) ∧ ∃ m, w' = wr.drewN m))
    (hK : ∀ (u8 u15 u16 u17 u18 u107 u108 u109 u110 u111 u112 u113 u114 u115 u116 u117 u118 u119 u120 u121 u122 u123 u124 u125 u126 u127 u128 u129 u130 u131 u132 u133 u134 u135 u136 u137 u138 u139 u140 u141 u142 u143 u144 u145 u146 u147 u148 u149 u150 u151 u152 u153 : Value) (w' : World), Below w0.heap.size w0 w' → K ⟨(.pointer (some ⟨WB, 0, none⟩) :: .slice ah nh ch :: .slice aw nw cw :: .string name :: c4 :: c5 :: c6 :: c7 :: u8 :: .slice (some ⟨g1, 0, none⟩) ln c1 :: .slice (some ⟨g2, 0, none⟩) ln c2 :: c11 :: c12 :: c13 :: .slice (some ⟨g3, 0, none⟩) ln ln :: u15 :: u16 :: u17 :: u18 :: c19 :: c20 :: c21 :: c22 :: c23 :: c24 :: c25 :: c26 :: c27 :: c28 :: c29 :: c30 :: c31 :: c32 :: c33 :: c34 :: c35 :: c36 :: c37 :: c38 :: c39 :: c40 :: c41 :: c42 :: c43 :: c44 :: c45 :: c46 :: c47 :: c48 :: c49 :: c50 :: c51 :: c52 :: c53 :: c54 :: c55 :: c56 :: c57 :: c58 :: c59 :: c60 :: c61 :: c62 :: c63 :: c64 :: c65 :: c66 :: c67 :: c68 :: c69 :: c70 :: c71 :: c72 :: c73 :: c74 :: c75 :: c76 :: c77 :: c78 :: c79 :: c80 :: c81 :: c82 :: c83 :: c84 :: c85 :: c86 :: c87 :: c88 :: c89 :: c90 :: c91 :: c92 :: c93 :: c94 :: c95 :: c96 :: c97 :: c98 :: c99 :: c100 :: c101 :: c102 :: c103 :: c104 :: c105 :: c106 :: u107 :: u108 :: u109 :: u110 :: u111 :: u112 :: u113 :: u114 :: u115 :: u116 :: u117 :: u118 :: u119 :: u120 :: u121 :: u122 :: u123 :: u124 :: u125 :: u126 :: u127 :: u128 :: u129 :: u130 :: u131 :: u132 :: u133 :: u134 :: u135 :: u136 :: u137 :: u138 :: u139 :: u140 :: u141 :: u142 :: u143 :: u144 :: u145 :: u146 :: u147 :: u148 :: u149 :: u150 :: u151 :: u152 :: u153 :: c154 :: c155 :: c156 :: c157 :: c158 :: c159 :: c160 :: c161 :: c162 :: c163 :: c164 :: c165 :: c166 :: c167 :: c168 :: c169 :: c170 :: c171 :: c172 :: c173 :: c174 :: c175 :: c176 :: c177 :: c178 :: c179 :: c180 :: c181 :: c182 :: c183 :: c184 :: c185 :: c186 :: c187 :: c188 :: c189 :: c190 :: c191 :: c192 :: c193 :: c194 :: c195 :: c196 :: c197 :: c198 :: c199 :: c200 :: c201 :: c202 :: c203 :: c204 :: c205 :: c206 :: c207 :: c208 :: c209 :: c210 :: c211 :: c212 :: c213 :: c214 :: c215 :: c216 :: c217 :: c218 :: c219 :: c220 :: c221 :: c222 :: c223 :: c224 :: c225 :: c226 :: c227 :: c228 :: c229 :: c230 :: c231 :: c232 :: c233 :: c234 :: c235 :: c236 :: c237 :: c238 :: c239 :: c240 :: c241 :: c242 :: c243 :: c244 :: c245 :: c246 :: c247 :: c248 :: c249 :: c250 :: c251 :: c252 :: c253 :: c254 :: c255 :: c256 :: c257 :: c258 :: c259 :: c260 :: c261 :: c262 :: c263 :: c264 :: c265 :: [] : List Value).toArray, []⟩ w') :
    Code.wp Try.prog ((Try.f13.body.bind (blockAt 4)).getD .skip) (Exit.then K (NoPanic Q)) ⟨(.pointer (some ⟨WB, 0, none⟩) :: .slice ah nh ch :: .slice aw nw cw :: .string name :: c4 :: c5 :: c6 :: c7 :: c8 :: .slice (some ⟨g1, 0, none⟩) ln c1 :: .slice (some ⟨g2, 0, none⟩) ln c2 :: c11 :: c12 :: c13 :: .slice (some ⟨g3, 0, none⟩) ln ln :: .int .i64 0 :: c16 :: c17 :: c18 :: c19 :: c20 :: c21 :: c22 :: c23 :: c24 :: c25 :: c26 :: c27 :: c28 :: c29 :: c30 :: c31 :: c32 :: c33 :: c34 :: c35 :: c36 :: c37 :: c38 :: c39 :: c40 :: c41 :: c42 :: c43 :: c44 :: c45 :: c46 :: c47 :: c48 :: c49 :: c50 :: c51 :: c52 :: c53 :: c54 :: c55 :: c56 :: c57 :: c58 :: c59 :: c60 :: c61 :: c62 :: c63 :: c64 :: c65 :: c66 :: c67 :: c68 :: c69 :: c70 :: c71 :: c72 :: c73 :: c74 :: c75 :: c76 :: c77 :: c78 :: c79 :: c80 :: c81 :: c82 :: c83 :: c84 :: c85 :: c86 :: c87 :: c88 :: c89 :: c90 :: c91 :: c92 :: c93 :: c94 :: c95 :: c96 :: c97 :: c98 :: c99 :: c100 :: c101 :: c102 :: c103 :: c104 :: c105 :: c106 :: c107 :: c108 :: c109 :: c110 :: c111 :: c112 :: c113 :: c114 :: c115 :: c116 :: c117 :: c118 :: c119 :: c120 :: c121 :: c122 :: c123 :: c124 :: c125 :: c126 :: c127 :: c128 :: c129 :: c130 :: c131 :: c132 :: c133 :: c134 :: c135 :: c136 :: c137 :: c138 :: c139 :: c140 :: c141 :: c142 :: c143 :: c144 :: c145 :: c146 :: c147 :: c148 :: c149 :: c150 :: c151 :: c152 :: c153 :: c154 :: c155 :: c156 :: c157 :: c158 :: c159 :: c160 :: c161 :: c162 :: c163 :: c164 :: c165 :: c166 :: c167 :: c168 :: c169 :: c170 :: c171 :: c172 :: c173 :: c174 :: c175 :: c176 :: c177 :: c178 :: c179 :: c180 :: c181 :: c182 :: c183 :: c184 :: c185 :: c186 :: c187 :: c188 :: c189 :: c190 :: c191 :: c192 :: c193 :: c194 :: c195 :: c196 :: c197 :: c198 :: c199 :: c200 :: c201 :: c202 :: c203 :: c204 :: c205 :: c206 :: c207 :: c208 :: c209 :: c210 :: c211 :: c212 :: c213 :: c214 :: c215 :: c216 :: c217 :: c218 :: c219 :: c220 :: c221 :: c222 :: c223 :: c224 :: c225 :: c226 :: c227 :: c228 :: c229 :: c230 :: c231 :: c232 :: c233 :: c234 :: c235 :: c236 :: c237 :: c238 :: c239 :: c240 :: c241 :: c242 :: c243 :: c244 :: c245 :: c246 :: c247 :: c248 :: c249 :: c250 :: c251 :: c252 :: c253 :: c254 :: c255 :: c256 :: c257 :: c258 :: c259 :: c260 :: c261 :: c262 :: c263 :: c264 :: c265 :: [] : List Value).toArray, []⟩ w := by
  have HK : Hid _ := hK
  clear hK
  conv => arg 2; whnf
  have HS0 := hid hS
  have HA := hid hA
  have HH := hid hH
  have Hln := hid hln
  have hln9 : ln ≤ 4096 := by have := hA.len; omega
  have hHl : Hid (Hs.length = ln) := by show Hs.length = ln; rw [hln]; exact same_len hA hH
  have HC28 := hid C28
  clear hS hA hH hln C28
  go_cut [15] from 107 to 153 (fun s15 wx => Below w0.heap.size w0 wx)
  case first =>
    go_wp2_with fail
    go_loopg [15, 16, 17, 18] ln (fun gk s15 s16 s17 s18 wr => ∃ (i : Nat) (sn : Nat → Bool), gk = ln - i ∧ i ≤ ln ∧ s15 = .int .i64 (i : Nat) ∧ SeenOk L Hs i sn ∧ SSt w0 g1 c1 g2 c2 g3 L sn wr)
    case atStart => exact ⟨0, _, rfl, Nat.zero_le _, rfl, seen_zero L Hs, HS0.out⟩
    case round =>
      clear HS0
      obtain ⟨i, sn, rfl, hi, rfl, hSe, hS⟩ := hrel
      have HSe := hid hSe
      have HS := hid hS
      clear hSe hS
      by_cases hlt : i < ln
      · have hltI : ((i : Nat) : Int) < (ln : Int) := by omega
        have C := HC28.out i wr hlt HS.out.m.bl
        obtain ⟨tx, htx⟩ : ∃ tx, tx = key Hs i := ⟨_, rfl⟩
        obtain ⟨rk, hrk⟩ : ∃ rk, rk = val Hs i := ⟨_, rfl⟩
        rw [← htx, ← hrk] at C
        have Htx := hid htx
        have Hrk := hid hrk
        clear htx hrk
        go_upto_block 6 with (go_at_call 28; refine C.mono ?_; rintro e w2 ⟨rfl, q, rfl⟩)
        have HS2 : Hid (SSt w0 g1 c1 g2 c2 g3 L sn (wr.drewN q)) := HS.out.keeps0 ((Keeps.refl _ wr).drewN q)
        generalize wr.drewN q = W2 at *
        refine Code.wp_mono then_imp (gm6 (L := L) _ _ _ _ _ _ _ _ _ _ _ _ _ _ _ _ _ _ _ _ _ _ _ _ _ _ _ _ _ _ _ _ _ _ _ _ _ _ _ _ _ _ _ _ _ _ _ _ _ _ _ _ _ _ _ _ _ _ _ _ _ _ _ _ _ _ _ _ _ _ _ _ _ _ _ _ _ _ _ _ _ _ _ _ _ _ _ _ _ _ _ _ _ _ _ _ _ _ _ _ _ _ _ _ _ _ _ _ _ _ _ _ _ _ _ _ _ _ _ _ _ _ _ _ _ _ _ _ _ _ _ _ _ _ _ _ _ _ _ _ _ _ _ _ _ _ _ _ _ _ _ _ _ _ _ _ _ _ _ _ _ _ _ _ _ _ _ _ _ _ _ _ _ _ _ _ _ _ _ _ _ _ _ _ _ _ _ _ _ _ _ _ _ _ _ _ _ _ _ _ _ _ _ _ _ _ _ _ _ _ _ _ _ _ _ _ _ _ _ _ _ _ _ _ _ _ _ _ _ _ _ _ _ _ _ _ _ _ _ _ _ _ _ _ _ _ _ _ _ _ _ _ _ _ _ _ _ hln9 Hln.out (fun j hj => HS2.out.m.c1 hj) ?_)
        intro v119 v120 v121 v122 v123 v124 v125 v126 v127 v128 v129 v130 v131 v132 k hk hall hor
        rw [Htx.out] at hall hor
        rw [Hln.out] at hk hor
        obtain ⟨f1, f2, f3, f4⟩ := seen_found HA.out HH.out HSe.out (by rw [hHl.out]; exact hlt) hk hall hor
        have c2 : W2.cell? ⟨g2, k, none⟩ = some (.int .i64 rk) := by rw [HS2.out.m.c2 f1, f3, Hrk.out]
        have c3 : W2.cell? ⟨g3, k, none⟩ = some (.bool false) := by rw [HS2.out.s.cell f1, f2]
        have fz : W2.frozen? ⟨g3, k, none⟩ = false := HS2.out.s.frozen k
        have Hf4 := hid f4
        have HS3 := hid (HS2.out.set k)
        have hkl : k < ln := by rw [Hln.out]; exact f1
        have hkI : ((k : Nat) : Int) < (ln : Int) := by omega
        have hbq : (((k : Nat) : Int) == ((ln : Nat) : Int)) = false := beqF (by omega)
        have hbr : (rk == rk) = true := by simp
        clear hall hor hk f1 f2 f3 f4 C
        go_wp2_with fail
        go_roundg (ln - (i + 1))
        case measure => omega
        case rel => exact ⟨i + 1, _, rfl, by omega, by go_num, Hf4.out, HS3.out⟩
      · go_wp2
        go_meet
        case rel => exact HS.out.m.bl
  case rest =>
    exact HK.out _ _ _ _ _ _ _ _ _ _ _ _ _ _ _ _ _ _ _ _ _ _ _ _ _ _ _ _ _ _ _ _ _ _ _ _ _ _ _ _ _ _ _ _ _ _ _ _ _ _ _ _ _ hcut
end Go.Proofs.Qxb6612537a.U

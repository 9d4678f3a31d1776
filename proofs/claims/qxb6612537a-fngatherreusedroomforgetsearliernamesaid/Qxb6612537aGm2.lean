import Derived.Test.Qxb6612537aGmS
import Derived.Test.Qxb6612537aG7
import Derived.Deep.CutBlock
namespace Go.Proofs.Qxb6612537a.U
open Go.RowKit Go.Proofs.Qxb6612537a.Plain
set_option linter.unusedVariables false
set_option linter.unusedSimpArgs false

theorem drewN_drewN (w : World) (a b : Nat) : (w.drewN a).drewN b = w.drewN (a + b) := by
  simp only [World.drewN]
  congr 1
  omega
set_option maxRecDepth 100000 in
set_option maxHeartbeats 8000000 in
theorem gm2 {w : World} {WB ba off nh ch nw cw g1 c1 g2 c2 i ln : Nat} {aw : Option Addr} {name : ByteArray} {r tx : Int} {L : AL} (K : Act → World → Prop) (Q : Exit → Act → World → Prop) (c4 c5 c6 c7 c8 c14 c15 c16 c17 c18 c19 c20 c21 c22 c23 c24 c25 c26 c27 c28 c29 c30 c31 c32 c33 c34 c35 c36 c37 c38 c39 c40 c41 c42 c43 c44 c45 c46 c47 c48 c49 c50 c51 c52 c53 c54 c55 c56 c57 c58 c59 c60 c61 c62 c63 c64 c65 c66 c67 c68 c69 c70 c71 c72 c73 c74 c75 c76 c77 c78 c79 c80 c81 c82 c83 c84 c85 c86 c87 c88 c89 c90 c91 c92 c93 c94 c95 c96 c97 c98 c99 c100 c101 c102 c103 c104 c105 c106 c107 c108 c109 c110 c111 c112 c113 c114 c115 c116 c117 c118 c119 c120 c121 c122 c123 c124 c125 c126 c127 c128 c129 c130 c131 c132 c133 c134 c135 c136 c137 c138 c139 c140 c141 c142 c143 c144 c145 c146 c147 c148 c149 c150 c151 c152 c153 c154 c155 c156 c157 c158 c159 c160 c161 c162 c163 c164 c165 c166 c167 c168 c169 c170 c171 c172 c173 c174 c175 c176 c177 c178 c179 c180 c181 c182 c183 c184 c185 c186 c187 c188 c189 c190 c191 c192 c193 c194 c195 c196 c197 c198 c199 c200 c201 c202 c203 c204 c205 c206 c207 c208 c209 c210 c211 c212 c213 c214 c215 c216 c217 c218 c219 c220 c221 c222 c223 c224 c225 c226 c227 c228 c229 c230 c231 c232 c233 c234 c235 c236 c237 c238 c239 c240 c241 c242 c243 c244 c245 c246 c247 c248 c249 c250 c251 c252 c253 c254 c255 c256 c257 c258 c259 c260 c261 c262 c263 c264 c265 : Value)
    (hi : i < nh) (hn : nh ≤ 4096) (hL : ln ≤ 4096) (hln : ln = L.length) (htx : w.cell? ⟨ba, off + i * 3 + 2, none⟩ = some (.int .i64 tx)) (hkey : ∀ j, j < L.length → w.cell? ⟨g1, j, none⟩ = some (.int .i64 (key L j)))
    (hK : ∀ (u55 u56 u57 u58 u59 u60 u61 u62 u63 u64 u65 u66 u67 u68 u69 u70 u71 u72 : Value) (k q : Nat), k ≤ ln → (∀ j, j < k → key L j ≠ tx) → (k = ln ∨ key L k = tx) → K ⟨(.pointer (some ⟨WB, 0, none⟩) :: .slice (some ⟨ba, off, none⟩) nh ch :: .slice aw nw cw :: .string name :: c4 :: c5 :: c6 :: c7 :: c8 :: .slice (some ⟨g1, 0, none⟩) ln c1 :: .slice (some ⟨g2, 0, none⟩) ln c2 :: .int .i64 (i : Nat) :: .int .i64 r :: .int .i64 (k : Nat) :: c14 :: c15 :: c16 :: c17 :: c18 :: c19 :: c20 :: c21 :: c22 :: c23 :: c24 :: c25 :: c26 :: c27 :: c28 :: c29 :: c30 :: c31 :: c32 :: c33 :: c34 :: c35 :: c36 :: c37 :: c38 :: c39 :: c40 :: c41 :: c42 :: c43 :: c44 :: c45 :: c46 :: c47 :: c48 :: c49 :: c50 :: c51 :: c52 :: c53 :: c54 :: u55 :: u56 :: u57 :: u58 :: u59 :: u60 :: u61 :: u62 :: u63 :: u64 :: u65 :: u66 :: u67 :: u68 :: u69 :: u70 :: u71 :: u72 :: c73 :: c74 :: c75 :: c76 :: c77 :: c78 :: c79 :: c80 :: c81 :: c82 :: c83 :: c84 :: c85 :: c86 :: c87 :: c88 :: c89 :: c90 :: c91 :: c92 :: c93 :: c94 :: c95 :: c96 :: c97 :: c98 :: c99 :: c100 :: c101 :: c102 :: c103 :: c104 :: c105 :: c106 :: c107 :: c108 :: c109 :: c110 :: c111 :: c112 :: c113 :: c114 :: c115 :: c116 :: c117 :: c118 :: c119 :: c120 :: c121 :: c122 :: c123 :: c124 :: c125 :: c126 :: c127 :: c128 :: c129 :: c130 :: c131 :: c132 :: c133 :: c134 :: c135 :: c136 :: c137 :: c138 :: c139 :: c140 :: c141 :: c142 :: c143 :: c144 :: c145 :: c146 :: c147 :: c148 :: c149 :: c150 :: c151 :: c152 :: c153 :: c154 :: c155 :: c156 :: c157 :: c158 :: c159 :: c160 :: c161 :: c162 :: c163 :: c164 :: c165 :: c166 :: c167 :: c168 :: c169 :: c170 :: c171 :: c172 :: c173 :: c174 :: c175 :: c176 :: c177 :: c178 :: c179 :: c180 :: c181 :: c182 :: c183 :: c184 :: c185 :: c186 :: c187 :: c188 :: c189 :: c190 :: c191 :: c192 :: c193 :: c194 :: c195 :: c196 :: c197 :: c198 :: c199 :: c200 :: c201 :: c202 :: c203 :: c204 :: c205 :: c206 :: c207 :: c208 :: c209 :: c210 :: c211 :: c212 :: c213 :: c214 :: c215 :: c216 :: c217 :: c218 :: c219 :: c220 :: c221 :: c222 :: c223 :: c224 :: c225 :: c226 :: c227 :: c228 :: c229 :: c230 :: c231 :: c232 :: c233 :: c234 :: c235 :: c236 :: c237 :: c238 :: c239 :: c240 :: c241 :: c242 :: c243 :: c244 :: c245 :: c246 :: c247 :: c248 :: c249 :: c250 :: c251 :: c252 :: c253 :: c254 :: c255 :: c256 :: c257 :: c258 :: c259 :: c260 :: c261 :: c262 :: c263 :: c264 :: c265 :: [] : List Value).toArray, []⟩ (w.drewN q)) :
    Code.wp Try.prog ((Try.f13.body.bind (blockAt 2)).getD .skip) (Exit.then K (NoPanic Q)) ⟨(.pointer (some ⟨WB, 0, none⟩) :: .slice (some ⟨ba, off, none⟩) nh ch :: .slice aw nw cw :: .string name :: c4 :: c5 :: c6 :: c7 :: c8 :: .slice (some ⟨g1, 0, none⟩) ln c1 :: .slice (some ⟨g2, 0, none⟩) ln c2 :: .int .i64 (i : Nat) :: .int .i64 r :: .int .i64 0 :: c14 :: c15 :: c16 :: c17 :: c18 :: c19 :: c20 :: c21 :: c22 :: c23 :: c24 :: c25 :: c26 :: c27 :: c28 :: c29 :: c30 :: c31 :: c32 :: c33 :: c34 :: c35 :: c36 :: c37 :: c38 :: c39 :: c40 :: c41 :: c42 :: c43 :: c44 :: c45 :: c46 :: c47 :: c48 :: c49 :: c50 :: c51 :: c52 :: c53 :: c54 :: c55 :: c56 :: c57 :: c58 :: c59 :: c60 :: c61 :: c62 :: c63 :: c64 :: c65 :: c66 :: c67 :: c68 :: c69 :: c70 :: c71 :: c72 :: c73 :: c74 :: c75 :: c76 :: c77 :: c78 :: c79 :: c80 :: c81 :: c82 :: c83 :: c84 :: c85 :: c86 :: c87 :: c88 :: c89 :: c90 :: c91 :: c92 :: c93 :: c94 :: c95 :: c96 :: c97 :: c98 :: c99 :: c100 :: c101 :: c102 :: c103 :: c104 :: c105 :: c106 :: c107 :: c108 :: c109 :: c110 :: c111 :: c112 :: c113 :: c114 :: c115 :: c116 :: c117 :: c118 :: c119 :: c120 :: c121 :: c122 :: c123 :: c124 :: c125 :: c126 :: c127 :: c128 :: c129 :: c130 :: c131 :: c132 :: c133 :: c134 :: c135 :: c136 :: c137 :: c138 :: c139 :: c140 :: c141 :: c142 :: c143 :: c144 :: c145 :: c146 :: c147 :: c148 :: c149 :: c150 :: c151 :: c152 :: c153 :: c154 :: c155 :: c156 :: c157 :: c158 :: c159 :: c160 :: c161 :: c162 :: c163 :: c164 :: c165 :: c166 :: c167 :: c168 :: c169 :: c170 :: c171 :: c172 :: c173 :: c174 :: c175 :: c176 :: c177 :: c178 :: c179 :: c180 :: c181 :: c182 :: c183 :: c184 :: c185 :: c186 :: c187 :: c188 :: c189 :: c190 :: c191 :: c192 :: c193 :: c194 :: c195 :: c196 :: c197 :: c198 :: c199 :: c200 :: c201 :: c202 :: c203 :: c204 :: c205 :: c206 :: c207 :: c208 :: c209 :: c210 :: c211 :: c212 :: c213 :: c214 :: c215 :: c216 :: c217 :: c218 :: c219 :: c220 :: c221 :: c222 :: c223 :: c224 :: c225 :: c226 :: c227 :: c228 :: c229 :: c230 :: c231 :: c232 :: c233 :: c234 :: c235 :: c236 :: c237 :: c238 :: c239 :: c240 :: c241 :: c242 :: c243 :: c244 :: c245 :: c246 :: c247 :: c248 :: c249 :: c250 :: c251 :: c252 :: c253 :: c254 :: c255 :: c256 :: c257 :: c258 :: c259 :: c260 :: c261 :: c262 :: c263 :: c264 :: c265 :: [] : List Value).toArray, []⟩ w := by
  have HK : Hid _ := hK
  clear hK
  conv => arg 2; whnf
  have Hkey := hid hkey
  have Hln := hid hln
  clear hkey hln
  have hiI : ((i : Nat) : Int) < (nh : Int) := by omega
  go_cut [13] from 55 to 72 (fun s13 wx => ∃ k q : Nat, s13 = .int .i64 (k : Nat) ∧ k ≤ ln ∧ (∀ j, j < k → key L j ≠ tx) ∧ (k = ln ∨ key L k = tx) ∧ wx = w.drewN q)
  case first =>
    go_wp2_with fail
    go_loopg [13] ln (fun gk s13 wr => ∃ k : Nat, gk = ln - k ∧ s13 = .int .i64 (k : Nat) ∧ k ≤ ln ∧ (∀ j, j < k → key L j ≠ tx) ∧ ∃ q, wr = w.drewN q)
    case atStart => exact ⟨0, rfl, rfl, Nat.zero_le _, fun j hj => absurd hj (by omega), 0, rfl⟩
    case round =>
      obtain ⟨k, rfl, rfl, hk, hall, hq⟩ := hrel
      have Hall := hid hall
      have Hq := hid hq
      have t2 : wr.cell? ⟨ba, off + i * 3 + 2, none⟩ = some (.int .i64 tx) := by obtain ⟨q, rfl⟩ := hq; exact htx
      by_cases hlt : k < ln
      · have c1 : wr.cell? ⟨g1, k, none⟩ = some (.int .i64 (key L k)) := by obtain ⟨q, rfl⟩ := hq; exact Hkey.out k (by rw [← Hln.out]; exact hlt)
        obtain ⟨kv, hkv⟩ : ∃ kv, kv = key L k := ⟨_, rfl⟩
        have Hkv := hid hkv
        rw [← hkv] at c1
        have hltI : ((k : Nat) : Int) < (ln : Int) := by omega
        clear hkv hall hq htx
        by_cases he : kv = tx
        · have hbq : (kv == tx) = true := by simp [he]
          have Hfin : Hid (key L k = tx) := by show key L k = tx; rw [← Hkv.out]; exact he
          clear he
          go_wp2_with fail
          go_quiet (fail)
          go_wp2
          go_meet
          case rel =>
            obtain ⟨q, hq⟩ := Hq.out
            exact ⟨k, _, rfl, by omega, Hall.out, .inr Hfin.out, by rw [hq]; exact drewN_drewN _ _ _⟩
        · have hbq : (kv == tx) = false := by simp [he]
          have Hall' : Hid (∀ j, j < k + 1 → key L j ≠ tx) := by
            intro j hj
            by_cases e : j = k
            · subst e; rw [← Hkv.out]; exact he
            · exact Hall.out j (by omega)
          clear he
          go_wp2_with fail
          go_quiet (fail)
          go_wp2
          go_roundg (ln - (k + 1))
          case measure => omega
          case rel =>
            obtain ⟨q, hq⟩ := Hq.out
            exact ⟨k + 1, rfl, by go_num, by omega, Hall'.out, _, by rw [hq]; exact drewN_drewN _ _ _⟩
      · have hltI : decide (((k : Nat) : Int) < (ln : Int)) = false := decide_eq_false (by omega)
        have Hend : Hid (k = ln) := by show k = ln; omega
        have hlt2 : decide (k < ln) = false := decide_eq_false hlt
        clear hall hq htx
        go_wp2_with fail
        go_quiet (fail)
        go_wp2
        go_meet
        case rel =>
          obtain ⟨q, hq⟩ := Hq.out
          exact ⟨k, _, rfl, hk, Hall.out, .inl Hend.out, by rw [hq]; exact drewN_drewN _ _ _⟩
  case rest =>
    obtain ⟨k, q, rfl, h1, h2, h3, rfl⟩ := hcut
    exact HK.out _ _ _ _ _ _ _ _ _ _ _ _ _ _ _ _ _ _ k q h1 h2 h3
end Go.Proofs.Qxb6612537a.U

import Derived.Test.Qxb6612537aGm2
import Derived.Test.Qxb6612537aGmT
namespace Go.Proofs.Qxb6612537a.U
open Go.RowKit Go.Proofs.Qxb6612537a.Plain
set_option linter.unusedVariables false
set_option linter.unusedSimpArgs false

theorem wrap_small {a : Int} (h1 : 0 ≤ a) (h2 : a ≤ 1000000) : IntKind.i64.wrap a = a := by
  simp [IntKind.wrap, IntKind.bits, IntKind.signed]; omega
set_option maxRecDepth 100000 in
set_option maxHeartbeats 8000000 in
theorem gm10 {w0 w : World} {WB nh ch ba off nw cw g4 c4' i ln qn : Nat} {ah : Option Addr} {name : ByteArray} {W : Nat → WRec} {Q0 : List Nat} {y0 : Nat} (K : Act → World → Prop) (Q : Exit → Act → World → Prop) (c4 c5 c6 c7 c8 c9 c10 c11 c12 c13 c14 c15 c16 c17 c18 c22 c23 c24 c25 c26 c27 c28 c29 c30 c31 c32 c33 c34 c35 c36 c37 c38 c39 c40 c41 c42 c43 c44 c45 c46 c47 c48 c49 c50 c51 c52 c53 c54 c55 c56 c57 c58 c59 c60 c61 c62 c63 c64 c65 c66 c67 c68 c69 c70 c71 c72 c73 c74 c75 c76 c77 c78 c79 c80 c81 c82 c83 c84 c85 c86 c87 c88 c89 c90 c91 c92 c93 c94 c95 c96 c97 c98 c99 c100 c101 c102 c103 c104 c105 c106 c107 c108 c109 c110 c111 c112 c113 c114 c115 c116 c117 c118 c119 c120 c121 c122 c123 c124 c125 c126 c127 c128 c129 c130 c131 c132 c133 c134 c135 c136 c137 c138 c139 c140 c141 c142 c143 c144 c145 c146 c147 c148 c149 c150 c151 c152 c153 c154 c155 c156 c157 c158 c159 c160 c161 c162 c163 c164 c165 c166 c167 c168 c169 c170 c171 c172 c173 c174 c175 c176 c177 c178 c179 c180 c181 c182 c183 c184 c185 c186 c187 c188 c189 c190 c191 c192 c193 c194 c195 c196 c197 c198 c199 c200 c201 c202 c203 c204 c205 c206 c207 c208 c209 c210 c211 c212 c213 c214 c215 c216 c217 c218 c219 c220 c221 c222 c223 c224 c225 c226 c227 c228 c229 c230 c231 c232 c233 c234 c235 c236 c237 c238 c239 c240 c241 c242 c243 c244 c245 c246 c247 c248 c249 c250 c251 c252 c253 c254 c255 c256 c257 c258 c259 c260 c261 c262 c263 c264 c265 : Value)
    (hi : i < nw) (hnw : nw ≤ 4096) (hqn : qn = Q0.length) (hln : ln = qn + 1) (hq9 : qn ≤ 4096) (hQ : QSt w0 g4 c4' (mid Q0 qn y0) w) (hod : ∀ x wr, x < nw → Below w0.heap.size w0 wr → wr.cell? ⟨ba, off + x * 5 + 2, none⟩ = some (.int .i64 (W x).od)) (hmem : ∀ x, x ∈ Q0 → x < nw)
    (hK : ∀ (u178 u179 u180 u181 u182 u183 u184 u185 u186 u187 u188 u189 u190 u191 u192 u193 u194 u195 u196 u197 u198 u199 u200 u201 u202 u203 u204 u205 u206 : Value) (j y : Nat) (w' : World), j ≤ qn → QSt w0 g4 c4' (mid Q0 j y) w' → (∀ t (ht : t < Q0.length), j ≤ t → (W i).od < (W Q0[t]).od) → (∀ (h0 : 0 < j) (h1 : j - 1 < Q0.length), ¬ (W i).od < (W Q0[j - 1]).od) → K ⟨(.pointer (some ⟨WB, 0, none⟩) :: .slice ah nh ch :: .slice (some ⟨ba, off, none⟩) nw cw :: .string name :: c4 :: c5 :: c6 :: c7 :: c8 :: c9 :: c10 :: c11 :: c12 :: c13 :: c14 :: c15 :: c16 :: c17 :: c18 :: .slice (some ⟨g4, 0, none⟩) ln c4' :: .int .i64 (i : Nat) :: .int .i64 (j : Nat) :: c22 :: c23 :: c24 :: c25 :: c26 :: c27 :: c28 :: c29 :: c30 :: c31 :: c32 :: c33 :: c34 :: c35 :: c36 :: c37 :: c38 :: c39 :: c40 :: c41 :: c42 :: c43 :: c44 :: c45 :: c46 :: c47 :: c48 :: c49 :: c50 :: c51 :: c52 :: c53 :: c54 :: c55 :: c56 :: c57 :: c58 :: c59 :: c60 :: c61 :: c62 :: c63 :: c64 :: c65 :: c66 :: c67 :: c68 :: c69 :: c70 :: c71 :: c72 :: c73 :: c74 :: c75 :: c76 :: c77 :: c78 :: c79 :: c80 :: c81 :: c82 :: c83 :: c84 :: c85 :: c86 :: c87 :: c88 :: c89 :: c90 :: c91 :: c92 :: c93 :: c94 :: c95 :: c96 :: c97 :: c98 :: c99 :: c100 :: c101 :: c102 :: c103 :: c104 :: c105 :: c106 :: c107 :: c108 :: c109 :: c110 :: c111 :: c112 :: c113 :: c114 :: c115 :: c116 :: c117 :: c118 :: c119 :: c120 :: c121 :: c122 :: c123 :: c124 :: c125 :: c126 :: c127 :: c128 :: c129 :: c130 :: c131 :: c132 :: c133 :: c134 :: c135 :: c136 :: c137 :: c138 :: c139 :: c140 :: c141 :: c142 :: c143 :: c144 :: c145 :: c146 :: c147 :: c148 :: c149 :: c150 :: c151 :: c152 :: c153 :: c154 :: c155 :: c156 :: c157 :: c158 :: c159 :: c160 :: c161 :: c162 :: c163 :: c164 :: c165 :: c166 :: c167 :: c168 :: c169 :: c170 :: c171 :: c172 :: c173 :: c174 :: c175 :: c176 :: c177 :: u178 :: u179 :: u180 :: u181 :: u182 :: u183 :: u184 :: u185 :: u186 :: u187 :: u188 :: u189 :: u190 :: u191 :: u192 :: u193 :: u194 :: u195 :: u196 :: u197 :: u198 :: u199 :: u200 :: u201 :: u202 :: u203 :: u204 :: u205 :: u206 :: c207 :: c208 :: c209 :: c210 :: c211 :: c212 :: c213 :: c214 :: c215 :: c216 :: c217 :: c218 :: c219 :: c220 :: c221 :: c222 :: c223 :: c224 :: c225 :: c226 :: c227 :: c228 :: c229 :: c230 :: c231 :: c232 :: c233 :: c234 :: c235 :: c236 :: c237 :: c238 :: c239 :: c240 :: c241 :: c242 :: c243 :: c244 :: c245 :: c246 :: c247 :: c248 :: c249 :: c250 :: c251 :: c252 :: c253 :: c254 :: c255 :: c256 :: c257 :: c258 :: c259 :: c260 :: c261 :: c262 :: c263 :: c264 :: c265 :: [] : List Value).toArray, []⟩ w') :
    Code.wp Try.prog ((Try.f13.body.bind (blockAt 10)).getD .skip) (Exit.then K (NoPanic Q)) ⟨(.pointer (some ⟨WB, 0, none⟩) :: .slice ah nh ch :: .slice (some ⟨ba, off, none⟩) nw cw :: .string name :: c4 :: c5 :: c6 :: c7 :: c8 :: c9 :: c10 :: c11 :: c12 :: c13 :: c14 :: c15 :: c16 :: c17 :: c18 :: .slice (some ⟨g4, 0, none⟩) ln c4' :: .int .i64 (i : Nat) :: .int .i64 (qn : Nat) :: c22 :: c23 :: c24 :: c25 :: c26 :: c27 :: c28 :: c29 :: c30 :: c31 :: c32 :: c33 :: c34 :: c35 :: c36 :: c37 :: c38 :: c39 :: c40 :: c41 :: c42 :: c43 :: c44 :: c45 :: c46 :: c47 :: c48 :: c49 :: c50 :: c51 :: c52 :: c53 :: c54 :: c55 :: c56 :: c57 :: c58 :: c59 :: c60 :: c61 :: c62 :: c63 :: c64 :: c65 :: c66 :: c67 :: c68 :: c69 :: c70 :: c71 :: c72 :: c73 :: c74 :: c75 :: c76 :: c77 :: c78 :: c79 :: c80 :: c81 :: c82 :: c83 :: c84 :: c85 :: c86 :: c87 :: c88 :: c89 :: c90 :: c91 :: c92 :: c93 :: c94 :: c95 :: c96 :: c97 :: c98 :: c99 :: c100 :: c101 :: c102 :: c103 :: c104 :: c105 :: c106 :: c107 :: c108 :: c109 :: c110 :: c111 :: c112 :: c113 :: c114 :: c115 :: c116 :: c117 :: c118 :: c119 :: c120 :: c121 :: c122 :: c123 :: c124 :: c125 :: c126 :: c127 :: c128 :: c129 :: c130 :: c131 :: c132 :: c133 :: c134 :: c135 :: c136 :: c137 :: c138 :: c139 :: c140 :: c141 :: c142 :: c143 :: c144 :: c145 :: c146 :: c147 :: c148 :: c149 :: c150 :: c151 :: c152 :: c153 :: c154 :: c155 :: c156 :: c157 :: c158 :: c159 :: c160 :: c161 :: c162 :: c163 :: c164 :: c165 :: c166 :: c167 :: c168 :: c169 :: c170 :: c171 :: c172 :: c173 :: c174 :: c175 :: c176 :: c177 :: c178 :: c179 :: c180 :: c181 :: c182 :: c183 :: c184 :: c185 :: c186 :: c187 :: c188 :: c189 :: c190 :: c191 :: c192 :: c193 :: c194 :: c195 :: c196 :: c197 :: c198 :: c199 :: c200 :: c201 :: c202 :: c203 :: c204 :: c205 :: c206 :: c207 :: c208 :: c209 :: c210 :: c211 :: c212 :: c213 :: c214 :: c215 :: c216 :: c217 :: c218 :: c219 :: c220 :: c221 :: c222 :: c223 :: c224 :: c225 :: c226 :: c227 :: c228 :: c229 :: c230 :: c231 :: c232 :: c233 :: c234 :: c235 :: c236 :: c237 :: c238 :: c239 :: c240 :: c241 :: c242 :: c243 :: c244 :: c245 :: c246 :: c247 :: c248 :: c249 :: c250 :: c251 :: c252 :: c253 :: c254 :: c255 :: c256 :: c257 :: c258 :: c259 :: c260 :: c261 :: c262 :: c263 :: c264 :: c265 :: [] : List Value).toArray, []⟩ w := by
  have HK : Hid _ := hK
  clear hK
  conv => arg 2; whnf
  have HQ0 := hid hQ
  have Hod := hid hod
  have Hmem := hid hmem
  have Hqn := hid hqn
  have Hln := hid hln
  have hln9 : ln ≤ 4097 := by omega
  have hlq : qn < ln := by omega
  have hiI : ((i : Nat) : Int) < (nw : Int) := by omega
  clear hQ hod hmem hqn hln
  go_cut [21] from 178 to 206 (fun s21 wx => ∃ j y : Nat, s21 = .int .i64 (j : Nat) ∧ j ≤ qn ∧ QSt w0 g4 c4' (mid Q0 j y) wx ∧ (∀ t (ht : t < Q0.length), j ≤ t → (W i).od < (W Q0[t]).od) ∧ (∀ (h0 : 0 < j) (h1 : j - 1 < Q0.length), ¬ (W i).od < (W Q0[j - 1]).od))
  case first =>
    go_wp2_with fail
    go_loopg [21] qn (fun gk s21 wr => ∃ j y : Nat, gk = j ∧ s21 = .int .i64 (j : Nat) ∧ j ≤ qn ∧ QSt w0 g4 c4' (mid Q0 j y) wr ∧ (∀ t (ht : t < Q0.length), j ≤ t → (W i).od < (W Q0[t]).od))
    case atStart => exact ⟨qn, y0, rfl, rfl, Nat.le_refl _, HQ0.out, fun t ht h => absurd ht (by rw [← Hqn.out]; omega)⟩
    case round =>
      clear HQ0
      obtain ⟨j, y, hgk, rfl, hj, hQ, hall⟩ := hrel
      have Hgk := hid hgk
      clear hgk
      have HQ := hid hQ
      have Hall := hid hall
      clear hQ hall
      by_cases h0 : j = 0
      · subst h0
        have hd0 : decide ((0 : Nat) < 0) = false := by decide
        go_wp2_with fail
        go_quiet (fail)
        go_wp2
        go_meet
        case rel => exact ⟨0, y, rfl, hj, HQ.out.keeps0 ((Keeps.refl _ wr).drewN _), Hall.out, fun h0 => absurd h0 (by omega)⟩
      · obtain ⟨j0, hj0⟩ : ∃ j0, j = j0 + 1 := ⟨j - 1, by omega⟩
        have Hj0 := hid hj0
        have hjq : j0 < Q0.length := by rw [← Hqn.out]; omega
        obtain ⟨x, hx⟩ : ∃ x, x = Q0[j0] := ⟨_, rfl⟩
        have hxn : x < nw := by rw [hx]; exact Hmem.out _ (List.getElem_mem _)
        have hml := mid_len Q0 j y
        have cx : wr.cell? ⟨g4, j0, none⟩ = some (.int .i64 ((x : Nat) : Int)) := by
          rw [HQ.out.c (by rw [hml]; omega), List.getD_eq_getElem?_getD, mid_lt Q0 j y j0 (by omega) (by rw [← Hqn.out]; exact hj), Option.getD_some, hx]
        have cj : wr.cell? ⟨g4, j, none⟩ = some (.int .i64 (((mid Q0 j y).getD j 0 : Nat) : Int)) := HQ.out.c (by rw [hml, ← Hqn.out]; omega)
        have fz : wr.frozen? ⟨g4, j, none⟩ = false := own_frozen HQ.out.o j
        have e1 := Hod.out x wr hxn HQ.out.bl
        have e2 := Hod.out i wr hi HQ.out.bl
        obtain ⟨ox, hox⟩ : ∃ ox, ox = (W x).od := ⟨_, rfl⟩
        obtain ⟨oi, hoi⟩ : ∃ oi, oi = (W i).od := ⟨_, rfl⟩
        rw [← hox] at e1
        rw [← hoi] at e2
        have Hox := hid hox
        have Hoi := hid hoi
        have Hx := hid hx
        have hsub : ((j : Nat) : Int) - 1 = (j0 : Int) := by omega
        have hsubw : IntKind.i64.wrap (((j : Nat) : Int) - 1) = (j0 : Int) := by rw [hsub]; exact wrap_small (by omega) (by omega)
        have hpos : (0 : Int) < ((j : Nat) : Int) := by omega
        have hpos2 : decide (0 < j) = true := decide_eq_true (by omega)
        have hxI : ((x : Nat) : Int) < (nw : Int) := by omega
        have hj0I : ((j0 : Nat) : Int) < (ln : Int) := by omega
        have hjI : ((j : Nat) : Int) < (ln : Int) := by omega
        generalize (((mid Q0 j y).getD j 0 : Nat) : Int) = yv at cj
        clear hox hoi hx hml hj0
        by_cases hgt : oi < ox
        · have HQ' : Hid (∀ q, QSt w0 g4 c4' (mid Q0 j0 x) ((wr.drewN q).setCell ⟨g4, j, none⟩ (.int .i64 (x : Nat)))) := fun q => by
            have h := (HQ.out.keeps0 ((Keeps.refl _ wr).drewN q)).set j x
            have e : (mid Q0 j y).set j x = mid Q0 j0 x := by
              have h2 := mid_down Q0 j0 y hjq
              rw [Hj0.out, Hx.out]; exact h2
            rw [e] at h; exact h
          have Hall' : Hid (∀ t (ht : t < Q0.length), j0 ≤ t → (W i).od < (W Q0[t]).od) := fun t ht htj => by
            by_cases e : t = j0
            · subst e
              rw [← Hx.out, ← Hox.out, ← Hoi.out]; exact hgt
            · exact Hall.out t ht (by have := Hj0.out; omega)
          have HdQ : Hid (∀ q, (wr.drewN q).cell? ⟨g4, j0, none⟩ = some (.int .i64 ((x : Nat) : Int)) ∧ (wr.drewN q).cell? ⟨g4, j, none⟩ = some (.int .i64 yv) ∧ (wr.drewN q).frozen? ⟨g4, j, none⟩ = false) := fun q => ⟨cx, cj, fz⟩
          go_wp2_with fail
          go_quiet (fail)
          obtain ⟨d1, d2, d3⟩ := HdQ.out nq
          have HQ2 := hid (HQ'.out nq)
          clear HQ' HdQ cx cj fz e1 e2
          generalize wr.drewN nq = wd at *
          go_wp2_with fail
          go_roundg j0
          case measure => have := Hj0.out; have := Hgk.out; omega
          case rel => exact ⟨j0, x, rfl, by go_num, by have := Hj0.out; omega, HQ2.out, Hall'.out⟩
        · have hgt2 : decide (oi < ox) = false := decide_eq_false hgt
          go_wp2_with fail
          go_quiet (fail)
          go_wp2
          go_meet
          case rel =>
            refine ⟨j, y, rfl, hj, HQ.out.keeps0 ((Keeps.refl _ wr).drewN _), Hall.out, fun h0 h1 => ?_⟩
            have e : Q0[j - 1] = x := by
              rw [Hx.out]
              congr 1
              have := Hj0.out; omega
            rw [e, ← Hox.out, ← Hoi.out]; exact hgt
  case rest =>
    obtain ⟨j, y, rfl, h1, h2, h3, h4⟩ := hcut
    exact HK.out _ _ _ _ _ _ _ _ _ _ _ _ _ _ _ _ _ _ _ _ _ _ _ _ _ _ _ _ _ j y _ h1 h2 h3 h4
end Go.Proofs.Qxb6612537a.U

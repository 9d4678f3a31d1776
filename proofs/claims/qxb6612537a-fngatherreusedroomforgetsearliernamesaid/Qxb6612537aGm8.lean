import Derived.Test.Qxb6612537aGm10
import Derived.Test.Qxb6612537aRel
import Derived.Test.Qxb6612537aWithin
namespace Go.Proofs.Qxb6612537a.U
open Go.RowKit Go.Proofs.Qxb6612537a.Plain
set_option linter.unusedVariables false
set_option linter.unusedSimpArgs false

set_option maxRecDepth 100000 in
set_option maxHeartbeats 8000000 in
theorem gm8 {w0 w : World} {WB nh ch nw cw g4 c4' : Nat} {ah aw : Option Addr} {name : ByteArray} {W : Nat → WRec} (K : Act → World → Prop) (Q : Exit → Act → World → Prop) (c4 c5 c6 c7 c8 c9 c10 c11 c12 c13 c14 c15 c16 c17 c18 c21 c22 c23 c24 c25 c26 c27 c28 c29 c30 c31 c32 c33 c34 c35 c36 c37 c38 c39 c40 c41 c42 c43 c44 c45 c46 c47 c48 c49 c50 c51 c52 c53 c54 c55 c56 c57 c58 c59 c60 c61 c62 c63 c64 c65 c66 c67 c68 c69 c70 c71 c72 c73 c74 c75 c76 c77 c78 c79 c80 c81 c82 c83 c84 c85 c86 c87 c88 c89 c90 c91 c92 c93 c94 c95 c96 c97 c98 c99 c100 c101 c102 c103 c104 c105 c106 c107 c108 c109 c110 c111 c112 c113 c114 c115 c116 c117 c118 c119 c120 c121 c122 c123 c124 c125 c126 c127 c128 c129 c130 c131 c132 c133 c134 c135 c136 c137 c138 c139 c140 c141 c142 c143 c144 c145 c146 c147 c148 c149 c150 c151 c152 c153 c154 c155 c156 c157 c158 c159 c160 c161 c162 c163 c164 c165 c166 c167 c168 c169 c170 c171 c172 c173 c174 c175 c176 c177 c178 c179 c180 c181 c182 c183 c184 c185 c186 c187 c188 c189 c190 c191 c192 c193 c194 c195 c196 c197 c198 c199 c200 c201 c202 c203 c204 c205 c206 c207 c208 c209 c210 c211 c212 c213 c214 c215 c216 c217 c218 c219 c220 c221 c222 c223 c224 c225 c226 c227 c228 c229 c230 c231 c232 c233 c234 c235 c236 c237 c238 c239 c240 c241 c242 c243 c244 c245 c246 c247 c248 c249 c250 c251 c252 c253 c254 c255 c256 c257 c258 c259 c260 c261 c262 c263 c264 c265 : Value)
    (hin : In w0 aw 5 nw fun i => wc (W i)) (hR : WSmall W nw) (hn : nw ≤ 4096) (hname : name.size ≤ 1048576) (hod : ∀ a b, a < nw → b < nw → (W a).od = (W b).od → a = b) (hQ : QSt w0 g4 c4' [] w)
    (hK : ∀ (u20 u21 u157 u158 u159 u160 u161 u162 u163 u164 u165 u166 u167 u168 u169 u170 u171 u172 u173 u174 u175 u176 u177 u178 u179 u180 u181 u182 u183 u184 u185 u186 u187 u188 u189 u190 u191 u192 u193 u194 u195 u196 u197 u198 u199 u200 u201 u202 u203 u204 u205 u206 u207 u208 u209 u210 : Value) (g4' c4'' : Nat) (Q0 : List Nat) (w' : World), QOk W (fun x => Rel x (By name)) nw Q0 → QSt w0 g4' c4'' Q0 w' → K ⟨(.pointer (some ⟨WB, 0, none⟩) :: .slice ah nh ch :: .slice aw nw cw :: .string name :: c4 :: c5 :: c6 :: c7 :: c8 :: c9 :: c10 :: c11 :: c12 :: c13 :: c14 :: c15 :: c16 :: c17 :: c18 :: .slice (some ⟨g4', 0, none⟩) Q0.length c4'' :: u20 :: u21 :: c22 :: c23 :: c24 :: c25 :: c26 :: c27 :: c28 :: c29 :: c30 :: c31 :: c32 :: c33 :: c34 :: c35 :: c36 :: c37 :: c38 :: c39 :: c40 :: c41 :: c42 :: c43 :: c44 :: c45 :: c46 :: c47 :: c48 :: c49 :: c50 :: c51 :: c52 :: c53 :: c54 :: c55 :: c56 :: c57 :: c58 :: c59 :: c60 :: c61 :: c62 :: c63 :: c64 :: c65 :: c66 :: c67 :: c68 :: c69 :: c70 :: c71 :: c72 :: c73 :: c74 :: c75 :: c76 :: c77 :: c78 :: c79 :: c80 :: c81 :: c82 :: c83 :: c84 :: c85 :: c86 :: c87 :: c88 :: c89 :: c90 :: c91 :: c92 :: c93 :: c94 :: c95 :: c96 :: c97 :: c98 :: c99 :: c100 :: c101 :: c102 :: c103 :: c104 :: c105 :: c106 :: c107 :: c108 :: c109 :: c110 :: c111 :: c112 :: c113 :: c114 :: c115 :: c116 :: c117 :: c118 :: c119 :: c120 :: c121 :: c122 :: c123 :: c124 :: c125 :: c126 :: c127 :: c128 :: c129 :: c130 :: c131 :: c132 :: c133 :: c134 :: c135 :: c136 :: c137 :: c138 :: c139 :: c140 :: c141 :: c142 :: c143 :: c144 :: c145 :: c146 :: c147 :: c148 :: c149 :: c150 :: c151 :: c152 :: c153 :: c154 :: c155 :: c156 :: u157 :: u158 :: u159 :: u160 :: u161 :: u162 :: u163 :: u164 :: u165 :: u166 :: u167 :: u168 :: u169 :: u170 :: u171 :: u172 :: u173 :: u174 :: u175 :: u176 :: u177 :: u178 :: u179 :: u180 :: u181 :: u182 :: u183 :: u184 :: u185 :: u186 :: u187 :: u188 :: u189 :: u190 :: u191 :: u192 :: u193 :: u194 :: u195 :: u196 :: u197 :: u198 :: u199 :: u200 :: u201 :: u202 :: u203 :: u204 :: u205 :: u206 :: u207 :: u208 :: u209 :: u210 :: c211 :: c212 :: c213 :: c214 :: c215 :: c216 :: c217 :: c218 :: c219 :: c220 :: c221 :: c222 :: c223 :: c224 :: c225 :: c226 :: c227 :: c228 :: c229 :: c230 :: c231 :: c232 :: c233 :: c234 :: c235 :: c236 :: c237 :: c238 :: c239 :: c240 :: c241 :: c242 :: c243 :: c244 :: c245 :: c246 :: c247 :: c248 :: c249 :: c250 :: c251 :: c252 :: c253 :: c254 :: c255 :: c256 :: c257 :: c258 :: c259 :: c260 :: c261 :: c262 :: c263 :: c264 :: c265 :: [] : List Value).toArray, []⟩ w') :
    Code.wp Try.prog ((Try.f13.body.bind (blockAt 8)).getD .skip) (Exit.then K (NoPanic Q)) ⟨(.pointer (some ⟨WB, 0, none⟩) :: .slice ah nh ch :: .slice aw nw cw :: .string name :: c4 :: c5 :: c6 :: c7 :: c8 :: c9 :: c10 :: c11 :: c12 :: c13 :: c14 :: c15 :: c16 :: c17 :: c18 :: .slice (some ⟨g4, 0, none⟩) 0 c4' :: .int .i64 0 :: c21 :: c22 :: c23 :: c24 :: c25 :: c26 :: c27 :: c28 :: c29 :: c30 :: c31 :: c32 :: c33 :: c34 :: c35 :: c36 :: c37 :: c38 :: c39 :: c40 :: c41 :: c42 :: c43 :: c44 :: c45 :: c46 :: c47 :: c48 :: c49 :: c50 :: c51 :: c52 :: c53 :: c54 :: c55 :: c56 :: c57 :: c58 :: c59 :: c60 :: c61 :: c62 :: c63 :: c64 :: c65 :: c66 :: c67 :: c68 :: c69 :: c70 :: c71 :: c72 :: c73 :: c74 :: c75 :: c76 :: c77 :: c78 :: c79 :: c80 :: c81 :: c82 :: c83 :: c84 :: c85 :: c86 :: c87 :: c88 :: c89 :: c90 :: c91 :: c92 :: c93 :: c94 :: c95 :: c96 :: c97 :: c98 :: c99 :: c100 :: c101 :: c102 :: c103 :: c104 :: c105 :: c106 :: c107 :: c108 :: c109 :: c110 :: c111 :: c112 :: c113 :: c114 :: c115 :: c116 :: c117 :: c118 :: c119 :: c120 :: c121 :: c122 :: c123 :: c124 :: c125 :: c126 :: c127 :: c128 :: c129 :: c130 :: c131 :: c132 :: c133 :: c134 :: c135 :: c136 :: c137 :: c138 :: c139 :: c140 :: c141 :: c142 :: c143 :: c144 :: c145 :: c146 :: c147 :: c148 :: c149 :: c150 :: c151 :: c152 :: c153 :: c154 :: c155 :: c156 :: c157 :: c158 :: c159 :: c160 :: c161 :: c162 :: c163 :: c164 :: c165 :: c166 :: c167 :: c168 :: c169 :: c170 :: c171 :: c172 :: c173 :: c174 :: c175 :: c176 :: c177 :: c178 :: c179 :: c180 :: c181 :: c182 :: c183 :: c184 :: c185 :: c186 :: c187 :: c188 :: c189 :: c190 :: c191 :: c192 :: c193 :: c194 :: c195 :: c196 :: c197 :: c198 :: c199 :: c200 :: c201 :: c202 :: c203 :: c204 :: c205 :: c206 :: c207 :: c208 :: c209 :: c210 :: c211 :: c212 :: c213 :: c214 :: c215 :: c216 :: c217 :: c218 :: c219 :: c220 :: c221 :: c222 :: c223 :: c224 :: c225 :: c226 :: c227 :: c228 :: c229 :: c230 :: c231 :: c232 :: c233 :: c234 :: c235 :: c236 :: c237 :: c238 :: c239 :: c240 :: c241 :: c242 :: c243 :: c244 :: c245 :: c246 :: c247 :: c248 :: c249 :: c250 :: c251 :: c252 :: c253 :: c254 :: c255 :: c256 :: c257 :: c258 :: c259 :: c260 :: c261 :: c262 :: c263 :: c264 :: c265 :: [] : List Value).toArray, []⟩ w := by
  have HK : Hid _ := hK
  clear hK
  conv => arg 2; whnf
  have HQ0 := hid hQ
  have Hin := hid hin
  have HRs := hid hR
  have Hod := hid hod
  clear hQ hin hR hod
  obtain ⟨i3, hi3, hz0, hz1, hz2⟩ := info_parts info3
  go_cut [19] from 157 to 210 (fun s19 wx => ∃ (g4 c4' : Nat) (Q0 : List Nat), s19 = .slice (some ⟨g4, 0, none⟩) Q0.length c4' ∧ QOk W (fun x => Rel x (By name)) nw Q0 ∧ QSt w0 g4 c4' Q0 wx)
  case first =>
    go_wp2_with fail
    go_loopg [19, 20, 21] nw (fun gk s19 s20 s21 wr => ∃ (i g4 c4' : Nat) (Q0 : List Nat), gk = nw - i ∧ i ≤ nw ∧ s19 = .slice (some ⟨g4, 0, none⟩) Q0.length c4' ∧ s20 = .int .i64 (i : Nat) ∧ QOk W (fun x => Rel x (By name)) i Q0 ∧ QSt w0 g4 c4' Q0 wr)
    case atStart => exact ⟨0, g4, c4', [], rfl, Nat.zero_le _, rfl, rfl, QOk.zero _ _, HQ0.out⟩
    case round =>
      clear HQ0
      obtain ⟨i, g4, c4', Q0, rfl, hi, rfl, rfl, hA, hM⟩ := hrel
      have HA := hid hA
      have HM := hid hM
      have hlen := hA.len
      obtain ⟨qn, hqn⟩ : ∃ qn, qn = Q0.length := ⟨_, rfl⟩
      have Hqn := hid hqn
      have hqn9 : qn ≤ i := by rw [hqn]; exact hlen
      rw [← hqn]
      clear hA hM hlen hqn
      by_cases hlt : i < nw
      · have hltI : ((i : Nat) : Int) < (nw : Int) := by omega
        obtain ⟨ba, off, rfl, hba, hcs⟩ := Hin.out (by omega)
        have k0 : wr.cell? ⟨ba, off + i * 5, none⟩ = some (.string (W i).nm) := hcs.below HM.out.bl hba i hlt 0 (by omega)
        have C25 := related_any (W i).nm name wr (HRs.out i hlt) hname
        have Hkc : Hid (∀ x wr, x < nw → Below w0.heap.size w0 wr → wr.cell? ⟨ba, off + x * 5 + 2, none⟩ = some (.int .i64 (W x).od)) := fun x wr hx hb => hcs.below hb hba x hx 2 (by omega)
        clear hcs
        by_cases hp : Rel (By (W i).nm) (By name)
        · rw [relB_true hp] at C25
          have Hp := hid hp
          have o1 := HM.out.o
          rw [← Hqn.out] at o1
          have hb0 := HM.out.bl.size
          clear hp
          go_upto_region 35 with (first | (go_at_call 25; refine C25.mono ?_; rintro e w2 ⟨rfl, hw2⟩; have hw2' := hw2.symm; clear hw2; subst hw2') | (at_builtin; refine wpList_append_lies _ (by rfl) _ _ 36 (by rfl) w0.heap.size 3 i3 _ 1 8 Try.underlying36 hi3 hz0 hz1 hz2 rfl (by omega) _ qn (sels Q0) (by rfl) (o1.alloc _) ⟨wr.heap.size, 0, none⟩ 1 1 [.int .i64 (i : Nat)] (by rfl) (by rfl) (World.news_of_block (cs := #[.int .i64 (i : Nat)]) (t := 3) (fr := (0, 0)) (heap_alloc_new wr _)) (by simp [Value.oneCell']) (by omega) (by simp [maxLen]; omega) (by omega) (by simp; omega) (wr.heap.size + 1) (by simp) ?_; intro gg cap w3 hown1 hgrow1 hat1 hlt1))
          rw [Hqn.out] at hown1
          have HQ3 : Hid (QSt w0 gg cap (mid Q0 qn i) w3) := by
            show QSt _ _ _ _ _
            rw [Hqn.out, mid_end]
            exact HM.out.push ((Keeps.refl _ wr).alloc _) hown1 hgrow1
          have hsub : ((qn + 1 : Nat) : Int) - 1 = (qn : Int) := by omega
          clear hown1 hgrow1 hat1 hlt1 o1 k0 C25
          obtain ⟨ln, hln⟩ : ∃ ln, ln = qn + 1 := ⟨_, rfl⟩
          have Hln := hid hln
          rw [← hln] at hsub ⊢
          have hln9 : ln ≤ 4097 := by omega
          clear hln
          go_upto_block 10 with fail
          refine Code.wp_mono then_imp (gm10 (W := W) _ _ _ _ _ _ _ _ _ _ _ _ _ _ _ _ _ _ _ _ _ _ _ _ _ _ _ _ _ _ _ _ _ _ _ _ _ _ _ _ _ _ _ _ _ _ _ _ _ _ _ _ _ _ _ _ _ _ _ _ _ _ _ _ _ _ _ _ _ _ _ _ _ _ _ _ _ _ _ _ _ _ _ _ _ _ _ _ _ _ _ _ _ _ _ _ _ _ _ _ _ _ _ _ _ _ _ _ _ _ _ _ _ _ _ _ _ _ _ _ _ _ _ _ _ _ _ _ _ _ _ _ _ _ _ _ _ _ _ _ _ _ _ _ _ _ _ _ _ _ _ _ _ _ _ _ _ _ _ _ _ _ _ _ _ _ _ _ _ _ _ _ _ _ _ _ _ _ _ _ _ _ _ _ _ _ _ _ _ _ _ _ _ _ _ _ _ _ _ _ _ _ _ _ _ _ _ _ _ _ _ _ _ _ _ _ _ _ _ _ _ _ _ _ _ _ _ _ _ _ _ _ _ _ _ _ _ _ _ _ _ _ _ _ _ _ _ _ _ _ _ _ _ _ _ _ _ _ _ _ _ hlt hn Hqn.out Hln.out (by omega) HQ3.out Hkc.out (fun x hx => by have := ((HA.out.mem x).1 hx).1; omega) ?_)
          intro v178 v179 v180 v181 v182 v183 v184 v185 v186 v187 v188 v189 v190 v191 v192 v193 v194 v195 v196 v197 v198 v199 v200 v201 v202 v203 v204 v205 v206 j y w4 hj hQ4 hall hex
          have hml := mid_len Q0 j y
          have cj : w4.cell? ⟨gg, j, none⟩ = some (.int .i64 (((mid Q0 j y).getD j 0 : Nat) : Int)) := hQ4.c (by rw [hml, ← Hqn.out]; omega)
          have fz : w4.frozen? ⟨gg, j, none⟩ = false := own_frozen hQ4.o j
          have hjI : ((j : Nat) : Int) < (ln : Int) := by have := Hln.out; omega
          have HA' : Hid (QOk W (fun x => Rel x (By name)) (i + 1) (mid Q0 j i)) := HA.out.put Hp.out hlt Hod.out (by rw [← Hqn.out]; exact hj) (fun t ht hjt => hall t ht hjt) (fun h0 => hex h0 (by rw [← Hqn.out]; omega))
          have HQ5 : Hid (QSt w0 gg cap (mid Q0 j i) (w4.setCell ⟨gg, j, none⟩ (.int .i64 (i : Nat)))) := by
            have h := hQ4.set j i
            rw [mid_set Q0 j y i (by rw [← Hqn.out]; exact hj)] at h
            exact h
          have Hlen : Hid ((mid Q0 j i).length = ln) := by show _ = _; rw [mid_len, Hln.out, Hqn.out]
          generalize (((mid Q0 j y).getD j 0 : Nat) : Int) = yv at cj
          clear hall hex hQ4 hml hsub HM HQ3 HA
          go_wp2_with fail
          go_roundg (nw - (i + 1))
          case measure => omega
          case rel => exact ⟨i + 1, gg, cap, _, rfl, by omega, by rw [Hlen.out], by go_num, HA'.out, HQ5.out⟩
        · rw [relB_false hp] at C25
          have HA' : Hid (QOk W (fun x => Rel x (By name)) (i + 1) Q0) := HA.out.skip hp
          clear hp
          go_wp2_with (go_at_call 25; refine C25.mono ?_; rintro e w2 ⟨rfl, rfl⟩)
          go_roundg (nw - (i + 1))
          case measure => omega
          case rel => exact ⟨i + 1, g4, c4', Q0, rfl, by omega, by rw [Hqn.out], by go_num, HA'.out, HM.out⟩
      · have e : i = nw := by omega
        go_wp2
        go_meet
        case rel => exact ⟨g4, c4', Q0, by rw [Hqn.out], by rw [← e]; exact HA.out, HM.out⟩
  case rest =>
    obtain ⟨g4', c4'', Q0, rfl, hA, hM⟩ := hcut
    exact HK.out _ _ _ _ _ _ _ _ _ _ _ _ _ _ _ _ _ _ _ _ _ _ _ _ _ _ _ _ _ _ _ _ _ _ _ _ _ _ _ _ _ _ _ _ _ _ _ _ _ _ _ _ _ _ _ _ g4' c4'' Q0 _ hA hM
end Go.Proofs.Qxb6612537a.U

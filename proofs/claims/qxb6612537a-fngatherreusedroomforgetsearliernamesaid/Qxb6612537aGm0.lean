import Derived.Test.Qxb6612537aGm2
import Derived.Test.Qxb6612537aPremise
namespace Go.Proofs.Qxb6612537a.U
open Go.RowKit Go.Proofs.Qxb6612537a.Plain
set_option linter.unusedVariables false
set_option linter.unusedSimpArgs false

set_option maxRecDepth 100000 in
set_option maxHeartbeats 8000000 in
theorem gm0 {w0 w : World} {WB nh ch nw cw g1 c1 g2 c2 : Nat} {ah aw : Option Addr} {name : ByteArray} {R : Nat → HRec} (K : Act → World → Prop) (Q : Exit → Act → World → Prop) (c4 c5 c6 c7 c8 c12 c13 c14 c15 c16 c17 c18 c19 c20 c21 c22 c23 c24 c25 c26 c27 c28 c29 c30 c31 c32 c33 c34 c35 c36 c37 c38 c39 c40 c41 c42 c43 c44 c45 c46 c47 c48 c49 c50 c51 c52 c53 c54 c55 c56 c57 c58 c59 c60 c61 c62 c63 c64 c65 c66 c67 c68 c69 c70 c71 c72 c73 c74 c75 c76 c77 c78 c79 c80 c81 c82 c83 c84 c85 c86 c87 c88 c89 c90 c91 c92 c93 c94 c95 c96 c97 c98 c99 c100 c101 c102 c103 c104 c105 c106 c107 c108 c109 c110 c111 c112 c113 c114 c115 c116 c117 c118 c119 c120 c121 c122 c123 c124 c125 c126 c127 c128 c129 c130 c131 c132 c133 c134 c135 c136 c137 c138 c139 c140 c141 c142 c143 c144 c145 c146 c147 c148 c149 c150 c151 c152 c153 c154 c155 c156 c157 c158 c159 c160 c161 c162 c163 c164 c165 c166 c167 c168 c169 c170 c171 c172 c173 c174 c175 c176 c177 c178 c179 c180 c181 c182 c183 c184 c185 c186 c187 c188 c189 c190 c191 c192 c193 c194 c195 c196 c197 c198 c199 c200 c201 c202 c203 c204 c205 c206 c207 c208 c209 c210 c211 c212 c213 c214 c215 c216 c217 c218 c219 c220 c221 c222 c223 c224 c225 c226 c227 c228 c229 c230 c231 c232 c233 c234 c235 c236 c237 c238 c239 c240 c241 c242 c243 c244 c245 c246 c247 c248 c249 c250 c251 c252 c253 c254 c255 c256 c257 c258 c259 c260 c261 c262 c263 c264 c265 : Value)
    (hin : In w0 ah 3 nh fun i => hc (R i)) (hR : HSmall R nh) (hn : nh ≤ 4096) (hname : name.size ≤ 1048576) (hM : MSt w0 g1 c1 g2 c2 [] w)
    (hK : ∀ (u11 u12 u13 u35 u36 u37 u38 u39 u40 u41 u42 u43 u44 u45 u46 u47 u48 u49 u50 u51 u52 u53 u54 u55 u56 u57 u58 u59 u60 u61 u62 u63 u64 u65 u66 u67 u68 u69 u70 u71 u72 u73 u74 u75 u76 u77 u78 u79 u80 u81 u82 u83 u84 u85 u86 u87 u88 u89 u90 u91 u92 u93 u94 u95 u96 u97 u98 : Value) (g1' c1' g2' c2' : Nat) (L : AL) (w' : World), AOk R (fun x => Rel x (By name)) nh L → MSt w0 g1' c1' g2' c2' L w' → K ⟨(.pointer (some ⟨WB, 0, none⟩) :: .slice ah nh ch :: .slice aw nw cw :: .string name :: c4 :: c5 :: c6 :: c7 :: c8 :: .slice (some ⟨g1', 0, none⟩) L.length c1' :: .slice (some ⟨g2', 0, none⟩) L.length c2' :: u11 :: u12 :: u13 :: c14 :: c15 :: c16 :: c17 :: c18 :: c19 :: c20 :: c21 :: c22 :: c23 :: c24 :: c25 :: c26 :: c27 :: c28 :: c29 :: c30 :: c31 :: c32 :: c33 :: c34 :: u35 :: u36 :: u37 :: u38 :: u39 :: u40 :: u41 :: u42 :: u43 :: u44 :: u45 :: u46 :: u47 :: u48 :: u49 :: u50 :: u51 :: u52 :: u53 :: u54 :: u55 :: u56 :: u57 :: u58 :: u59 :: u60 :: u61 :: u62 :: u63 :: u64 :: u65 :: u66 :: u67 :: u68 :: u69 :: u70 :: u71 :: u72 :: u73 :: u74 :: u75 :: u76 :: u77 :: u78 :: u79 :: u80 :: u81 :: u82 :: u83 :: u84 :: u85 :: u86 :: u87 :: u88 :: u89 :: u90 :: u91 :: u92 :: u93 :: u94 :: u95 :: u96 :: u97 :: u98 :: c99 :: c100 :: c101 :: c102 :: c103 :: c104 :: c105 :: c106 :: c107 :: c108 :: c109 :: c110 :: c111 :: c112 :: c113 :: c114 :: c115 :: c116 :: c117 :: c118 :: c119 :: c120 :: c121 :: c122 :: c123 :: c124 :: c125 :: c126 :: c127 :: c128 :: c129 :: c130 :: c131 :: c132 :: c133 :: c134 :: c135 :: c136 :: c137 :: c138 :: c139 :: c140 :: c141 :: c142 :: c143 :: c144 :: c145 :: c146 :: c147 :: c148 :: c149 :: c150 :: c151 :: c152 :: c153 :: c154 :: c155 :: c156 :: c157 :: c158 :: c159 :: c160 :: c161 :: c162 :: c163 :: c164 :: c165 :: c166 :: c167 :: c168 :: c169 :: c170 :: c171 :: c172 :: c173 :: c174 :: c175 :: c176 :: c177 :: c178 :: c179 :: c180 :: c181 :: c182 :: c183 :: c184 :: c185 :: c186 :: c187 :: c188 :: c189 :: c190 :: c191 :: c192 :: c193 :: c194 :: c195 :: c196 :: c197 :: c198 :: c199 :: c200 :: c201 :: c202 :: c203 :: c204 :: c205 :: c206 :: c207 :: c208 :: c209 :: c210 :: c211 :: c212 :: c213 :: c214 :: c215 :: c216 :: c217 :: c218 :: c219 :: c220 :: c221 :: c222 :: c223 :: c224 :: c225 :: c226 :: c227 :: c228 :: c229 :: c230 :: c231 :: c232 :: c233 :: c234 :: c235 :: c236 :: c237 :: c238 :: c239 :: c240 :: c241 :: c242 :: c243 :: c244 :: c245 :: c246 :: c247 :: c248 :: c249 :: c250 :: c251 :: c252 :: c253 :: c254 :: c255 :: c256 :: c257 :: c258 :: c259 :: c260 :: c261 :: c262 :: c263 :: c264 :: c265 :: [] : List Value).toArray, []⟩ w') :
    Code.wp Try.prog ((Try.f13.body.bind (blockAt 0)).getD .skip) (Exit.then K (NoPanic Q)) ⟨(.pointer (some ⟨WB, 0, none⟩) :: .slice ah nh ch :: .slice aw nw cw :: .string name :: c4 :: c5 :: c6 :: c7 :: c8 :: .slice (some ⟨g1, 0, none⟩) 0 c1 :: .slice (some ⟨g2, 0, none⟩) 0 c2 :: .int .i64 0 :: c12 :: c13 :: c14 :: c15 :: c16 :: c17 :: c18 :: c19 :: c20 :: c21 :: c22 :: c23 :: c24 :: c25 :: c26 :: c27 :: c28 :: c29 :: c30 :: c31 :: c32 :: c33 :: c34 :: c35 :: c36 :: c37 :: c38 :: c39 :: c40 :: c41 :: c42 :: c43 :: c44 :: c45 :: c46 :: c47 :: c48 :: c49 :: c50 :: c51 :: c52 :: c53 :: c54 :: c55 :: c56 :: c57 :: c58 :: c59 :: c60 :: c61 :: c62 :: c63 :: c64 :: c65 :: c66 :: c67 :: c68 :: c69 :: c70 :: c71 :: c72 :: c73 :: c74 :: c75 :: c76 :: c77 :: c78 :: c79 :: c80 :: c81 :: c82 :: c83 :: c84 :: c85 :: c86 :: c87 :: c88 :: c89 :: c90 :: c91 :: c92 :: c93 :: c94 :: c95 :: c96 :: c97 :: c98 :: c99 :: c100 :: c101 :: c102 :: c103 :: c104 :: c105 :: c106 :: c107 :: c108 :: c109 :: c110 :: c111 :: c112 :: c113 :: c114 :: c115 :: c116 :: c117 :: c118 :: c119 :: c120 :: c121 :: c122 :: c123 :: c124 :: c125 :: c126 :: c127 :: c128 :: c129 :: c130 :: c131 :: c132 :: c133 :: c134 :: c135 :: c136 :: c137 :: c138 :: c139 :: c140 :: c141 :: c142 :: c143 :: c144 :: c145 :: c146 :: c147 :: c148 :: c149 :: c150 :: c151 :: c152 :: c153 :: c154 :: c155 :: c156 :: c157 :: c158 :: c159 :: c160 :: c161 :: c162 :: c163 :: c164 :: c165 :: c166 :: c167 :: c168 :: c169 :: c170 :: c171 :: c172 :: c173 :: c174 :: c175 :: c176 :: c177 :: c178 :: c179 :: c180 :: c181 :: c182 :: c183 :: c184 :: c185 :: c186 :: c187 :: c188 :: c189 :: c190 :: c191 :: c192 :: c193 :: c194 :: c195 :: c196 :: c197 :: c198 :: c199 :: c200 :: c201 :: c202 :: c203 :: c204 :: c205 :: c206 :: c207 :: c208 :: c209 :: c210 :: c211 :: c212 :: c213 :: c214 :: c215 :: c216 :: c217 :: c218 :: c219 :: c220 :: c221 :: c222 :: c223 :: c224 :: c225 :: c226 :: c227 :: c228 :: c229 :: c230 :: c231 :: c232 :: c233 :: c234 :: c235 :: c236 :: c237 :: c238 :: c239 :: c240 :: c241 :: c242 :: c243 :: c244 :: c245 :: c246 :: c247 :: c248 :: c249 :: c250 :: c251 :: c252 :: c253 :: c254 :: c255 :: c256 :: c257 :: c258 :: c259 :: c260 :: c261 :: c262 :: c263 :: c264 :: c265 :: [] : List Value).toArray, []⟩ w := by
  have HK : Hid _ := hK
  clear hK
  conv => arg 2; whnf
  have HM0 := hid hM
  have Hin := hid hin
  have HRs := hid hR
  clear hM hin hR
  obtain ⟨i2, hi2, hy0, hy1, hy2⟩ := info_parts info2
  obtain ⟨i3, hi3, hz0, hz1, hz2⟩ := info_parts info3
  go_cut [9, 10] from 35 to 98 (fun s9 s10 wx => ∃ (g1 c1 g2 c2 : Nat) (L : AL), s9 = .slice (some ⟨g1, 0, none⟩) L.length c1 ∧ s10 = .slice (some ⟨g2, 0, none⟩) L.length c2 ∧ AOk R (fun x => Rel x (By name)) nh L ∧ MSt w0 g1 c1 g2 c2 L wx)
  case first =>
    go_wp2_with fail
    go_loopg [9, 10, 11, 12, 13] nh (fun gk s9 s10 s11 s12 s13 wr => ∃ (i g1 c1 g2 c2' : Nat) (L : AL), gk = nh - i ∧ i ≤ nh ∧ s9 = .slice (some ⟨g1, 0, none⟩) L.length c1 ∧ s10 = .slice (some ⟨g2, 0, none⟩) L.length c2' ∧ s11 = .int .i64 (i : Nat) ∧ AOk R (fun x => Rel x (By name)) i L ∧ MSt w0 g1 c1 g2 c2' L wr)
    case atStart => exact ⟨0, g1, c1, g2, c2, [], rfl, Nat.zero_le _, rfl, rfl, rfl, AOk.zero _ _, HM0.out⟩
    case round =>
      clear HM0
      obtain ⟨i, g1, c1, g2, c2', L, rfl, hi, rfl, rfl, rfl, hA, hM⟩ := hrel
      have HA := hid hA
      have HM := hid hM
      have hlen := hA.len
      obtain ⟨ln, hln⟩ : ∃ ln, ln = L.length := ⟨_, rfl⟩
      have Hln := hid hln
      have hln9 : ln ≤ i := by rw [hln]; exact hlen
      rw [← hln]
      clear hA hM hlen hln
      by_cases hlt : i < nh
      · have hltI : ((i : Nat) : Int) < (nh : Int) := by omega
        obtain ⟨ba, off, rfl, hba, hcs⟩ := Hin.out (by omega)
        have kc : ∀ W, Below w0.heap.size w0 W → W.cell? ⟨ba, off + i * 3, none⟩ = some (.string (R i).nm) ∧ W.cell? ⟨ba, off + i * 3 + 1, none⟩ = some (.string (R i).sv) ∧ W.cell? ⟨ba, off + i * 3 + 2, none⟩ = some (.int .i64 (R i).tx) :=
          fun W hb => ⟨hcs.below hb hba i hlt 0 (by omega), hcs.below hb hba i hlt 1 (by omega), hcs.below hb hba i hlt 2 (by omega)⟩
        obtain ⟨k0, k1, k2⟩ := kc wr HM.out.bl
        have C25 := related_any (R i).nm name wr (HRs.out i hlt).1 hname
        clear hcs
        have Hkc := hid kc
        clear kc
        by_cases hp : Rel (By (R i).nm) (By name)
        · rw [relB_true hp] at C25
          have Hp := hid hp
          have C26 := sevRank_any (R i).sv wr
          obtain ⟨rk, hrk⟩ : ∃ rk, rk = rankOf (R i).sv := ⟨_, rfl⟩
          have Hrk := hid hrk
          rw [← hrk] at C26
          clear hp hrk
          go_upto_block 2 with (first | (go_at_call 25; refine C25.mono ?_; rintro e w2 ⟨rfl, rfl⟩) | (go_at_call 26; refine C26.mono ?_; rintro e w2 ⟨rfl, hb2⟩))
          have HM2 : Hid (MSt w0 g1 c1 g2 c2' L w2) := HM.out.keeps0 (Keeps.of_below hb2)
          obtain ⟨_, _, m2⟩ := Hkc.out w2 HM2.out.bl
          refine Code.wp_mono then_imp (gm2 (L := L) _ _ _ _ _ _ _ _ _ _ _ _ _ _ _ _ _ _ _ _ _ _ _ _ _ _ _ _ _ _ _ _ _ _ _ _ _ _ _ _ _ _ _ _ _ _ _ _ _ _ _ _ _ _ _ _ _ _ _ _ _ _ _ _ _ _ _ _ _ _ _ _ _ _ _ _ _ _ _ _ _ _ _ _ _ _ _ _ _ _ _ _ _ _ _ _ _ _ _ _ _ _ _ _ _ _ _ _ _ _ _ _ _ _ _ _ _ _ _ _ _ _ _ _ _ _ _ _ _ _ _ _ _ _ _ _ _ _ _ _ _ _ _ _ _ _ _ _ _ _ _ _ _ _ _ _ _ _ _ _ _ _ _ _ _ _ _ _ _ _ _ _ _ _ _ _ _ _ _ _ _ _ _ _ _ _ _ _ _ _ _ _ _ _ _ _ _ _ _ _ _ _ _ _ _ _ _ _ _ _ _ _ _ _ _ _ _ _ _ _ _ _ _ _ _ _ _ _ _ _ _ _ _ _ _ _ _ _ _ _ _ _ _ _ _ _ _ _ _ _ _ _ _ _ _ _ _ _ _ hlt hn (by omega) Hln.out m2 (fun j hj => HM2.out.c1 hj) ?_)
          intro v55 v56 v57 v58 v59 v60 v61 v62 v63 v64 v65 v66 v67 v68 v69 v70 v71 v72 k q hk hall hor
          have HM3 : Hid (MSt w0 g1 c1 g2 c2' L (w2.drewN q)) := HM2.out.keeps0 ((Keeps.refl _ w2).drewN q)
          obtain ⟨_, _, m3⟩ := Hkc.out _ HM3.out.bl
          have Hall := hid hall
          have Hor := hid hor
          clear hb2 k0 k1 k2 m2 HM2 HM C25 C26 Hkc hall hor
          generalize w2.drewN q = W0 at *
          have hb0 := HM3.out.bl.size
          by_cases hkl : k = ln
          · have hbq : (((k : Nat) : Int) == ((ln : Nat) : Int)) = true := beqT hkl
            have HA' : Hid (AOk R (fun x => Rel x (By name)) (i + 1) (L ++ [((R i).tx, rk)])) := by
              show AOk _ _ _ _
              rw [Hrk.out]
              exact HA.out.new Hp.out (fun j hj => by rw [← key_eq hj]; exact Hall.out j (by rw [hkl, Hln.out]; exact hj))
            have o1 := HM3.out.o1
            rw [← Hln.out] at o1
            clear hkl Hor
            go_wp2_with (first | (at_builtin; refine wpList_append_lies _ (by rfl) _ _ 58 (by rfl) w0.heap.size 2 i2 _ 1 8 Try.underlying58 hi2 hy0 hy1 hy2 rfl (by omega) _ ln (k1s L) (by rfl) (o1.alloc _) ⟨W0.heap.size, 0, none⟩ 1 1 [.int .i64 (R i).tx] (by rfl) (by rfl) (World.news_of_block (cs := #[.int .i64 (R i).tx]) (t := 2) (fr := (0, 0)) (heap_alloc_new W0 _)) (by simp [Value.oneCell']) (by omega) (by simp [maxLen]; omega) (by omega) (by simp; omega) (W0.heap.size + 1) (by simp) ?_; intro gg cap w3 hown1 hgrow1 hat1 hlt1; have o2' := MSt.o2mid HM3.out ((Keeps.refl _ W0).alloc _) hgrow1; rw [← Hln.out] at o2'; have hsz3 := Nat.le_trans hb0 (Nat.le_trans (by simp) hgrow1.size)) | (at_builtin; refine wpList_append_lies _ (by rfl) _ _ 36 (by rfl) w0.heap.size 3 i3 _ 1 8 Try.underlying36 hi3 hz0 hz1 hz2 rfl (by omega) _ ln (k2s L) (by rfl) (o2'.alloc _) ⟨w3.heap.size, 0, none⟩ 1 1 [.int .i64 rk] (by rfl) (by rfl) (World.news_of_block (cs := #[.int .i64 rk]) (t := 3) (fr := (0, 0)) (heap_alloc_new w3 _)) (by simp [Value.oneCell']) (by omega) (by simp [maxLen]; omega) (by omega) (by simp; omega) (w3.heap.size + 1) (by simp) ?_; intro gg' cap' w4 hown2 hgrow2 hat2 hlt2))
            rw [Hln.out] at hown1 hown2
            have LN : Hid (MSt w0 gg cap gg' cap' (L ++ [((R i).tx, rk)]) w4) := HM3.out.push ((Keeps.refl _ W0).alloc _) hown1 hgrow1 ((Keeps.refl _ w3).alloc _) hown2 hgrow2
            clear hown1 hgrow1 hat1 hown2 hgrow2 hat2 o1 o2'
            go_roundg (nh - (i + 1))
            case measure => omega
            case rel => exact ⟨i + 1, gg, cap, gg', cap', _, rfl, by omega, by rw [Hln.out]; simp, by rw [Hln.out]; simp, by go_num, HA'.out, LN.out⟩
          · have hkl2 : k < ln := by omega
            have hbq : (((k : Nat) : Int) == ((ln : Nat) : Int)) = false := beqF hkl
            have hke := Hor.out.resolve_left hkl
            have hkL : k < L.length := by rw [← Hln.out]; exact hkl2
            have c2 : W0.cell? ⟨g2, k, none⟩ = some (.int .i64 (val L k)) := HM3.out.c2 hkL
            have fz : W0.frozen? ⟨g2, k, none⟩ = false := own_frozen HM3.out.o2 k
            have hkI : ((k : Nat) : Int) < ((ln : Nat) : Int) := by omega
            obtain ⟨v, hv⟩ : ∃ v, v = val L k := ⟨_, rfl⟩
            rw [← hv] at c2
            by_cases hlt2 : v < rk
            · have HA' : Hid (AOk R (fun x => Rel x (By name)) (i + 1) (L.set k ((R i).tx, rk))) := by
                show AOk _ _ _ _
                rw [Hrk.out]
                exact HA.out.up Hp.out hkL (by rw [← key_eq hkL]; exact hke) (fun j hj => by rw [← key_eq (by omega)]; exact Hall.out j hj) (by rw [← val_eq hkL, ← hv, ← Hrk.out]; exact hlt2)
              have LN : Hid (MSt w0 g1 c1 g2 c2' (L.set k ((R i).tx, rk)) (W0.setCell ⟨g2, k, none⟩ (.int .i64 rk))) := HM3.out.set hkL (by rw [← key_eq hkL]; exact hke)
              clear hv hke hkL Hor hkl
              go_wp2_with fail
              go_roundg (nh - (i + 1))
              case measure => omega
              case rel => exact ⟨i + 1, g1, c1, g2, c2', _, rfl, by omega, by rw [Hln.out]; simp, by rw [Hln.out]; simp, by go_num, HA'.out, LN.out⟩
            · have HA' : Hid (AOk R (fun x => Rel x (By name)) (i + 1) L) := HA.out.same Hp.out hkL (by rw [← key_eq hkL]; exact hke) (fun j hj => by rw [← key_eq (by omega)]; exact Hall.out j hj) (by rw [← val_eq hkL, ← hv, ← Hrk.out]; exact hlt2)
              clear hv hke hkL Hor hkl
              go_wp2_with fail
              go_roundg (nh - (i + 1))
              case measure => omega
              case rel => exact ⟨i + 1, g1, c1, g2, c2', L, rfl, by omega, by rw [Hln.out], by rw [Hln.out], by go_num, HA'.out, HM3.out⟩
        · rw [relB_false hp] at C25
          have HA' : Hid (AOk R (fun x => Rel x (By name)) (i + 1) L) := HA.out.skip hp
          clear hp
          go_wp2_with (go_at_call 25; refine C25.mono ?_; rintro e w2 ⟨rfl, rfl⟩)
          go_roundg (nh - (i + 1))
          case measure => omega
          case rel => exact ⟨i + 1, g1, c1, g2, c2', L, rfl, by omega, by rw [Hln.out], by rw [Hln.out], by go_num, HA'.out, HM.out⟩
      · have e : i = nh := by omega
        go_wp2
        go_meet
        case rel => exact ⟨g1, c1, g2, c2', L, by rw [Hln.out], by rw [Hln.out], by rw [← e]; exact HA.out, HM.out⟩
  case rest =>
    obtain ⟨g1', c1', g2', c2', L, rfl, rfl, hA, hM⟩ := hcut
    exact HK.out _ _ _ _ _ _ _ _ _ _ _ _ _ _ _ _ _ _ _ _ _ _ _ _ _ _ _ _ _ _ _ _ _ _ _ _ _ _ _ _ _ _ _ _ _ _ _ _ _ _ _ _ _ _ _ _ _ _ _ _ _ _ _ _ _ _ _ g1' c1' g2' c2' L _ hA hM
end Go.Proofs.Qxb6612537a.U

import Derived.Test.Qxb6609507aBody0
import Derived.Deep.CutBlock
namespace Go.Proofs.Qxb6609507a.U
open Go.RowKit Go.Proofs.Qxb6609507a.Plain
set_option linter.unusedVariables false
set_option linter.unusedSimpArgs false

theorem noPanic_to {Q : Exit → Act → World → Prop} : ∀ (e : Exit) (a : Act) (w : World), NoPanic Q e a w → Q e a w := fun e a w h => by
  cases e <;> first | exact h | exact (h : False).elim
set_option maxRecDepth 100000 in
set_option maxHeartbeats 8000000 in
theorem b1B (fan t : Nat → Nat) (M j T b ob c : Nat) (V : Nat → Value) (w wo wc : World) (K : Act → World → Prop) (Q : Exit → Act → World → Prop) (c0 c1 c5 c12 c14 c15 c16 c17 c18 c19 c20 c21 c22 c23 c24 c25 c26 c27 c28 c29 c30 c31 c32 c33 c34 c35 c36 c37 c38 c39 c40 c41 c42 c43 c44 c45 c46 c47 c48 c49 c50 c51 c52 c53 c54 c55 c56 c57 c58 c59 c60 c61 c62 c63 c64 c65 c66 c67 c68 c69 c70 c71 c72 c73 c74 c75 c76 c77 c78 c79 c80 c81 c82 c83 c84 c85 c86 c87 c88 c89 c90 c91 c92 c93 c94 c95 c96 c97 c98 c99 c100 c101 c102 c103 c104 c105 c106 c107 c108 c109 c110 c111 c112 c113 c114 c115 c116 c117 c118 c119 c120 c121 c122 c123 c124 c125 c126 c127 c128 c129 c130 c131 c132 c133 c134 c135 c136 c137 c138 c139 c140 c141 c142 c143 c144 c145 c146 c147 c148 c149 c150 c151 c152 c153 c154 c155 c156 c157 c158 c159 c160 c161 c162 c163 c164 c165 c166 c167 c168 c169 c170 c171 c172 c173 c174 c175 c176 c177 c178 c179 c180 c181 c182 c183 c184 c185 c186 c187 c188 c189 c190 c191 c192 c193 c194 c195 c196 c197 c198 c199 c200 c201 c202 c203 c204 c205 c206 c207 c208 c209 c210 c211 c212 c213 c214 c215 c216 c217 c218 c219 c220 c221 c222 c223 c224 c225 c226 c227 c228 : Value)
    (hT : Trees fan t M) (hlt : j < M) (hTj : T = t j) (hb : b < w.heap.size) (hct : w.cell? ⟨b, ob + j, none⟩ = some (.int .i8 (T : Int))) (hBB : w.heap.size + 4 ≤ wo.heap.size)
    (hR : Row wc wo.heap.size 24 5 (i64s (bs fan t j))) (hL : Lay w w.heap.size fan V (xsT fan t M j) wc)
    (hK : ∀ (V2 : Nat → Value) (u13 u14 u15 u27 u28 u29 u30 u31 u32 u33 u34 u35 u36 u37 u38 u39 u40 u41 u42 u43 u44 u45 u46 u47 u48 u49 u50 u51 u52 u53 u54 u55 u56 u57 u58 u59 u60 u61 u62 u63 u64 u65 u66 u67 u68 u69 u70 u71 u72 u73 u74 u75 u76 u77 u78 u79 u80 u81 u82 u83 u84 u85 u86 u87 u88 u89 u90 u91 u92 u93 u94 u95 u96 u97 u98 u99 u100 u101 u102 u103 u104 u105 u106 u107 u108 u109 u110 u111 u112 u113 u114 u115 u116 u117 u118 u119 u120 u121 u122 u123 u124 u125 u126 u127 u128 u129 u130 u131 u132 u133 u134 u135 u136 u137 u138 u139 u140 u141 u142 u143 u144 u145 u146 u147 u148 u149 u150 u151 u152 u153 u154 u155 u156 u157 u158 u159 u160 u161 u162 u163 u164 u165 u166 u167 u168 u169 u170 u171 u172 u173 u174 u175 u176 u177 u178 u179 u180 u181 u182 u183 u184 u185 u186 u187 u188 u189 u190 u191 u192 u193 u194 u195 u196 u197 u198 u199 u200 u201 u202 u203 u204 u205 u206 u207 u208 u209 u210 u211 u212 u213 u214 u215 u216 u217 u218 u219 u220 u221 u222 u223 u224 u225 u226 u227 : Value) (wx : World), Row wx wo.heap.size 24 5 (i64s (bs fan t j)) → Lay w w.heap.size fan V2 (xsA fan t M (bs fan t (j + 1)) (bs fan t (j + 1)) (bs fan t (j + 1)) (bs fan t (j + 1)) j j j j j) wx → K ⟨(c0 :: c1 :: .slice (some ⟨b, ob, none⟩) M c :: .pointer (some ⟨w.heap.size, 0, none⟩) :: .pointer (some ⟨w.heap.size + 1, 0, none⟩) :: c5 :: .pointer (some ⟨w.heap.size + 1 + 1, 0, none⟩) :: .pointer (some ⟨w.heap.size + 1 + 1 + 1, 0, none⟩) :: .int .i64 (off fan t j) :: .int .i64 j :: .int .i64 T :: .pointer (some ⟨wo.heap.size, 0, none⟩) :: c12 :: u13 :: u14 :: u15 :: c16 :: c17 :: c18 :: c19 :: c20 :: c21 :: c22 :: c23 :: c24 :: c25 :: c26 :: u27 :: u28 :: u29 :: u30 :: u31 :: u32 :: u33 :: u34 :: u35 :: u36 :: u37 :: u38 :: u39 :: u40 :: u41 :: u42 :: u43 :: u44 :: u45 :: u46 :: u47 :: u48 :: u49 :: u50 :: u51 :: u52 :: u53 :: u54 :: u55 :: u56 :: u57 :: u58 :: u59 :: u60 :: u61 :: u62 :: u63 :: u64 :: u65 :: u66 :: u67 :: u68 :: u69 :: u70 :: u71 :: u72 :: u73 :: u74 :: u75 :: u76 :: u77 :: u78 :: u79 :: u80 :: u81 :: u82 :: u83 :: u84 :: u85 :: u86 :: u87 :: u88 :: u89 :: u90 :: u91 :: u92 :: u93 :: u94 :: u95 :: u96 :: u97 :: u98 :: u99 :: u100 :: u101 :: u102 :: u103 :: u104 :: u105 :: u106 :: u107 :: u108 :: u109 :: u110 :: u111 :: u112 :: u113 :: u114 :: u115 :: u116 :: u117 :: u118 :: u119 :: u120 :: u121 :: u122 :: u123 :: u124 :: u125 :: u126 :: u127 :: u128 :: u129 :: u130 :: u131 :: u132 :: u133 :: u134 :: u135 :: u136 :: u137 :: u138 :: u139 :: u140 :: u141 :: u142 :: u143 :: u144 :: u145 :: u146 :: u147 :: u148 :: u149 :: u150 :: u151 :: u152 :: u153 :: u154 :: u155 :: u156 :: u157 :: u158 :: u159 :: u160 :: u161 :: u162 :: u163 :: u164 :: u165 :: u166 :: u167 :: u168 :: u169 :: u170 :: u171 :: u172 :: u173 :: u174 :: u175 :: u176 :: u177 :: u178 :: u179 :: u180 :: u181 :: u182 :: u183 :: u184 :: u185 :: u186 :: u187 :: u188 :: u189 :: u190 :: u191 :: u192 :: u193 :: u194 :: u195 :: u196 :: u197 :: u198 :: u199 :: u200 :: u201 :: u202 :: u203 :: u204 :: u205 :: u206 :: u207 :: u208 :: u209 :: u210 :: u211 :: u212 :: u213 :: u214 :: u215 :: u216 :: u217 :: u218 :: u219 :: u220 :: u221 :: u222 :: u223 :: u224 :: u225 :: u226 :: u227 :: c228 :: [] : List Value).toArray, []⟩ wx) :
    Code.wp Try.prog ((Try.f9.body.bind (blockAt 4)).getD .skip) (Exit.then K (NoPanic Q)) ⟨(c0 :: c1 :: .slice (some ⟨b, ob, none⟩) M c :: .pointer (some ⟨w.heap.size, 0, none⟩) :: .pointer (some ⟨w.heap.size + 1, 0, none⟩) :: c5 :: .pointer (some ⟨w.heap.size + 1 + 1, 0, none⟩) :: .pointer (some ⟨w.heap.size + 1 + 1 + 1, 0, none⟩) :: .int .i64 (off fan t j) :: .int .i64 j :: .int .i64 T :: .pointer (some ⟨wo.heap.size, 0, none⟩) :: c12 :: .int .i64 0 :: c14 :: c15 :: c16 :: c17 :: c18 :: c19 :: c20 :: c21 :: c22 :: c23 :: c24 :: c25 :: c26 :: c27 :: c28 :: c29 :: c30 :: c31 :: c32 :: c33 :: c34 :: c35 :: c36 :: c37 :: c38 :: c39 :: c40 :: c41 :: c42 :: c43 :: c44 :: c45 :: c46 :: c47 :: c48 :: c49 :: c50 :: c51 :: c52 :: c53 :: c54 :: c55 :: c56 :: c57 :: c58 :: c59 :: c60 :: c61 :: c62 :: c63 :: c64 :: c65 :: c66 :: c67 :: c68 :: c69 :: c70 :: c71 :: c72 :: c73 :: c74 :: c75 :: c76 :: c77 :: c78 :: c79 :: c80 :: c81 :: c82 :: c83 :: c84 :: c85 :: c86 :: c87 :: c88 :: c89 :: c90 :: c91 :: c92 :: c93 :: c94 :: c95 :: c96 :: c97 :: c98 :: c99 :: c100 :: c101 :: c102 :: c103 :: c104 :: c105 :: c106 :: c107 :: c108 :: c109 :: c110 :: c111 :: c112 :: c113 :: c114 :: c115 :: c116 :: c117 :: c118 :: c119 :: c120 :: c121 :: c122 :: c123 :: c124 :: c125 :: c126 :: c127 :: c128 :: c129 :: c130 :: c131 :: c132 :: c133 :: c134 :: c135 :: c136 :: c137 :: c138 :: c139 :: c140 :: c141 :: c142 :: c143 :: c144 :: c145 :: c146 :: c147 :: c148 :: c149 :: c150 :: c151 :: c152 :: c153 :: c154 :: c155 :: c156 :: c157 :: c158 :: c159 :: c160 :: c161 :: c162 :: c163 :: c164 :: c165 :: c166 :: c167 :: c168 :: c169 :: c170 :: c171 :: c172 :: c173 :: c174 :: c175 :: c176 :: c177 :: c178 :: c179 :: c180 :: c181 :: c182 :: c183 :: c184 :: c185 :: c186 :: c187 :: c188 :: c189 :: c190 :: c191 :: c192 :: c193 :: c194 :: c195 :: c196 :: c197 :: c198 :: c199 :: c200 :: c201 :: c202 :: c203 :: c204 :: c205 :: c206 :: c207 :: c208 :: c209 :: c210 :: c211 :: c212 :: c213 :: c214 :: c215 :: c216 :: c217 :: c218 :: c219 :: c220 :: c221 :: c222 :: c223 :: c224 :: c225 :: c226 :: c227 :: c228 :: [] : List Value).toArray, []⟩ wc := by
  have HT : Hid (Trees fan t M) := hT
  have HK : Hid _ := hK
  have HTj : Hid (T = t j) := hTj
  have HCT : Hid (w.cell? ⟨b, ob + j, none⟩ = some (.int .i8 (T : Int))) := hct
  have hM := hT.few
  have hT4 : T ≤ 4 := by rw [hTj]; exact hT.top j hlt
  have hoff : off fan t j ≤ 65536 := Nat.le_trans (off_mono (by omega)) hT.all
  clear hT hK hct hTj
  conv => arg 2; whnf
  have HR0 := hid hR
  have HL0 := hid hL
  clear hR hL
  go_cut [] from 27 to 227 (fun wc => ∃ V3, Row wc wo.heap.size 24 5 (i64s (bs fan t j)) ∧ Lay w w.heap.size fan V3 (xsA fan t M (bs fan t (j + 1)) (bs fan t (j + 1)) (bs fan t (j + 1)) (bs fan t (j + 1)) j j j j j) wc)
  case first =>
    go_wp2_with fail
    go_loopg [13] (T + 1) (fun gk s13 wr => ∃ (l : Nat) (V1 : Nat → Value), gk = T + 1 - l ∧ l ≤ T + 1 ∧ s13 = .int .i64 l ∧ Row wr wo.heap.size 24 5 (i64s (bs fan t j)) ∧ Lay w w.heap.size fan V1 (xsK fan t M j l 0) wr)
    case atStart => exact ⟨0, V, rfl, by omega, rfl, HR0.out, by have h := HL0.out; unfold xsK; rw [Lj_zero]; exact h⟩
    case round =>
      obtain ⟨l, V1, rfl, hlT, rfl, hR, hL⟩ := hrel
      have HR : Hid (Row wr wo.heap.size 24 5 (i64s (bs fan t j))) := hR
      have HL3 : Hid (Lay w w.heap.size fan V1 (xsK fan t M j l 0) wr) := hL
      by_cases hl : l ≤ T
      · obtain ⟨cnt, hcnt⟩ : ∃ cnt, cnt = cn fan T l := ⟨_, rfl⟩
        have hTj := HTj.out
        have hpT : Pos fan T := by rw [hTj]; exact HT.out.pos j hlt
        have hszl : 0 < sz fan l := sz_pos l (hpT.mono hl)
        have hszle : sz fan l ≤ 2147483647 := HT.out.szle l (by omega)
        have hszT : sz fan T ≤ 2147483647 := HT.out.szle T (by omega)
        have hq : ((sz fan T : Nat) : Int) / ((sz fan l : Nat) : Int) = (cnt : Int) := by
          rw [hcnt, ← Int.natCast_ediv]; unfold cn; rw [if_pos hl]
        have cT : wr.cell? ⟨w.heap.size, T, none⟩ = some (.int .i64 (sz fan T)) := hL.szr.cell (by omega)
        have cl : wr.cell? ⟨w.heap.size, l, none⟩ = some (.int .i64 (sz fan l)) := hL.szr.cell (by omega)
        have HCN : Hid (cnt = cn fan T l) := hcnt
        have hnz : (((sz fan l : Nat) : Int) == 0) = false := beqF (b := 0) (by omega)
        have hl5' : ((l : Nat) : Int) < 5 := by omega
        have hT5' : ((T : Nat) : Int) < 5 := by omega
        have hcle : cnt ≤ sz fan T := by
          rw [hcnt]; unfold cn; rw [if_pos hl]; exact Nat.div_le_self _ _
        have hcw : wrap64 ((cnt : Nat) : Int) = (cnt : Int) := by unfold wrap64; omega
        clear hR hL hcnt hpT hTj
        go_wp2
        go_quiet (fail)
        go_wp2_with fail
        rw [hcw]
        clear cT cl hq hnz hcw hcle
        refine Code.wp_mono noPanic_to (loop4 fan t M j T l cnt wo.heap.size V1 w (wr.drewN nq) _ _ _ _ _ _ _ _ _ _ _ _ _ _ _ _ _ _ _ _ _ _ _ _ _ _ _ _ _ _ _ _ _ _ _ _ _ _ _ _ _ _ _ _ _ _ _ _ _ _ _ _ _ _ _ _ _ _ _ _ _ _ _ _ _ _ _ _ _ _ _ _ _ _ _ _ _ _ _ _ _ _ _ _ _ _ _ _ _ _ _ _ _ _ _ _ _ _ _ _ _ _ _ _ _ _ _ _ _ _ _ _ _ _ _ _ _ _ _ _ _ _ _ _ _ _ _ _ _ _ _ _ _ _ _ _ _ _ _ _ _ _ _ _ _ _ _ _ _ _ _ _ _ _ _ _ _ _ _ _ _ _ _ _ _ _ _ _ _ _ _ _ _ _ _ _ _ _ _ _ _ _ _ _ _ _ _ _ _ _ _ _ _ _ _ _ _ _ _ _ _ _ _ _ _ _ _ _ _ _ _ _ _ _ _ _ _ _ _ _ _ HT.out hlt HTj.out hl HCN.out hBB (HR.out.drewN nq) (HL3.out.drewN nq) ?_)
        intro V2 u15 u55 u56 u57 u58 u59 u60 u61 u62 u63 u64 u65 u66 u67 u68 u69 u70 u71 u72 u73 u74 u75 u76 u77 u78 u79 u80 u81 u82 u83 u84 u85 u86 u87 u88 u89 u90 u91 u92 u93 u94 u95 u96 u97 u98 u99 u100 u101 u102 u103 u104 u105 u106 u107 u108 u109 u110 u111 u112 u113 u114 u115 u116 u117 u118 u119 u120 u121 u122 u123 u124 u125 u126 u127 u128 u129 u130 u131 u132 u133 u134 u135 u136 u137 u138 u139 u140 u141 u142 u143 u144 u145 u146 u147 u148 u149 u150 u151 u152 u153 u154 u155 u156 u157 u158 wx hR2 hL2
        have hR3 : Hid (Row wx wo.heap.size 24 5 (i64s (bs fan t j))) := hR2
        have hL3 : Hid (Lay w w.heap.size fan V2 (xsK fan t M j (l + 1) 0) wx) := by
          have h := hL2
          rw [HCN.out, HTj.out] at h
          unfold xsK at h
          rw [Lj_next] at h
          exact h
        clear hR2 hL2
        go_wp2
        go_roundg (T + 1 - (l + 1))
        case measure => omega
        case rel => exact ⟨l + 1, V2, rfl, by omega, by go_num, hR3.out, hL3.out⟩
      · have hLe : Hid (Lay w w.heap.size fan V1 (xsA fan t M (bs fan t (j + 1)) (bs fan t (j + 1)) (bs fan t (j + 1)) (bs fan t (j + 1)) j j j j j) wr) := by
          have h := hL
          have e : l = t j + 1 := by have := HTj.out; omega
          unfold xsK at h
          rw [e, Lj_last] at h
          exact h
        clear hR hL
        go_wp2
        go_meet
        case rel => exact ⟨V1, HR.out, hLe.out⟩
  case rest =>
    obtain ⟨V3, hR, hL⟩ := hcut
    exact HK.out _ _ _ _ _ _ _ _ _ _ _ _ _ _ _ _ _ _ _ _ _ _ _ _ _ _ _ _ _ _ _ _ _ _ _ _ _ _ _ _ _ _ _ _ _ _ _ _ _ _ _ _ _ _ _ _ _ _ _ _ _ _ _ _ _ _ _ _ _ _ _ _ _ _ _ _ _ _ _ _ _ _ _ _ _ _ _ _ _ _ _ _ _ _ _ _ _ _ _ _ _ _ _ _ _ _ _ _ _ _ _ _ _ _ _ _ _ _ _ _ _ _ _ _ _ _ _ _ _ _ _ _ _ _ _ _ _ _ _ _ _ _ _ _ _ _ _ _ _ _ _ _ _ _ _ _ _ _ _ _ _ _ _ _ _ _ _ _ _ _ _ _ _ _ _ _ _ _ _ _ _ _ _ _ _ _ _ _ _ _ _ _ _ _ _ _ _ _ _ _ _ _ _ _ _ _ hR hL

end Go.Proofs.Qxb6609507a.U

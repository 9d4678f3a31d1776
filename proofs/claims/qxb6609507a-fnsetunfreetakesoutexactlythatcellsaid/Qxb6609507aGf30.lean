import Derived.Test.Qxb6609507aPlant
import Derived.Test.Qxb6609507aBody0
import Derived.Deep.CutBlock
import Derived.Deep.RegionWith
import Derived.Deep.RegionLaw
import Derived.Deep.RegionHeld3
import Derived.Deep.RegionHeldLaw
namespace Go.Proofs.Qxb6609507a.U
open Go.RowKit Go.Proofs.Qxb6609507a.Plain
set_option linter.unusedVariables false
set_option linter.unusedSimpArgs false

set_option maxRecDepth 100000 in
set_option maxHeartbeats 8000000 in
theorem gf30 (fan t : Nat → Nat) (M : Nat) (a0 : Option Addr) (c0' : Nat) {B : Nat} {w : World} {x : Blk} {lk : Bool} {N D WB cc : Nat → Nat} {XB : Nat → Nat → Nat} (j T : Nat)  (wc : World) (K : Act → World → Prop) (Q : Exit → Act → World → Prop) (c0 c2 c3 c4 c5 c6 c8 c9 c10 c11 c12 c16 c18 c19 c20 c21 c22 c23 c24 c25 c26 c27 c28 c29 c30 c31 c32 c33 c34 c35 c36 c37 c38 c39 c40 c41 c42 c43 c44 c45 c46 c47 c48 c49 c50 c51 c52 c53 c54 c55 c56 c57 c58 c59 c60 c61 c62 c63 c64 c65 c66 c67 c68 c69 c70 c71 c72 c73 c74 c75 c76 c77 c78 c79 c80 c81 c82 c83 c84 c85 c86 c87 c88 c89 c90 c91 c92 c93 c94 c95 c96 c97 c98 c99 c100 c101 c102 c103 c104 c105 c106 c107 c108 c109 c110 c111 c112 c113 c114 c115 c116 c117 c118 c119 c120 c121 c122 c123 c124 c125 c126 c127 c128 c129 c130 c131 c132 c133 c134 c135 c136 c137 c138 c139 c140 c141 c142 c143 c144 c145 c146 c147 c148 c149 c150 c151 c152 c153 c154 c155 c156 c157 c158 c159 c160 c161 c162 c163 c164 c165 c166 c167 c168 c169 c170 c171 c172 c173 c174 c175 c176 c177 c178 c179 c180 c181 c182 c183 c184 c185 c186 c187 c188 c189 c190 c191 c192 c193 c194 c195 c196 c197 c198 c199 c200 c201 c202 c203 c204 c205 c206 : Value)
    (hT : Trees fan t M) (hj : j < M) (hTj : T = t j) (hN : ∀ l, l < 5 → N l = bs fan t M l)
    (hP : Pl fan t M B w x lk N D WB cc XB j j j j wc)
    (hK : ∀ (u126 u127 u128 u129 : Value) (wx : World), Pl fan t M B w x lk N D WB cc XB (j + 1) j j j wx → K ⟨(c0 :: .slice a0 M c0' :: c2 :: c3 :: c4 :: c5 :: c6 :: .pointer (some ⟨x.FV, 0, none⟩) :: c8 :: c9 :: c10 :: c11 :: c12 :: .pointer (some ⟨x.GB, 0, none⟩) :: .pointer (some ⟨x.GV, 0, none⟩) :: .int .i32 (off fan t j : Nat) :: c16 :: .int .i8 (T : Nat) :: .pointer (some ⟨x.LV T, bs fan t j T * 6, none⟩) :: c19 :: c20 :: c21 :: c22 :: c23 :: c24 :: c25 :: c26 :: c27 :: c28 :: c29 :: c30 :: c31 :: c32 :: c33 :: c34 :: c35 :: c36 :: c37 :: c38 :: c39 :: c40 :: c41 :: c42 :: c43 :: c44 :: c45 :: c46 :: c47 :: c48 :: c49 :: c50 :: c51 :: c52 :: c53 :: c54 :: c55 :: c56 :: c57 :: c58 :: c59 :: c60 :: c61 :: c62 :: c63 :: c64 :: c65 :: c66 :: c67 :: c68 :: c69 :: c70 :: c71 :: c72 :: c73 :: c74 :: c75 :: c76 :: c77 :: c78 :: c79 :: c80 :: c81 :: c82 :: c83 :: c84 :: c85 :: c86 :: c87 :: c88 :: c89 :: c90 :: c91 :: c92 :: c93 :: c94 :: c95 :: c96 :: c97 :: c98 :: c99 :: c100 :: c101 :: c102 :: c103 :: c104 :: c105 :: c106 :: c107 :: c108 :: c109 :: c110 :: c111 :: c112 :: c113 :: c114 :: c115 :: c116 :: c117 :: c118 :: c119 :: c120 :: c121 :: c122 :: c123 :: c124 :: c125 :: u126 :: u127 :: u128 :: u129 :: c130 :: c131 :: c132 :: c133 :: c134 :: c135 :: c136 :: c137 :: c138 :: c139 :: c140 :: c141 :: c142 :: c143 :: c144 :: c145 :: c146 :: c147 :: c148 :: c149 :: c150 :: c151 :: c152 :: c153 :: c154 :: c155 :: c156 :: c157 :: c158 :: c159 :: c160 :: c161 :: c162 :: c163 :: c164 :: c165 :: c166 :: c167 :: c168 :: c169 :: c170 :: c171 :: c172 :: c173 :: c174 :: c175 :: c176 :: c177 :: c178 :: c179 :: c180 :: c181 :: c182 :: c183 :: c184 :: c185 :: c186 :: c187 :: c188 :: c189 :: c190 :: c191 :: c192 :: c193 :: c194 :: c195 :: c196 :: c197 :: c198 :: c199 :: c200 :: c201 :: c202 :: c203 :: c204 :: c205 :: c206 :: [] : List Value).toArray, []⟩ wx) :
    Code.wp Try.prog ((Try.f35.body.bind (regionAt 30)).getD .skip) (Exit.then K (NoPanic Q)) ⟨(c0 :: .slice a0 M c0' :: c2 :: c3 :: c4 :: c5 :: c6 :: .pointer (some ⟨x.FV, 0, none⟩) :: c8 :: c9 :: c10 :: c11 :: c12 :: .pointer (some ⟨x.GB, 0, none⟩) :: .pointer (some ⟨x.GV, 0, none⟩) :: .int .i32 (off fan t j : Nat) :: c16 :: .int .i8 (T : Nat) :: c18 :: c19 :: c20 :: c21 :: c22 :: c23 :: c24 :: c25 :: c26 :: c27 :: c28 :: c29 :: c30 :: c31 :: c32 :: c33 :: c34 :: c35 :: c36 :: c37 :: c38 :: c39 :: c40 :: c41 :: c42 :: c43 :: c44 :: c45 :: c46 :: c47 :: c48 :: c49 :: c50 :: c51 :: c52 :: c53 :: c54 :: c55 :: c56 :: c57 :: c58 :: c59 :: c60 :: c61 :: c62 :: c63 :: c64 :: c65 :: c66 :: c67 :: c68 :: c69 :: c70 :: c71 :: c72 :: c73 :: c74 :: c75 :: c76 :: c77 :: c78 :: c79 :: c80 :: c81 :: c82 :: c83 :: c84 :: c85 :: c86 :: c87 :: c88 :: c89 :: c90 :: c91 :: c92 :: c93 :: c94 :: c95 :: c96 :: c97 :: c98 :: c99 :: c100 :: c101 :: c102 :: c103 :: c104 :: c105 :: c106 :: c107 :: c108 :: c109 :: c110 :: c111 :: c112 :: c113 :: c114 :: c115 :: c116 :: c117 :: c118 :: c119 :: c120 :: c121 :: c122 :: c123 :: c124 :: c125 :: c126 :: c127 :: c128 :: c129 :: c130 :: c131 :: c132 :: c133 :: c134 :: c135 :: c136 :: c137 :: c138 :: c139 :: c140 :: c141 :: c142 :: c143 :: c144 :: c145 :: c146 :: c147 :: c148 :: c149 :: c150 :: c151 :: c152 :: c153 :: c154 :: c155 :: c156 :: c157 :: c158 :: c159 :: c160 :: c161 :: c162 :: c163 :: c164 :: c165 :: c166 :: c167 :: c168 :: c169 :: c170 :: c171 :: c172 :: c173 :: c174 :: c175 :: c176 :: c177 :: c178 :: c179 :: c180 :: c181 :: c182 :: c183 :: c184 :: c185 :: c186 :: c187 :: c188 :: c189 :: c190 :: c191 :: c192 :: c193 :: c194 :: c195 :: c196 :: c197 :: c198 :: c199 :: c200 :: c201 :: c202 :: c203 :: c204 :: c205 :: c206 :: [] : List Value).toArray, []⟩ wc := by
  have HK : Hid _ := hK
  have HT := hid hT
  have HTj := hid hTj
  have HN := hid hN
  have hM9 := hT.few
  have hT4 : T ≤ 4 := by rw [hTj]; exact hT.top j hj
  have hT5 : ((T : Nat) : Int) < 5 := by omega
  have hoff : off fan t j ≤ 65536 := Nat.le_trans (off_mono (by omega)) hT.all
  have hbM : ∀ l, bs fan t M l ≤ 65536 := fun l => Nat.le_trans (bs_le_off l M) hT.all
  have hgN : bs fan t j T < N T := by
    rw [hN T (by omega)]
    have h1 := bs_mono (fan := fan) (t := t) (show j + 1 ≤ M by omega) T
    have h2 : bs fan t (j + 1) T = bs fan t j T + 1 := by
      show bs fan t j T + cn fan (t j) T = _
      rw [hTj, cn_self (hT.pos j hj)]
    omega
  have hN9 : ∀ l, l < 5 → N l ≤ 65536 := fun l hl => by rw [hN l hl]; exact hbM l
  have HN9 := hid hN9
  have hg9 : bs fan t j T ≤ 65536 := by have := hN9 T (by omega); omega
  clear hK hT hN hTj hbM hN9
  conv => arg 2; whnf
  obtain ⟨C, X, V0, V1, hC, hM⟩ := hP
  have HC := hid hC
  have HM := hid hM
  have cg : wc.cell? ⟨x.GV, 0, none⟩ = some (growV x) := hM.base.st.gv.cell (i := 0) (by omega)
  unfold growV at cg
  have HPre : Hid (GrowPre fan t M x lk N C T (bs fan t j) (AJ fan t M j) (KJ fan t M j) (off fan t j) (-1) wc) := by
    have hTj := HTj.out
    subst hTj
    refine ⟨hT4, HT.out.pos j hj, hM.base.st, fits_root hj (HT.out.pos j hj), ?_, ?_, by omega, by omega⟩
    · intro l' hl'
      rw [doneG_root, HN.out l' (by omega)]
      exact bs_mono (by omega) l'
    · have h1 : off fan t (j + 1) = off fan t j + sz fan (t j) := rfl
      have h2 := off_mono (fan := fan) (t := t) (show j + 1 ≤ M by omega)
      have h3 := HT.out.all
      omega
  have GA := grow_any fan t M x lk N C hC.head HN9.out HT.out.fanle T (bs fan t j) (AJ fan t M j) (KJ fan t M j) (off fan t j) (-1) wc HPre.out
  clear hC hM
  go_cut [18] from 126 to 129 (fun s18 wx => s18 = .pointer (some ⟨x.LV T, bs fan t j T * 6, none⟩) ∧ Pl fan t M B w x lk N D WB cc XB (j + 1) j j j wx)
  case first =>
    go_wp2_with (go_at_call 53; refine GA.mono ?_; rintro e w2 ⟨rfl, hG2, hK2⟩)
    have HG2 : Hid (Gst x lk N C (bs fan t (j + 1)) (AJ fan t M (j + 1)) (KJ fan t M (j + 1)) w2) := by
      have h := hG2
      rw [HTj.out, doneG_root, AJ_succ, KJ_succ] at h
      exact h
    have HK2 := hid hK2
    clear hG2 hK2
    go_meet
    case rel => exact ⟨rfl, C, X, V0, V1, HC.out, HM.out.grow HG2.out HK2.out⟩
  case rest =>
    obtain ⟨rfl, h⟩ := hcut
    exact HK.out _ _ _ _ _ h

end Go.Proofs.Qxb6609507a.U

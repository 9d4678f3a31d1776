import Derived.Test.Qxb6609507aMake2
import Derived.Test.Qxb6609507aMake
import Derived.Test.Qxb6609507aBody0
import Derived.Deep.CutBlock
import Derived.Deep.RegionWith
import Derived.Deep.RegionLaw
import Derived.Deep.RegionHeld3
namespace Go.Proofs.Qxb6609507a.U
open Go.RowKit Go.Proofs.Qxb6609507a.Plain
set_option linter.unusedVariables false
set_option linter.unusedSimpArgs false

set_option maxRecDepth 100000 in
set_option maxHeartbeats 8000000 in
theorem gfL3 (g p s n : Nat) (a0 : Option Addr) (M c0' : Nat) {B : Nat} {w : World} {N : Nat → Nat} {lk : Bool} {TB FV LB FF KB : Nat} {LV LK : Nat → Nat} {D WB cc : Nat → Nat} {XB : Nat → Nat → Nat} {C KT : Nat → Value}  (wc : World) (K : Act → World → Prop) (Q : Exit → Act → World → Prop) (c0 c2 c4 c6 c8 c9 c10 c11 c13 c14 c15 c16 c17 c18 c19 c20 c21 c22 c23 c24 c25 c26 c27 c28 c29 c30 c31 c32 c33 c34 c35 c36 c37 c38 c39 c40 c41 c42 c43 c44 c45 c46 c47 c48 c49 c50 c51 c52 c53 c54 c55 c56 c57 c58 c59 c60 c61 c62 c63 c64 c65 c66 c67 c68 c69 c70 c71 c72 c73 c74 c75 c76 c77 c78 c79 c80 c81 c82 c83 c84 c85 c86 c87 c88 c89 c90 c91 c92 c93 c94 c95 c96 c97 c98 c99 c100 c101 c102 c103 c104 c105 c106 c107 c108 c109 c110 c111 c112 c113 c114 c115 c116 c117 c118 c119 c120 c121 c122 c123 c124 c125 c126 c127 c128 c129 c130 c131 c132 c133 c134 c135 c136 c137 c138 c139 c140 c141 c142 c143 c144 c145 c146 c147 c148 c149 c150 c151 c152 c153 c154 c155 c156 c157 c158 c159 c160 c161 c162 c163 c164 c165 c166 c167 c168 c169 c170 c171 c172 c173 c174 c175 c176 c177 c178 c179 c180 c181 c182 c183 c184 c185 c186 c187 c188 c189 c190 c191 c192 c193 c194 c195 c196 c197 c198 c199 c200 c201 c202 c203 c204 c205 c206 : Value)
    (hS : Small g p s n) (hN9 : ∀ l, l < 5 → N l ≤ 65536) (hNf : ∀ l, l < 4 → N (l + 1) * fanOf g p s n (l + 1) ≤ 65536) (hM : MkM B w (topoF g p s n) N lk TB FV LB FF KB LV LK D WB XB 5 5 5 C KT wc)
    (hH : HdC (fanOf g p s n) N lk KB LV D WB cc XB 5 5 5 C)
    (hK : ∀ (C2 : Nat → Value) (u12 u92 u93 u94 u95 u96 u97 u98 u99 u100 u101 u102 u103 u104 u105 u106 u107 u108 u109 u110 u111 u112 u113 u114 u115 u116 u117 u118 : Value) (wx : World), HdC (fanOf g p s n) N lk KB LV D WB cc XB 5 5 5 C2 → (∀ i, i < 4 → C2 (23 + i) = .int .i32 (N (i + 1) * fanOf g p s n (i + 1) : Nat)) → MkM B w (topoF g p s n) N lk TB FV LB FF KB LV LK D WB XB 5 5 5 C2 KT wx → K ⟨(c0 :: .slice a0 M c0' :: c2 :: .pointer (some ⟨TB, 0, none⟩) :: c4 :: .pointer (some ⟨LB, 0, none⟩) :: c6 :: .pointer (some ⟨FV, 0, none⟩) :: c8 :: c9 :: c10 :: c11 :: u12 :: c13 :: c14 :: c15 :: c16 :: c17 :: c18 :: c19 :: c20 :: c21 :: c22 :: c23 :: c24 :: c25 :: c26 :: c27 :: c28 :: c29 :: c30 :: c31 :: c32 :: c33 :: c34 :: c35 :: c36 :: c37 :: c38 :: c39 :: c40 :: c41 :: c42 :: c43 :: c44 :: c45 :: c46 :: c47 :: c48 :: c49 :: c50 :: c51 :: c52 :: c53 :: c54 :: c55 :: c56 :: c57 :: c58 :: c59 :: c60 :: c61 :: c62 :: c63 :: c64 :: c65 :: c66 :: c67 :: c68 :: c69 :: c70 :: c71 :: c72 :: c73 :: c74 :: c75 :: c76 :: c77 :: c78 :: c79 :: c80 :: c81 :: c82 :: c83 :: c84 :: c85 :: c86 :: c87 :: c88 :: c89 :: c90 :: c91 :: u92 :: u93 :: u94 :: u95 :: u96 :: u97 :: u98 :: u99 :: u100 :: u101 :: u102 :: u103 :: u104 :: u105 :: u106 :: u107 :: u108 :: u109 :: u110 :: u111 :: u112 :: u113 :: u114 :: u115 :: u116 :: u117 :: u118 :: c119 :: c120 :: c121 :: c122 :: c123 :: c124 :: c125 :: c126 :: c127 :: c128 :: c129 :: c130 :: c131 :: c132 :: c133 :: c134 :: c135 :: c136 :: c137 :: c138 :: c139 :: c140 :: c141 :: c142 :: c143 :: c144 :: c145 :: c146 :: c147 :: c148 :: c149 :: c150 :: c151 :: c152 :: c153 :: c154 :: c155 :: c156 :: c157 :: c158 :: c159 :: c160 :: c161 :: c162 :: c163 :: c164 :: c165 :: c166 :: c167 :: c168 :: c169 :: c170 :: c171 :: c172 :: c173 :: c174 :: c175 :: c176 :: c177 :: c178 :: c179 :: c180 :: c181 :: c182 :: c183 :: c184 :: c185 :: c186 :: c187 :: c188 :: c189 :: c190 :: c191 :: c192 :: c193 :: c194 :: c195 :: c196 :: c197 :: c198 :: c199 :: c200 :: c201 :: c202 :: c203 :: c204 :: c205 :: c206 :: [] : List Value).toArray, []⟩ wx) :
    Code.wp Try.prog ((Try.f35.body.bind (blockAt 4)).getD .skip) (Exit.then K (NoPanic Q)) ⟨(c0 :: .slice a0 M c0' :: c2 :: .pointer (some ⟨TB, 0, none⟩) :: c4 :: .pointer (some ⟨LB, 0, none⟩) :: c6 :: .pointer (some ⟨FV, 0, none⟩) :: c8 :: c9 :: c10 :: c11 :: .int .i8 0 :: c13 :: c14 :: c15 :: c16 :: c17 :: c18 :: c19 :: c20 :: c21 :: c22 :: c23 :: c24 :: c25 :: c26 :: c27 :: c28 :: c29 :: c30 :: c31 :: c32 :: c33 :: c34 :: c35 :: c36 :: c37 :: c38 :: c39 :: c40 :: c41 :: c42 :: c43 :: c44 :: c45 :: c46 :: c47 :: c48 :: c49 :: c50 :: c51 :: c52 :: c53 :: c54 :: c55 :: c56 :: c57 :: c58 :: c59 :: c60 :: c61 :: c62 :: c63 :: c64 :: c65 :: c66 :: c67 :: c68 :: c69 :: c70 :: c71 :: c72 :: c73 :: c74 :: c75 :: c76 :: c77 :: c78 :: c79 :: c80 :: c81 :: c82 :: c83 :: c84 :: c85 :: c86 :: c87 :: c88 :: c89 :: c90 :: c91 :: c92 :: c93 :: c94 :: c95 :: c96 :: c97 :: c98 :: c99 :: c100 :: c101 :: c102 :: c103 :: c104 :: c105 :: c106 :: c107 :: c108 :: c109 :: c110 :: c111 :: c112 :: c113 :: c114 :: c115 :: c116 :: c117 :: c118 :: c119 :: c120 :: c121 :: c122 :: c123 :: c124 :: c125 :: c126 :: c127 :: c128 :: c129 :: c130 :: c131 :: c132 :: c133 :: c134 :: c135 :: c136 :: c137 :: c138 :: c139 :: c140 :: c141 :: c142 :: c143 :: c144 :: c145 :: c146 :: c147 :: c148 :: c149 :: c150 :: c151 :: c152 :: c153 :: c154 :: c155 :: c156 :: c157 :: c158 :: c159 :: c160 :: c161 :: c162 :: c163 :: c164 :: c165 :: c166 :: c167 :: c168 :: c169 :: c170 :: c171 :: c172 :: c173 :: c174 :: c175 :: c176 :: c177 :: c178 :: c179 :: c180 :: c181 :: c182 :: c183 :: c184 :: c185 :: c186 :: c187 :: c188 :: c189 :: c190 :: c191 :: c192 :: c193 :: c194 :: c195 :: c196 :: c197 :: c198 :: c199 :: c200 :: c201 :: c202 :: c203 :: c204 :: c205 :: c206 :: [] : List Value).toArray, []⟩ wc := by
  have HK : Hid _ := hK
  clear hK
  conv => arg 2; whnf
  have HM := hid hM
  have HH := hid hH
  have HS := hid hS
  have HN9 := hid hN9
  have HNf := hid hNf
  clear hM hH hS hN9 hNf
  go_cut [] from 92 to 118 (fun wx => ∃ C2, HdC (fanOf g p s n) N lk KB LV D WB cc XB 5 5 5 C2 ∧ (∀ i, i < 4 → C2 (23 + i) = .int .i32 (N (i + 1) * fanOf g p s n (i + 1) : Nat)) ∧ MkM B w (topoF g p s n) N lk TB FV LB FF KB LV LK D WB XB 5 5 5 C2 KT wx)
  case first =>
    go_wp2_with fail
    go_loopg [12] 4 (fun gk s12 wr => ∃ (l : Nat) (C2 : Nat → Value), gk = 4 - l ∧ l ≤ 4 ∧ s12 = .int .i8 (l : Nat) ∧ HdC (fanOf g p s n) N lk KB LV D WB cc XB 5 5 5 C2 ∧ (∀ i, i < l → C2 (23 + i) = .int .i32 (N (i + 1) * fanOf g p s n (i + 1) : Nat)) ∧ MkM B w (topoF g p s n) N lk TB FV LB FF KB LV LK D WB XB 5 5 5 C2 KT wr)
    case atStart => exact ⟨0, C, rfl, by omega, rfl, HH.out, fun i hi => absurd hi (by omega), HM.out⟩
    case round =>
      obtain ⟨l, C1, rfl, hl4, rfl, hH, hI, hM⟩ := hrel
      have HH1 := hid hH
      have HM1 := hid hM
      have HI1 := hid hI
      by_cases hl : l < 4
      · obtain ⟨n1, hn1⟩ : ∃ n1, n1 = N (l + 1) := ⟨_, rfl⟩
        obtain ⟨f1, hf1⟩ : ∃ f1, f1 = fanOf g p s n (l + 1) := ⟨_, rfl⟩
        obtain ⟨m1, hm1⟩ : ∃ m1, m1 = n1 * f1 := ⟨_, rfl⟩
        obtain ⟨l1, hl1⟩ : ∃ l1, l1 = l + 1 := ⟨_, rfl⟩
        have hn19 : n1 ≤ 65536 := by rw [hn1]; exact HN9.out (l + 1) (by omega)
        have hm19 : m1 ≤ 65536 := by rw [hm1, hn1, hf1]; exact HNf.out l hl
        have hmul : ((n1 : Nat) : Int) * ((f1 : Nat) : Int) = (m1 : Int) := by rw [hm1, Int.natCast_mul]
        have y0 : IntKind.i8.wrap (((l : Nat) : Int) + 1) = (l1 : Int) := by rw [wrap_i8 (by omega) (by omega)]; omega
        have y1 : IntKind.i32.wrap ((n1 : Nat) : Int) = (n1 : Int) := wrap_i32 (by omega) (by omega)
        have y2 : IntKind.i32.wrap ((m1 : Nat) : Int) = (m1 : Int) := wrap_i32 (by omega) (by omega)
        have hl5' : ((l : Nat) : Int) < 5 := by omega
        have hl15 : ((l1 : Nat) : Int) < 5 := by omega
        have hl16 : ((l1 : Nat) : Int) < 6 := by omega
        have cf : wr.cell? ⟨FV, 0, none⟩ = some (.pointer (some ⟨FF, 0, none⟩)) := hM.fv.cell (i := 0) (by omega)
        have r1 : wr.cell? ⟨FF, 2 + l1, none⟩ = some (.slice (some ⟨LV l1, 0, none⟩) n1 n1) := by rw [hn1, ← hl1]; exact (hM.ff.cell (by omega)).trans (congrArg some (hH.lv l1 (by omega)))
        have r2 : wr.cell? ⟨FF, 33 + l1, none⟩ = some (.int .i32 (f1 : Nat)) := by rw [hf1, ← hl1]; exact (hM.ff.cell (by omega)).trans (congrArg some (hH.fn l1 (by omega)))
        have r3 : wr.cell? ⟨FF, 23 + l, none⟩ = some (C1 (23 + l)) := hM.ff.cell (by omega)
        have fz := hM.ff.frozen
        have ks : ∀ v : Value, (wr.setCell ⟨FF, 23 + l, none⟩ v).cell? ⟨FV, 0, none⟩ = some (.pointer (some ⟨FF, 0, none⟩)) ∧ (wr.setCell ⟨FF, 23 + l, none⟩ v).cell? ⟨FF, 2 + l1, none⟩ = some (.slice (some ⟨LV l1, 0, none⟩) n1 n1) ∧ (wr.setCell ⟨FF, 23 + l, none⟩ v).cell? ⟨FF, 33 + l1, none⟩ = some (.int .i32 (f1 : Nat)) := fun v => by
          refine ⟨(hM.set (23 + l) v).fv.cell (i := 0) (by omega), ?_, ?_⟩
          · exact ((hM.set (23 + l) v).ff.cell (by omega)).trans (congrArg some (by rw [updC_ne _ _ (by omega), hn1, ← hl1]; exact hH.lv l1 (by omega)))
          · exact ((hM.set (23 + l) v).ff.cell (by omega)).trans (congrArg some (by rw [updC_ne _ _ (by omega), hf1, ← hl1]; exact hH.fn l1 (by omega)))
        have HE : Hid (m1 = N (l + 1) * fanOf g p s n (l + 1)) := by show m1 = _; rw [hm1, hn1, hf1]
        have Hl1 := hid hl1
        clear hM hH hI hn1 hf1 hm1 hl1
        obtain ⟨wo, hwo⟩ : ∃ wo, wo = wr := ⟨_, rfl⟩
        subst hwo
        go_upto_block 5 with fail
        go_cut [] from 92 to 118 (fun wx => ∃ C2, HdC (fanOf g p s n) N lk KB LV D WB cc XB 5 5 5 C2 ∧ (∀ i, i < (l + 1) → C2 (23 + i) = .int .i32 (N (i + 1) * fanOf g p s n (i + 1) : Nat)) ∧ MkM B w (topoF g p s n) N lk TB FV LB FF KB LV LK D WB XB 5 5 5 C2 KT wx)
        case first =>
          go_wp2_with fail
          go_region_held3 (fun w' => w'.cell? ⟨FV, 0, none⟩ = some (.pointer (some ⟨FF, 0, none⟩)) ∧ w'.cell? ⟨FF, 2 + l1, none⟩ = some (.slice (some ⟨LV l1, 0, none⟩) n1 n1) ∧ w'.cell? ⟨FF, 33 + l1, none⟩ = some (.int .i32 (f1 : Nat))) ((first | exact ⟨cf, r1, r2⟩ | exact ks _)) (fail)
          all_goals
            go_wp2
            go_meet
            case rel =>
              refine ⟨_, HH1.out.inner (by omega) (by omega) (by omega) hl (.int .i32 (m1 : Nat)), ?_, (HM1.out.set (23 + l) _).keeps ((Keeps.refl _ _).drew)⟩
              intro i hi
              by_cases e : i = l
              · subst e; rw [updC_at, HE.out]
              · rw [updC_ne _ _ (by omega)]; exact HI1.out i (by omega)
        case rest =>
          obtain ⟨C2, h1, h2, h3⟩ := hcut
          have HH2 := hid h1
          have HI2 := hid h2
          have HM2 := hid h3
          clear h1 h2 h3 cf r1 r2 r3 fz ks
          go_wp2
          go_roundg (4 - (l + 1))
          case measure => omega
          case rel => exact ⟨l + 1, C2, rfl, by omega, by first | rw [Hl1.out] | go_num, HH2.out, HI2.out, HM2.out⟩
      · have e : l = 4 := by omega
        clear hM hH hI
        go_wp2
        go_meet
        case rel =>
          have h1 := HH1.out
          have h2 := HM1.out
          have h3 := HI1.out
          subst e
          exact ⟨C1, h1, h3, h2⟩
  case rest =>
    obtain ⟨C2, h1, h2, h3⟩ := hcut
    exact HK.out _ _ _ _ _ _ _ _ _ _ _ _ _ _ _ _ _ _ _ _ _ _ _ _ _ _ _ _ _ _ h1 h2 h3

end Go.Proofs.Qxb6609507a.U

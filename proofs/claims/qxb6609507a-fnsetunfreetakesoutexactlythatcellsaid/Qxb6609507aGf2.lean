import Derived.Test.Qxb6609507aMake
import Derived.Test.Qxb6609507aBody0
import Derived.Deep.CutBlock
import Derived.Deep.RegionWith
import Derived.Deep.RegionLaw
import Derived.Deep.RegionHeld3
namespace Go.Proofs.Qxb6609507a.U
open Go.RowKit Go.Proofs.Qxb6609507a.Plain
set_option linter.unusedVariables false
set_option linter.unusedSimpArgs false

set_option maxRecDepth 100000 in
set_option maxHeartbeats 8000000 in
theorem gf2 (g p s n : Nat) (a0 : Option Addr) (M c0' : Nat) {B : Nat} {w : World} {N : Nat → Nat} {lk : Bool} {TB FV LB FF KB : Nat} {LV LK : Nat → Nat} {D WB cc : Nat → Nat} {XB : Nat → Nat → Nat} {C KT : Nat → Value} (t : Nat → Nat) (l b c d : Nat) (wc : World) (K : Act → World → Prop) (Q : Exit → Act → World → Prop) (c0 c2 c4 c6 c10 c11 c12 c13 c14 c15 c16 c17 c18 c19 c20 c21 c22 c23 c24 c25 c26 c27 c28 c29 c30 c31 c32 c33 c34 c35 c36 c37 c38 c39 c40 c41 c42 c43 c44 c45 c46 c47 c48 c52 c53 c54 c55 c56 c57 c58 c59 c60 c61 c62 c63 c64 c65 c66 c67 c68 c69 c70 c71 c72 c73 c74 c75 c76 c77 c78 c79 c80 c81 c82 c83 c84 c85 c86 c87 c88 c89 c90 c91 c92 c93 c94 c95 c96 c97 c98 c99 c100 c101 c102 c103 c104 c105 c106 c107 c108 c109 c110 c111 c112 c113 c114 c115 c116 c117 c118 c119 c120 c121 c122 c123 c124 c125 c126 c127 c128 c129 c130 c131 c132 c133 c134 c135 c136 c137 c138 c139 c140 c141 c142 c143 c144 c145 c146 c147 c148 c149 c150 c151 c152 c153 c154 c155 c156 c157 c158 c159 c160 c161 c162 c163 c164 c165 c166 c167 c168 c169 c170 c171 c172 c173 c174 c175 c176 c177 c178 c179 c180 c181 c182 c183 c184 c185 c186 c187 c188 c189 c190 c191 c192 c193 c194 c195 c196 c197 c198 c199 c200 c201 c202 c203 c204 c205 c206 : Value)
    (hS : Small g p s n) (hl : l < 5) (hT : Trees (fanOf g p s n) t M) (hTo : Tops w a0 M (fun i => (t i : Int))) (hB : B = w.heap.size) (hNl : N l = bs (fanOf g p s n) t M l) (hM : MkM B w (topoF g p s n) N lk TB FV LB FF KB LV LK D WB XB b c d C KT wc)
    (hK : ∀ (u11 u51 u52 u53 u54 u55 u56 u57 u58 u59 u60 u61 u62 u63 u64 u65 u66 u67 : Value) (wx : World), MkM B w (topoF g p s n) N lk TB FV LB FF KB LV LK D WB XB b c d C KT wx → K ⟨(c0 :: .slice a0 M c0' :: c2 :: .pointer (some ⟨TB, 0, none⟩) :: c4 :: .pointer (some ⟨LB, 0, none⟩) :: c6 :: .pointer (some ⟨FV, 0, none⟩) :: .int .i8 (l : Nat) :: .int .i64 (N l : Nat) :: c10 :: u11 :: c12 :: c13 :: c14 :: c15 :: c16 :: c17 :: c18 :: c19 :: c20 :: c21 :: c22 :: c23 :: c24 :: c25 :: c26 :: c27 :: c28 :: c29 :: c30 :: c31 :: c32 :: c33 :: c34 :: c35 :: c36 :: c37 :: c38 :: c39 :: c40 :: c41 :: c42 :: c43 :: c44 :: c45 :: c46 :: c47 :: c48 :: .slice a0 M c0' :: .int .i64 (M : Nat) :: u51 :: u52 :: u53 :: u54 :: u55 :: u56 :: u57 :: u58 :: u59 :: u60 :: u61 :: u62 :: u63 :: u64 :: u65 :: u66 :: u67 :: c68 :: c69 :: c70 :: c71 :: c72 :: c73 :: c74 :: c75 :: c76 :: c77 :: c78 :: c79 :: c80 :: c81 :: c82 :: c83 :: c84 :: c85 :: c86 :: c87 :: c88 :: c89 :: c90 :: c91 :: c92 :: c93 :: c94 :: c95 :: c96 :: c97 :: c98 :: c99 :: c100 :: c101 :: c102 :: c103 :: c104 :: c105 :: c106 :: c107 :: c108 :: c109 :: c110 :: c111 :: c112 :: c113 :: c114 :: c115 :: c116 :: c117 :: c118 :: c119 :: c120 :: c121 :: c122 :: c123 :: c124 :: c125 :: c126 :: c127 :: c128 :: c129 :: c130 :: c131 :: c132 :: c133 :: c134 :: c135 :: c136 :: c137 :: c138 :: c139 :: c140 :: c141 :: c142 :: c143 :: c144 :: c145 :: c146 :: c147 :: c148 :: c149 :: c150 :: c151 :: c152 :: c153 :: c154 :: c155 :: c156 :: c157 :: c158 :: c159 :: c160 :: c161 :: c162 :: c163 :: c164 :: c165 :: c166 :: c167 :: c168 :: c169 :: c170 :: c171 :: c172 :: c173 :: c174 :: c175 :: c176 :: c177 :: c178 :: c179 :: c180 :: c181 :: c182 :: c183 :: c184 :: c185 :: c186 :: c187 :: c188 :: c189 :: c190 :: c191 :: c192 :: c193 :: c194 :: c195 :: c196 :: c197 :: c198 :: c199 :: c200 :: c201 :: c202 :: c203 :: c204 :: c205 :: c206 :: [] : List Value).toArray, []⟩ wx) :
    Code.wp Try.prog ((Try.f35.body.bind (blockAt 2)).getD .skip) (Exit.then K (NoPanic Q)) ⟨(c0 :: .slice a0 M c0' :: c2 :: .pointer (some ⟨TB, 0, none⟩) :: c4 :: .pointer (some ⟨LB, 0, none⟩) :: c6 :: .pointer (some ⟨FV, 0, none⟩) :: .int .i8 (l : Nat) :: .int .i64 0 :: c10 :: c11 :: c12 :: c13 :: c14 :: c15 :: c16 :: c17 :: c18 :: c19 :: c20 :: c21 :: c22 :: c23 :: c24 :: c25 :: c26 :: c27 :: c28 :: c29 :: c30 :: c31 :: c32 :: c33 :: c34 :: c35 :: c36 :: c37 :: c38 :: c39 :: c40 :: c41 :: c42 :: c43 :: c44 :: c45 :: c46 :: c47 :: c48 :: .slice a0 M c0' :: .int .i64 (M : Nat) :: .int .i64 0 :: c52 :: c53 :: c54 :: c55 :: c56 :: c57 :: c58 :: c59 :: c60 :: c61 :: c62 :: c63 :: c64 :: c65 :: c66 :: c67 :: c68 :: c69 :: c70 :: c71 :: c72 :: c73 :: c74 :: c75 :: c76 :: c77 :: c78 :: c79 :: c80 :: c81 :: c82 :: c83 :: c84 :: c85 :: c86 :: c87 :: c88 :: c89 :: c90 :: c91 :: c92 :: c93 :: c94 :: c95 :: c96 :: c97 :: c98 :: c99 :: c100 :: c101 :: c102 :: c103 :: c104 :: c105 :: c106 :: c107 :: c108 :: c109 :: c110 :: c111 :: c112 :: c113 :: c114 :: c115 :: c116 :: c117 :: c118 :: c119 :: c120 :: c121 :: c122 :: c123 :: c124 :: c125 :: c126 :: c127 :: c128 :: c129 :: c130 :: c131 :: c132 :: c133 :: c134 :: c135 :: c136 :: c137 :: c138 :: c139 :: c140 :: c141 :: c142 :: c143 :: c144 :: c145 :: c146 :: c147 :: c148 :: c149 :: c150 :: c151 :: c152 :: c153 :: c154 :: c155 :: c156 :: c157 :: c158 :: c159 :: c160 :: c161 :: c162 :: c163 :: c164 :: c165 :: c166 :: c167 :: c168 :: c169 :: c170 :: c171 :: c172 :: c173 :: c174 :: c175 :: c176 :: c177 :: c178 :: c179 :: c180 :: c181 :: c182 :: c183 :: c184 :: c185 :: c186 :: c187 :: c188 :: c189 :: c190 :: c191 :: c192 :: c193 :: c194 :: c195 :: c196 :: c197 :: c198 :: c199 :: c200 :: c201 :: c202 :: c203 :: c204 :: c205 :: c206 :: [] : List Value).toArray, []⟩ wc := by
  have HK : Hid _ := hK
  clear hK
  conv => arg 2; whnf
  have HM := hid hM
  have HT := hid hT
  have HTo := hid hTo
  have HNl := hid hNl
  have HS := hid hS
  have hM9 := hT.few
  clear hM hT hTo hNl hS
  go_cut [9] from 51 to 67 (fun s9 wx => s9 = .int .i64 (N l : Nat) ∧ MkM B w (topoF g p s n) N lk TB FV LB FF KB LV LK D WB XB b c d C KT wx)
  case first =>
    go_wp2_with fail
    go_loopg [9, 51] M (fun gk s9 s51 wr => ∃ j : Nat, gk = M - j ∧ j ≤ M ∧ s9 = .int .i64 (bs (fanOf g p s n) t j l : Nat) ∧ s51 = .int .i64 (j : Nat) ∧ MkM B w (topoF g p s n) N lk TB FV LB FF KB LV LK D WB XB b c d C KT wr)
    case atStart => exact ⟨0, rfl, Nat.zero_le _, rfl, rfl, HM.out⟩
    case round =>
      obtain ⟨j, rfl, hj, rfl, rfl, hM⟩ := hrel
      have HM2 := hid hM
      by_cases hlt : j < M
      · obtain ⟨tb, ob, rfl, htb, htc⟩ := HTo.out (by omega)
        obtain ⟨T, hTj⟩ : ∃ T, T = t j := ⟨_, rfl⟩
        obtain ⟨bj, hbj⟩ : ∃ bj, bj = bs (fanOf g p s n) t j l := ⟨_, rfl⟩
        have ct : wr.cell? ⟨tb, ob + j, none⟩ = some (.int .i8 (T : Nat)) := by
          rw [hTj]; exact (hM.below.cell (by show tb < B; omega)).trans (htc j hlt)
        have hT4 : T ≤ 4 := by rw [hTj]; exact HT.out.top j hlt
        have hbj9 : bj ≤ 65536 := by
          rw [hbj]
          have h1 := bs_le_off (fan := fanOf g p s n) (t := t) l j
          have h2 := off_mono (fan := fanOf g p s n) (t := t) hj
          have h3 := HT.out.all
          omega
        have hT5 : ((T : Nat) : Int) < 5 := by omega
        have hl5 : ((l : Nat) : Int) < 5 := by omega
        have t0 : wr.cell? ⟨TB, 0, none⟩ = some (.int .i64 g) := hM.tb.cell (i := 0) (by omega)
        have t1 : wr.cell? ⟨TB, 1, none⟩ = some (.int .i64 p) := hM.tb.cell (i := 1) (by omega)
        have t2 : wr.cell? ⟨TB, 2, none⟩ = some (.int .i64 s) := hM.tb.cell (i := 2) (by omega)
        have t3 : wr.cell? ⟨TB, 3, none⟩ = some (.int .i64 n) := hM.tb.cell (i := 3) (by omega)
        have k0 : ∀ w', Keeps (fun b => b = FF) wr w' → w'.cell? ⟨TB, 0, none⟩ = some (.int .i64 g) := fun w' k => hM.tb.cellF hM.ff (by decide) (i := 0) (by omega) rfl k
        have k1 : ∀ w', Keeps (fun b => b = FF) wr w' → w'.cell? ⟨TB, 1, none⟩ = some (.int .i64 p) := fun w' k => hM.tb.cellF hM.ff (by decide) (i := 1) (by omega) rfl k
        have k2 : ∀ w', Keeps (fun b => b = FF) wr w' → w'.cell? ⟨TB, 2, none⟩ = some (.int .i64 s) := fun w' k => hM.tb.cellF hM.ff (by decide) (i := 2) (by omega) rfl k
        have k3 : ∀ w', Keeps (fun b => b = FF) wr w' → w'.cell? ⟨TB, 3, none⟩ = some (.int .i64 n) := fun w' k => hM.tb.cellF hM.ff (by decide) (i := 3) (by omega) rfl k
        have HTj := hid hTj
        have Hbj := hid hbj
        clear hM htc hTj
        rw [← hbj]
        clear hbj
        obtain ⟨wo, hwo⟩ : ∃ wo, wo = wr := ⟨_, rfl⟩
        subst hwo
        go_upto_block 3 with fail
        go_cut [9] from 52 to 67 (fun s9 wx => s9 = .int .i64 (bs (fanOf g p s n) t (j + 1) l : Nat) ∧ MkM B w (topoF g p s n) N lk TB FV LB FF KB LV LK D WB XB b c d C KT wx)
        case first =>
          by_cases hge : l ≤ T
          · obtain ⟨q, hq⟩ : ∃ q, q = cn (fanOf g p s n) T l := ⟨_, rfl⟩
            have hpT : Pos (fanOf g p s n) T := by rw [HTj.out]; exact HT.out.pos j hlt
            have hzl0 : 0 < sz (fanOf g p s n) l := sz_pos l (hpT.mono hge)
            have hzT9 : sz (fanOf g p s n) T ≤ 2147483647 := HS.out.sz_le T (by omega)
            have hdiv : ((sz (fanOf g p s n) T : Nat) : Int) / ((sz (fanOf g p s n) l : Nat) : Int) = (q : Int) := by
              rw [hq, ← Int.natCast_ediv]; unfold cn; rw [if_pos hge]
            have hq9 : q ≤ sz (fanOf g p s n) T := by
              rw [hq]; exact cn_le
            have hnz : (((sz (fanOf g p s n) l : Nat) : Int) == 0) = false := beqF (b := 0) (by omega)
            have y1 : IntKind.i64.wrap ((q : Nat) : Int) = (q : Int) := wrap_i64 (by omega) (by omega)
            have y3 : wrap64 ((q : Nat) : Int) = (q : Int) := wrap64_nat (Nat.le_trans hq9 hzT9)
            have y2 : IntKind.i64.wrap (((bj : Nat) : Int) + ((q : Nat) : Int)) = ((bj : Nat) : Int) + ((q : Nat) : Int) := wrap_sum hbj9 (Nat.le_trans hq9 hzT9)
            have HE : Hid (bs (fanOf g p s n) t (j + 1) l = bj + q) := by
              show bs (fanOf g p s n) t j l + cn (fanOf g p s n) (t j) l = _
              rw [Hbj.out, hq, HTj.out]
            have HTl : Hid (T < 5) := by show T < 5; omega
            have HLl : Hid (l < 5) := hl
            have CC : Hid (∀ (l' : Nat) (w : World), Hid (l' < 5) → Calls Try.prog 50 #[.agg #[.int .i64 g, .int .i64 p, .int .i64 s, .int .i64 n], .int .i8 l'] w fun e w' => e = .returned (.int .i64 (sz (fanOf g p s n) l')) ∧ w' = w.alloc (topoB g p s n)) := fun l' w h => size_any g p s n l' w HS.out h.out
            clear hq hpT
            go_wp2_with fail
            go_region_held (fun w' => w'.cell? ⟨TB, 0, none⟩ = some (.int .i64 g) ∧ w'.cell? ⟨TB, 1, none⟩ = some (.int .i64 p) ∧ w'.cell? ⟨TB, 2, none⟩ = some (.int .i64 s) ∧ w'.cell? ⟨TB, 3, none⟩ = some (.int .i64 n)) (((try dsimp only); (refine ⟨k0 _ ?_, k1 _ ?_, k2 _ ?_, k3 _ ?_⟩ <;> ((repeat (first | refine Keeps.drew ?_ | refine Keeps.drewN ?_ _ | refine Keeps.alloc ?_ _ | refine Keeps.setCell ?_ (by first | exact Or.inl rfl | exact Or.inl (Or.inl rfl) | exact Or.inl (Or.inr rfl)) _)); exact Keeps.refl _ _)))) (first | (go_at_call 50; refine (CC.out _ _ (by assumption)).mono ?_; rintro e w2 ⟨rfl, rfl⟩))
            all_goals
              go_wp2
              try rw [y3]
              go_meet
              case rel => exact ⟨by rw [HE.out, Int.natCast_add], HM2.out.keeps (by ((repeat (first | refine Keeps.drew ?_ | refine Keeps.drewN ?_ _ | refine Keeps.alloc ?_ _ | refine Keeps.setCell ?_ (by first | exact Or.inl rfl | exact Or.inl (Or.inl rfl) | exact Or.inl (Or.inr rfl)) _)); exact Keeps.refl _ _))⟩
          · have HE : Hid (bs (fanOf g p s n) t (j + 1) l = bj) := by
              show bs (fanOf g p s n) t j l + cn (fanOf g p s n) (t j) l = _
              rw [cn_out (by rw [← HTj.out]; omega), Hbj.out]; rfl
            go_wp2
            go_meet
            case rel => exact ⟨by rw [HE.out], HM2.out⟩
        case rest =>
          obtain ⟨rfl, hM⟩ := hcut
          have HM3 := hid hM
          clear hM ct t0 t1 t2 t3 k0 k1 k2 k3
          go_wp2
          go_roundg (M - (j + 1))
          case measure => omega
          case rel => exact ⟨j + 1, rfl, by omega, rfl, by go_num, HM3.out⟩
      · have e : j = M := by omega
        clear hM
        go_wp2
        go_meet
        case rel => exact ⟨by rw [HNl.out, e], HM2.out⟩
  case rest =>
    obtain ⟨rfl, hM⟩ := hcut
    exact HK.out _ _ _ _ _ _ _ _ _ _ _ _ _ _ _ _ _ _ _ hM

end Go.Proofs.Qxb6609507a.U

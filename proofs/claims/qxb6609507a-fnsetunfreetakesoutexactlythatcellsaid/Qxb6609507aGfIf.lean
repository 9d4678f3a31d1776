import Derived.Test.Qxb6609507aPlant2
import Derived.Test.Qxb6609507aPlant
import Derived.Test.Qxb6609507aBody0
import Derived.Deep.CutBlock
import Derived.Deep.RegionWith
import Derived.Deep.RegionLaw
import Derived.Deep.RegionHeld3
import Derived.Deep.RegionHeldLaw
namespace Go.Proofs.Qxb6609507a.U
open Go.RowKit Go.Proofs.Qxb6609507a.Plain
set_option linter.unusedVariables false
set_option linter.unusedSimpArgs false

set_option maxRecDepth 100000 in
set_option maxHeartbeats 8000000 in
theorem gfIf (fan t : Nat → Nat) (M : Nat) (a0 : Option Addr) (c0' : Nat) {B : Nat} {w : World} {x : Blk} {lk : Bool} {N D WB cc : Nat → Nat} {XB : Nat → Nat → Nat} (j T : Nat) (R : Nat) (q : Int) (wc : World) (K : Act → World → Prop) (Q : Exit → Act → World → Prop) (c0 c2 c3 c4 c5 c6 c8 c9 c10 c11 c12 c16 c20 c21 c22 c23 c24 c25 c26 c27 c28 c29 c30 c31 c32 c33 c34 c35 c36 c37 c38 c39 c40 c41 c42 c43 c44 c45 c46 c47 c48 c49 c50 c51 c52 c53 c54 c55 c56 c57 c58 c59 c60 c61 c62 c63 c64 c65 c66 c67 c68 c69 c70 c71 c72 c73 c74 c75 c76 c77 c78 c79 c80 c81 c82 c83 c84 c85 c86 c87 c88 c89 c90 c91 c92 c93 c94 c95 c96 c97 c98 c99 c100 c101 c102 c103 c104 c105 c106 c107 c108 c109 c110 c111 c112 c113 c114 c115 c116 c117 c118 c119 c120 c121 c122 c123 c124 c125 c126 c127 c128 c129 c130 c131 c132 c133 c134 c135 c136 c137 c138 c139 c140 c141 c142 c143 c144 c145 c146 c147 c148 c149 c150 c151 c152 c153 c154 c155 c156 c157 c158 c159 c160 c161 c162 c163 c164 c165 c166 c167 c168 c170 c171 c172 c173 c174 c175 c176 c177 c178 c179 c180 c181 c182 c183 c184 c185 c186 c187 c188 c189 c190 c191 c192 c193 c194 c195 c196 c197 c198 c199 c200 c201 c202 c203 c204 c205 c206 : Value)
    (hT : Trees fan t M) (hj : j < M) (hTj : T = t j) (hN : ∀ l, l < 5 → N l = bs fan t M l)
    (hRl : R = (RL t j).length) (hq : ((R : Nat) : Int) - 1 = q)
    (hP : Pl fan t M B w x lk N D WB cc XB (j + 1) (j + 1) (j + 1) j wc)
    (hK : ∀ (u169 u170 u171 u172 u173 u174 u175 u176 u177 u178 u179 u180 u181 u182 u183 u184 u185 u186 u187 u188 u189 u190 u191 u192 u193 u194 u195 u196 : Value) (wx : World), Pl fan t M B w x lk N D WB cc XB (j + 1) (j + 1) (j + 1) (j + 1) wx → K ⟨(c0 :: .slice a0 M c0' :: c2 :: c3 :: c4 :: c5 :: c6 :: .pointer (some ⟨x.FV, 0, none⟩) :: c8 :: c9 :: c10 :: c11 :: c12 :: .pointer (some ⟨x.GB, 0, none⟩) :: .pointer (some ⟨x.GV, 0, none⟩) :: .int .i32 (off fan t j : Nat) :: c16 :: .int .i8 (T : Nat) :: .pointer (some ⟨x.LV T, bs fan t j T * 6, none⟩) :: .int .i64 q :: c20 :: c21 :: c22 :: c23 :: c24 :: c25 :: c26 :: c27 :: c28 :: c29 :: c30 :: c31 :: c32 :: c33 :: c34 :: c35 :: c36 :: c37 :: c38 :: c39 :: c40 :: c41 :: c42 :: c43 :: c44 :: c45 :: c46 :: c47 :: c48 :: c49 :: c50 :: c51 :: c52 :: c53 :: c54 :: c55 :: c56 :: c57 :: c58 :: c59 :: c60 :: c61 :: c62 :: c63 :: c64 :: c65 :: c66 :: c67 :: c68 :: c69 :: c70 :: c71 :: c72 :: c73 :: c74 :: c75 :: c76 :: c77 :: c78 :: c79 :: c80 :: c81 :: c82 :: c83 :: c84 :: c85 :: c86 :: c87 :: c88 :: c89 :: c90 :: c91 :: c92 :: c93 :: c94 :: c95 :: c96 :: c97 :: c98 :: c99 :: c100 :: c101 :: c102 :: c103 :: c104 :: c105 :: c106 :: c107 :: c108 :: c109 :: c110 :: c111 :: c112 :: c113 :: c114 :: c115 :: c116 :: c117 :: c118 :: c119 :: c120 :: c121 :: c122 :: c123 :: c124 :: c125 :: c126 :: c127 :: c128 :: c129 :: c130 :: c131 :: c132 :: c133 :: c134 :: c135 :: c136 :: c137 :: c138 :: c139 :: c140 :: c141 :: c142 :: c143 :: c144 :: c145 :: c146 :: c147 :: c148 :: c149 :: c150 :: c151 :: c152 :: c153 :: c154 :: c155 :: c156 :: c157 :: c158 :: c159 :: c160 :: c161 :: c162 :: c163 :: c164 :: c165 :: c166 :: c167 :: c168 :: u169 :: u170 :: u171 :: u172 :: u173 :: u174 :: u175 :: u176 :: u177 :: u178 :: u179 :: u180 :: u181 :: u182 :: u183 :: u184 :: u185 :: u186 :: u187 :: u188 :: u189 :: u190 :: u191 :: u192 :: u193 :: u194 :: u195 :: u196 :: c197 :: c198 :: c199 :: c200 :: c201 :: c202 :: c203 :: c204 :: c205 :: c206 :: [] : List Value).toArray, []⟩ wx) :
    Code.wp Try.prog ((Try.f35.body.bind (condAt 169)).getD .skip) (Exit.then K (NoPanic Q)) ⟨(c0 :: .slice a0 M c0' :: c2 :: c3 :: c4 :: c5 :: c6 :: .pointer (some ⟨x.FV, 0, none⟩) :: c8 :: c9 :: c10 :: c11 :: c12 :: .pointer (some ⟨x.GB, 0, none⟩) :: .pointer (some ⟨x.GV, 0, none⟩) :: .int .i32 (off fan t j : Nat) :: c16 :: .int .i8 (T : Nat) :: .pointer (some ⟨x.LV T, bs fan t j T * 6, none⟩) :: .int .i64 q :: c20 :: c21 :: c22 :: c23 :: c24 :: c25 :: c26 :: c27 :: c28 :: c29 :: c30 :: c31 :: c32 :: c33 :: c34 :: c35 :: c36 :: c37 :: c38 :: c39 :: c40 :: c41 :: c42 :: c43 :: c44 :: c45 :: c46 :: c47 :: c48 :: c49 :: c50 :: c51 :: c52 :: c53 :: c54 :: c55 :: c56 :: c57 :: c58 :: c59 :: c60 :: c61 :: c62 :: c63 :: c64 :: c65 :: c66 :: c67 :: c68 :: c69 :: c70 :: c71 :: c72 :: c73 :: c74 :: c75 :: c76 :: c77 :: c78 :: c79 :: c80 :: c81 :: c82 :: c83 :: c84 :: c85 :: c86 :: c87 :: c88 :: c89 :: c90 :: c91 :: c92 :: c93 :: c94 :: c95 :: c96 :: c97 :: c98 :: c99 :: c100 :: c101 :: c102 :: c103 :: c104 :: c105 :: c106 :: c107 :: c108 :: c109 :: c110 :: c111 :: c112 :: c113 :: c114 :: c115 :: c116 :: c117 :: c118 :: c119 :: c120 :: c121 :: c122 :: c123 :: c124 :: c125 :: c126 :: c127 :: c128 :: c129 :: c130 :: c131 :: c132 :: c133 :: c134 :: c135 :: c136 :: c137 :: c138 :: c139 :: c140 :: c141 :: c142 :: c143 :: c144 :: c145 :: c146 :: c147 :: c148 :: c149 :: c150 :: c151 :: c152 :: c153 :: c154 :: c155 :: c156 :: c157 :: c158 :: c159 :: c160 :: c161 :: c162 :: c163 :: c164 :: c165 :: c166 :: c167 :: c168 :: .bool (cont t j) :: c170 :: c171 :: c172 :: c173 :: c174 :: c175 :: c176 :: c177 :: c178 :: c179 :: c180 :: c181 :: c182 :: c183 :: c184 :: c185 :: c186 :: c187 :: c188 :: c189 :: c190 :: c191 :: c192 :: c193 :: c194 :: c195 :: c196 :: c197 :: c198 :: c199 :: c200 :: c201 :: c202 :: c203 :: c204 :: c205 :: c206 :: [] : List Value).toArray, []⟩ wc := by
  have HK : Hid _ := hK
  have HT := hid hT
  have HTj := hid hTj
  have HN := hid hN
  have hM9 := hT.few
  have hT4 : T ≤ 4 := by rw [hTj]; exact hT.top j hj
  have hT5 : ((T : Nat) : Int) < 5 := by omega
  have hoff : off fan t j ≤ 65536 := Nat.le_trans (off_mono (by omega)) hT.all
  have hbM : ∀ l, bs fan t M l ≤ 65536 := fun l => Nat.le_trans (bs_le_off l M) hT.all
  have hgN : bs fan t j T < N T := by
    rw [hN T (by omega)]
    have h1 := bs_mono (fan := fan) (t := t) (show j + 1 ≤ M by omega) T
    have h2 : bs fan t (j + 1) T = bs fan t j T + 1 := by
      show bs fan t j T + cn fan (t j) T = _
      rw [hTj, cn_self (hT.pos j hj)]
    omega
  have hN9 : ∀ l, l < 5 → N l ≤ 65536 := fun l hl => by rw [hN l hl]; exact hbM l
  have HN9 := hid hN9
  have hg9 : bs fan t j T ≤ 65536 := by have := hN9 T (by omega); omega
  clear hK hT hN hTj hbM hN9
  conv => arg 2; whnf
  obtain ⟨gq, hgq⟩ : ∃ gq, gq = bs fan t j T := ⟨_, rfl⟩
  have Hgq := hid hgq
  rw [← hgq]
  obtain ⟨C, X, V0, V1, hC, hM⟩ := hP
  have HC := hid hC
  have HM := hid hM
  have cf : wc.cell? ⟨x.FV, 0, none⟩ = some (.pointer (some ⟨x.FF, 0, none⟩)) := hM.base.st.fv.cell (i := 0) (by omega)
  have c1x : wc.cell? ⟨x.FF, 1, none⟩ = some V1 := (hM.base.st.ff.cell (i := 1) (by omega)).trans (congrArg some hC.c1)
  have hru := hM.ru
  rw [← hRl] at hru
  have HRl := hid hRl
  have hRj : R ≤ 65536 := by have := RL_le (t := t) j; omega
  go_cut [] from 169 to 196 (fun wx => Pl fan t M B w x lk N D WB cc XB (j + 1) (j + 1) (j + 1) (j + 1) wx)
  case first =>
    rcases Bool.eq_false_or_eq_true (cont t j) with hc | hc
    · have h0 : 0 < j := by
        unfold cont at hc
        simp only [Bool.and_eq_true, decide_eq_true_eq] at hc
        exact hc.1
      obtain ⟨r, hr⟩ : ∃ r, R = r + 1 := by
        obtain ⟨j', rfl⟩ : ∃ j', j = j' + 1 := ⟨j - 1, by omega⟩
        have := (RL_last (t := t) j').1
        exact ⟨R - 1, by omega⟩
      obtain ⟨rc, hrc⟩ : ∃ rc, rc = (RC t j).getD r 0 := ⟨_, rfl⟩
      have hrc9 : rc ≤ 65536 := by have := RC_le (t := t) j r; omega
      obtain ⟨gb, cap, hv, _, _⟩ := hru.form (by omega)
      have HV := hid hv
      rw [hv] at hru
      have crc : wc.cell? ⟨gb, r * 4 + 3, none⟩ = some (.int .i32 (rc : Nat)) := by
        have h := hru.cellAt (r * 4 + 3) (by omega)
        rw [runs_get (by rw [← HRl.out]; omega) (by omega)] at h
        have e : runF (RL t j) (RF fan t j) (RO fan t j) (RC t j) (r * 4 + 3) = .int .i32 (rc : Nat) := by
          unfold runF
          rw [show (r * 4 + 3) % 4 = 3 by omega, show (r * 4 + 3) / 4 = r by omega, hrc]
          rfl
        rw [e] at h
        exact h
      have frc := hru.frozenAt (r * 4 + 3)
      have hcw : IntKind.i32.wrap ((rc : Int) + 1) = (rc : Int) + 1 := wrap_i32 (by omega) (by omega)
      rw [hv] at c1x
      have HCt := hid hc
      have HR := hid hr
      have hqr : q = (r : Int) := by omega
      have hrR : (r : Int) < (R : Int) := by omega
      have Hrc := hid hrc
      rw [hc]
      clear hru hv hq hC hM hc hRl hrc hgq
      subst hqr
      go_wp2
      go_meet
      case rel =>
        have h := HM.out.more HCt.out (r := r) (by rw [← HRl.out]; exact HR.out) (by rw [← HR.out]; exact HV.out)
        rw [← Hrc.out, Int.natCast_add] at h
        exact ⟨C, X, V0, V1, HC.out, h⟩
    · obtain ⟨d1, d2, d3, d4⟩ := lv_cells HT.out hj HTj.out hgN hM.base.st
      rw [← hgq] at d1 hg9
      obtain ⟨i0, hi0, hz0, hz1, hz2⟩ := info_parts info104
      have fz := hM.base.st.ff.frozen
      have hFF := hM.base.st.ff.lt
      have hFV := hM.base.st.fv.lt
      have hB9 := hM.base.lt
      have hV1F : V1.ownBlock ≠ some x.FF := own_ne hru hM.base.st.ff (by decide)
      have hV1V : V1.ownBlock ≠ some x.FV := own_ne hru hM.base.st.fv (by decide)
      have hV1L : V1.ownBlock ≠ some (x.LV T) := own_ne hru (hM.base.st.lv T (by omega)) (by decide)
      have dz : ∀ o, (wc.alloc o).drew.cell? ⟨x.FF, 1, none⟩ = some V1 := fun o => (World.cell?_alloc_lt _ _ _ hFF).trans c1x
      have gz : ∀ o, (wc.alloc o).drew.frozen? ⟨x.FF, 1, none⟩ = false := fun o => (hM.base.st.ff.alloc o).frozen 1
      have ez : ∀ o, (wc.alloc o).drew.cell? ⟨x.FV, 0, none⟩ = some (.pointer (some ⟨x.FF, 0, none⟩)) := fun o => (World.cell?_alloc_lt _ _ _ hFV).trans cf
      have HCf := hid hc
      have own := hru
      rw [hc]
      clear hru hq hC hM hc hRl hgN hgq d2
      go_wp2_with fail
      go_region_law
        ((refine step_append_lies _ (by rfl) _ _ _ (by rfl) B 104 i0 _ 4 16 Try.underlying81 hi0 hz0 hz1 hz2 rfl (by omega) V1 R (runsL fan t j) (by rfl) ((own.alloc _).drew) ⟨wc.heap.size, 0, none⟩ 1 1 [.int .i8 (T : Nat), .int .i32 (off fan t j : Nat), .int .i32 (gq : Nat), .int .i32 1] (by rfl) (by rfl) (World.news_of_block (cs := #[.int .i8 (T : Nat), .int .i32 (off fan t j : Nat), .int .i32 (gq : Nat), .int .i32 1]) (t := 104) (fr := (0, 0)) (heap_alloc_new wc _)) (by simp [Value.oneCell']) (by omega) (by simp [maxLen]; omega) (by omega) (by simp; omega) (wc.heap.size + 1) (by simp) ?_; intro gg cap w1 hown1 hgrow hat hlt1; have hc1 := (hgrow.cell_far ⟨x.FF, 1, none⟩ (by simp; omega) (Ne.symm hV1F)).trans (dz _); have hf1 := (hgrow.frozen_far ⟨x.FF, 1, none⟩ (by simp; omega) (Ne.symm hV1F)).trans (gz _); have hd1 := (hgrow.cell_far ⟨x.FV, 0, none⟩ (by simp; omega) (Ne.symm hV1V)).trans (ez _)))
      all_goals
        have LN := HM.out.run HCf.out (((Keeps.refl _ wc).alloc _).drew) HRl.out (by rw [← HTj.out, ← Hgq.out]; exact hown1) hgrow
        clear hown1 hgrow hat hc1 hf1 hd1 dz gz ez
        go_wp2
        go_meet
        case rel => exact ⟨_, X, V0, _, HC.out.set1 _, LN⟩
  case rest =>
    rw [hgq]
    exact HK.out _ _ _ _ _ _ _ _ _ _ _ _ _ _ _ _ _ _ _ _ _ _ _ _ _ _ _ _ _ hcut

end Go.Proofs.Qxb6609507a.U

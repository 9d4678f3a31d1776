import Derived.Test.Qxb6609507aBuildLem
import Derived.Deep.RegionLaw
import Derived.Deep.DeepCutAuto
namespace Go.Proofs.Qxb6609507a.U
open Go.RowKit Go.Proofs.Qxb6609507a.Plain
set_option linter.unusedVariables false

/-- The loop that is all of block n. -/
def blockLoop (n : Nat) : Code → Option Code
  | .block m c => if m = n then some c else blockLoop n c
  | .seq a b => match blockLoop n a with
    | some c => some c
    | none => blockLoop n b
  | .loop c => blockLoop n c
  | .scope c => blockLoop n c
  | .cond _ a b => match blockLoop n a with
    | some c => some c
    | none => blockLoop n b
  | _ => none

set_option maxRecDepth 100000 in
set_option maxHeartbeats 8000000 in
theorem loop4 (fan t : Nat → Nat) (M j T l cnt BB : Nat) (V1 : Nat → Value) (w wr : World) (Q : Exit → Act → World → Prop) (c0 c1 c2 c5 c6 c9 c12 c16 c17 c18 c19 c20 c21 c22 c23 c24 c25 c26 c27 c28 c29 c30 c31 c32 c33 c34 c35 c36 c37 c38 c39 c40 c41 c42 c43 c44 c45 c46 c47 c48 c49 c50 c51 c52 c53 c54 c55 c56 c57 c58 c59 c60 c61 c62 c63 c64 c65 c66 c67 c68 c69 c70 c71 c72 c73 c74 c75 c76 c77 c78 c79 c80 c81 c82 c83 c84 c85 c86 c87 c88 c89 c90 c91 c92 c93 c94 c95 c96 c97 c98 c99 c100 c101 c102 c103 c104 c105 c106 c107 c108 c109 c110 c111 c112 c113 c114 c115 c116 c117 c118 c119 c120 c121 c122 c123 c124 c125 c126 c127 c128 c129 c130 c131 c132 c133 c134 c135 c136 c137 c138 c139 c140 c141 c142 c143 c144 c145 c146 c147 c148 c149 c150 c151 c152 c153 c154 c155 c156 c157 c158 c159 c160 c161 c162 c163 c164 c165 c166 c167 c168 c169 c170 c171 c172 c173 c174 c175 c176 c177 c178 c179 c180 c181 c182 c183 c184 c185 c186 c187 c188 c189 c190 c191 c192 c193 c194 c195 c196 c197 c198 c199 c200 c201 c202 c203 c204 c205 c206 c207 c208 c209 c210 c211 c212 c213 c214 c215 c216 c217 c218 c219 c220 c221 c222 c223 c224 c225 c226 c227 c228 : Value)
    (hT : Trees fan t M) (hlt : j < M) (hTj : T = t j) (hl : l ≤ T) (hcnt : cnt = cn fan T l) (hBB : w.heap.size + 4 ≤ BB) (hR0 : Row wr BB 24 5 (i64s (bs fan t j))) (hL0 : Lay w w.heap.size fan V1 (xsK fan t M j l 0) wr)
    (hexit : ∀ (V2 : Nat → Value) (u15 u55 u56 u57 u58 u59 u60 u61 u62 u63 u64 u65 u66 u67 u68 u69 u70 u71 u72 u73 u74 u75 u76 u77 u78 u79 u80 u81 u82 u83 u84 u85 u86 u87 u88 u89 u90 u91 u92 u93 u94 u95 u96 u97 u98 u99 u100 u101 u102 u103 u104 u105 u106 u107 u108 u109 u110 u111 u112 u113 u114 u115 u116 u117 u118 u119 u120 u121 u122 u123 u124 u125 u126 u127 u128 u129 u130 u131 u132 u133 u134 u135 u136 u137 u138 u139 u140 u141 u142 u143 u144 u145 u146 u147 u148 u149 u150 u151 u152 u153 u154 u155 u156 u157 u158 : Value) (wx : World), Row wx BB 24 5 (i64s (bs fan t j)) → Lay w w.heap.size fan V2 (xsK fan t M j l cnt) wx → Q (.exit 6) ⟨(c0 :: c1 :: c2 :: .pointer (some ⟨w.heap.size, 0, none⟩) :: .pointer (some ⟨w.heap.size + 1, 0, none⟩) :: c5 :: c6 :: .pointer (some ⟨w.heap.size + 1 + 1 + 1, 0, none⟩) :: .int .i64 (off fan t j) :: c9 :: .int .i64 T :: .pointer (some ⟨BB, 0, none⟩) :: c12 :: .int .i64 l :: .int .i64 cnt :: u15 :: c16 :: c17 :: c18 :: c19 :: c20 :: c21 :: c22 :: c23 :: c24 :: c25 :: c26 :: c27 :: c28 :: c29 :: c30 :: c31 :: c32 :: c33 :: c34 :: c35 :: c36 :: c37 :: c38 :: c39 :: c40 :: c41 :: c42 :: c43 :: c44 :: c45 :: c46 :: c47 :: c48 :: c49 :: c50 :: c51 :: c52 :: c53 :: c54 :: u55 :: u56 :: u57 :: u58 :: u59 :: u60 :: u61 :: u62 :: u63 :: u64 :: u65 :: u66 :: u67 :: u68 :: u69 :: u70 :: u71 :: u72 :: u73 :: u74 :: u75 :: u76 :: u77 :: u78 :: u79 :: u80 :: u81 :: u82 :: u83 :: u84 :: u85 :: u86 :: u87 :: u88 :: u89 :: u90 :: u91 :: u92 :: u93 :: u94 :: u95 :: u96 :: u97 :: u98 :: u99 :: u100 :: u101 :: u102 :: u103 :: u104 :: u105 :: u106 :: u107 :: u108 :: u109 :: u110 :: u111 :: u112 :: u113 :: u114 :: u115 :: u116 :: u117 :: u118 :: u119 :: u120 :: u121 :: u122 :: u123 :: u124 :: u125 :: u126 :: u127 :: u128 :: u129 :: u130 :: u131 :: u132 :: u133 :: u134 :: u135 :: u136 :: u137 :: u138 :: u139 :: u140 :: u141 :: u142 :: u143 :: u144 :: u145 :: u146 :: u147 :: u148 :: u149 :: u150 :: u151 :: u152 :: u153 :: u154 :: u155 :: u156 :: u157 :: u158 :: c159 :: c160 :: c161 :: c162 :: c163 :: c164 :: c165 :: c166 :: c167 :: c168 :: c169 :: c170 :: c171 :: c172 :: c173 :: c174 :: c175 :: c176 :: c177 :: c178 :: c179 :: c180 :: c181 :: c182 :: c183 :: c184 :: c185 :: c186 :: c187 :: c188 :: c189 :: c190 :: c191 :: c192 :: c193 :: c194 :: c195 :: c196 :: c197 :: c198 :: c199 :: c200 :: c201 :: c202 :: c203 :: c204 :: c205 :: c206 :: c207 :: c208 :: c209 :: c210 :: c211 :: c212 :: c213 :: c214 :: c215 :: c216 :: c217 :: c218 :: c219 :: c220 :: c221 :: c222 :: c223 :: c224 :: c225 :: c226 :: c227 :: c228 :: [] : List Value).toArray, []⟩ wx) :
    Code.wp Try.prog ((Try.f9.body.bind (blockLoop 6)).getD .skip) (NoPanic Q) ⟨(c0 :: c1 :: c2 :: .pointer (some ⟨w.heap.size, 0, none⟩) :: .pointer (some ⟨w.heap.size + 1, 0, none⟩) :: c5 :: c6 :: .pointer (some ⟨w.heap.size + 1 + 1 + 1, 0, none⟩) :: .int .i64 (off fan t j) :: c9 :: .int .i64 T :: .pointer (some ⟨BB, 0, none⟩) :: c12 :: .int .i64 l :: .int .i64 cnt :: .int .i64 0 :: c16 :: c17 :: c18 :: c19 :: c20 :: c21 :: c22 :: c23 :: c24 :: c25 :: c26 :: c27 :: c28 :: c29 :: c30 :: c31 :: c32 :: c33 :: c34 :: c35 :: c36 :: c37 :: c38 :: c39 :: c40 :: c41 :: c42 :: c43 :: c44 :: c45 :: c46 :: c47 :: c48 :: c49 :: c50 :: c51 :: c52 :: c53 :: c54 :: c55 :: c56 :: c57 :: c58 :: c59 :: c60 :: c61 :: c62 :: c63 :: c64 :: c65 :: c66 :: c67 :: c68 :: c69 :: c70 :: c71 :: c72 :: c73 :: c74 :: c75 :: c76 :: c77 :: c78 :: c79 :: c80 :: c81 :: c82 :: c83 :: c84 :: c85 :: c86 :: c87 :: c88 :: c89 :: c90 :: c91 :: c92 :: c93 :: c94 :: c95 :: c96 :: c97 :: c98 :: c99 :: c100 :: c101 :: c102 :: c103 :: c104 :: c105 :: c106 :: c107 :: c108 :: c109 :: c110 :: c111 :: c112 :: c113 :: c114 :: c115 :: c116 :: c117 :: c118 :: c119 :: c120 :: c121 :: c122 :: c123 :: c124 :: c125 :: c126 :: c127 :: c128 :: c129 :: c130 :: c131 :: c132 :: c133 :: c134 :: c135 :: c136 :: c137 :: c138 :: c139 :: c140 :: c141 :: c142 :: c143 :: c144 :: c145 :: c146 :: c147 :: c148 :: c149 :: c150 :: c151 :: c152 :: c153 :: c154 :: c155 :: c156 :: c157 :: c158 :: c159 :: c160 :: c161 :: c162 :: c163 :: c164 :: c165 :: c166 :: c167 :: c168 :: c169 :: c170 :: c171 :: c172 :: c173 :: c174 :: c175 :: c176 :: c177 :: c178 :: c179 :: c180 :: c181 :: c182 :: c183 :: c184 :: c185 :: c186 :: c187 :: c188 :: c189 :: c190 :: c191 :: c192 :: c193 :: c194 :: c195 :: c196 :: c197 :: c198 :: c199 :: c200 :: c201 :: c202 :: c203 :: c204 :: c205 :: c206 :: c207 :: c208 :: c209 :: c210 :: c211 :: c212 :: c213 :: c214 :: c215 :: c216 :: c217 :: c218 :: c219 :: c220 :: c221 :: c222 :: c223 :: c224 :: c225 :: c226 :: c227 :: c228 :: [] : List Value).toArray, []⟩ wr := by
  have HT : Hid (Trees fan t M) := hT
  have HTj : Hid (T = t j) := hTj
  have HCN : Hid (cnt = cn fan T l) := hcnt
  have GR0 : Hid (Row wr BB 24 5 (i64s (bs fan t j))) := hR0
  have GL0 : Hid (Lay w w.heap.size fan V1 (xsK fan t M j l 0) wr) := hL0
  have HX : Hid (∀ (V2 : Nat → Value) (u15 u55 u56 u57 u58 u59 u60 u61 u62 u63 u64 u65 u66 u67 u68 u69 u70 u71 u72 u73 u74 u75 u76 u77 u78 u79 u80 u81 u82 u83 u84 u85 u86 u87 u88 u89 u90 u91 u92 u93 u94 u95 u96 u97 u98 u99 u100 u101 u102 u103 u104 u105 u106 u107 u108 u109 u110 u111 u112 u113 u114 u115 u116 u117 u118 u119 u120 u121 u122 u123 u124 u125 u126 u127 u128 u129 u130 u131 u132 u133 u134 u135 u136 u137 u138 u139 u140 u141 u142 u143 u144 u145 u146 u147 u148 u149 u150 u151 u152 u153 u154 u155 u156 u157 u158 : Value) (wx : World), Row wx BB 24 5 (i64s (bs fan t j)) → Lay w w.heap.size fan V2 (xsK fan t M j l cnt) wx → Q (.exit 6) ⟨(c0 :: c1 :: c2 :: .pointer (some ⟨w.heap.size, 0, none⟩) :: .pointer (some ⟨w.heap.size + 1, 0, none⟩) :: c5 :: c6 :: .pointer (some ⟨w.heap.size + 1 + 1 + 1, 0, none⟩) :: .int .i64 (off fan t j) :: c9 :: .int .i64 T :: .pointer (some ⟨BB, 0, none⟩) :: c12 :: .int .i64 l :: .int .i64 cnt :: u15 :: c16 :: c17 :: c18 :: c19 :: c20 :: c21 :: c22 :: c23 :: c24 :: c25 :: c26 :: c27 :: c28 :: c29 :: c30 :: c31 :: c32 :: c33 :: c34 :: c35 :: c36 :: c37 :: c38 :: c39 :: c40 :: c41 :: c42 :: c43 :: c44 :: c45 :: c46 :: c47 :: c48 :: c49 :: c50 :: c51 :: c52 :: c53 :: c54 :: u55 :: u56 :: u57 :: u58 :: u59 :: u60 :: u61 :: u62 :: u63 :: u64 :: u65 :: u66 :: u67 :: u68 :: u69 :: u70 :: u71 :: u72 :: u73 :: u74 :: u75 :: u76 :: u77 :: u78 :: u79 :: u80 :: u81 :: u82 :: u83 :: u84 :: u85 :: u86 :: u87 :: u88 :: u89 :: u90 :: u91 :: u92 :: u93 :: u94 :: u95 :: u96 :: u97 :: u98 :: u99 :: u100 :: u101 :: u102 :: u103 :: u104 :: u105 :: u106 :: u107 :: u108 :: u109 :: u110 :: u111 :: u112 :: u113 :: u114 :: u115 :: u116 :: u117 :: u118 :: u119 :: u120 :: u121 :: u122 :: u123 :: u124 :: u125 :: u126 :: u127 :: u128 :: u129 :: u130 :: u131 :: u132 :: u133 :: u134 :: u135 :: u136 :: u137 :: u138 :: u139 :: u140 :: u141 :: u142 :: u143 :: u144 :: u145 :: u146 :: u147 :: u148 :: u149 :: u150 :: u151 :: u152 :: u153 :: u154 :: u155 :: u156 :: u157 :: u158 :: c159 :: c160 :: c161 :: c162 :: c163 :: c164 :: c165 :: c166 :: c167 :: c168 :: c169 :: c170 :: c171 :: c172 :: c173 :: c174 :: c175 :: c176 :: c177 :: c178 :: c179 :: c180 :: c181 :: c182 :: c183 :: c184 :: c185 :: c186 :: c187 :: c188 :: c189 :: c190 :: c191 :: c192 :: c193 :: c194 :: c195 :: c196 :: c197 :: c198 :: c199 :: c200 :: c201 :: c202 :: c203 :: c204 :: c205 :: c206 :: c207 :: c208 :: c209 :: c210 :: c211 :: c212 :: c213 :: c214 :: c215 :: c216 :: c217 :: c218 :: c219 :: c220 :: c221 :: c222 :: c223 :: c224 :: c225 :: c226 :: c227 :: c228 :: [] : List Value).toArray, []⟩ wx) := hexit
  have hT4 : T ≤ 4 := by rw [hTj]; exact hT.top j hlt
  have hoff : off fan t j ≤ 65536 := Nat.le_trans (off_mono (by omega)) hT.all
  have hcle : cnt ≤ 65536 := by
    have h1 : cn fan (t j) l ≤ sz fan (t j) := cn_le
    have h2 : off fan t (j + 1) ≤ off fan t M := off_mono (by omega)
    have h3 : off fan t (j + 1) = off fan t j + sz fan (t j) := rfl
    have h4 := hT.all
    rw [hcnt, hTj]; omega
  have hszle : sz fan l ≤ 2147483647 := hT.szle l (by omega)
  have hl5' : ((l : Nat) : Int) < 5 := by omega
  have hl6' : ((l : Nat) : Int) < 6 := by omega
  clear hT hTj hcnt hR0 hL0 hexit
  conv => arg 2; whnf
  go_loopg [15] cnt (fun gk s15 wr => ∃ (k : Nat) (V1 : Nat → Value), gk = cnt - k ∧ k ≤ cnt ∧ s15 = .int .i64 k ∧ Row wr BB 24 5 (i64s (bs fan t j)) ∧ Lay w w.heap.size fan V1 (xsK fan t M j l k) wr)
  case atStart => exact ⟨0, V1, rfl, by omega, rfl, GR0.out, GL0.out⟩
  case round =>
    clear GR0 GL0
    obtain ⟨k, V2, rfl, hkc, rfl, hR, hL⟩ := hrel
    have GR : Hid (Row wr BB 24 5 (i64s (bs fan t j))) := hR
    have GL : Hid (Lay w w.heap.size fan V2 (xsK fan t M j l k) wr) := hL
    by_cases hk : k < cnt
    · have hkn : k < cn fan (t j) l := by rw [← HTj.out, ← HCN.out]; exact hk
      have HKN : Hid (k < cn fan (t j) l) := hkn
      obtain ⟨kz, hkz⟩ : ∃ kz, kz = k * sz fan l := ⟨_, rfl⟩
      have hkz' : ((k : Nat) : Int) * ((sz fan l : Nat) : Int) = (kz : Int) := by rw [hkz, Int.natCast_mul]
      have hF := F_at (fan := fan) (t := t) (M := M) hlt hkn
      have hFl := F_lt (fan := fan) (t := t) (M := M) (l := l) (i := bs fan t j l + k) (Nat.lt_of_lt_of_le (lt_bs hkn) (bs_mono (by omega) l)) HT.out.pos
      have hkb : off fan t j + kz ≤ 65536 := by have := HT.out.all; omega
      have hnb : bs fan t j l + k ≤ 65536 := by
        have h1 := lt_bs (fan := fan) (t := t) hkn
        have h2 := bs_le_off (fan := fan) (t := t) l (j + 1)
        have h3 : off fan t (j + 1) ≤ off fan t M := off_mono (by omega)
        have := HT.out.all
        omega
      obtain ⟨own, cv, fv, hb3, hVne, _, _, cz, fz⟩ := hL.at (q := 11 + l) (by omega) (by omega) (ty21 (by omega)) ((lenF (by omega)).trans (Lj_at fan t j l k))
      have cl : wr.cell? ⟨w.heap.size, l, none⟩ = some (.int .i64 (sz fan l)) := hL.szr.cell (by omega)
      obtain ⟨i1, hi1, hy0, hy1, hy2⟩ := info_parts info21
      have hFe : ((off fan t j : Nat) : Int) + (kz : Int) = ((F fan t M l (Lj fan t j l k l) : Nat) : Int) := by rw [Lj_at, hF, ← hkz]; omega
      have HF : Hid (((off fan t j : Nat) : Int) + (kz : Int) = ((F fan t M l (Lj fan t j l k l) : Nat) : Int)) := hFe
      have x1 : IntKind.i64.wrap (kz : Int) = (kz : Int) := wrap_i64 (by omega) (by omega)
      have x2 : IntKind.i64.wrap (((off fan t j : Nat) : Int) + (kz : Int)) = ((off fan t j : Nat) : Int) + (kz : Int) := wrap_i64 (by omega) (by omega)
      have x3 : IntKind.i32.wrap (((off fan t j : Nat) : Int) + (kz : Int)) = ((off fan t j : Nat) : Int) + (kz : Int) := wrap_i32 (by omega) (by omega)
      clear hR hL hkz hF hFl hkn hFe
      go_wp2
      go_cut [] from 55 to 158 (fun wc => ∃ V3, Lay w w.heap.size fan V3 (xsA fan t M (upN (Lj fan t j l k) l (Lj fan t j l k l + 1)) (Lj fan t j l k) (Lj fan t j l k) (Lj fan t j l k) j j j j j) wc ∧ Row wc BB 24 5 (i64s (bs fan t j)))
      case first =>
        go_region_law
          ((refine step_append_lies _ (by rfl) _ _ _ (by rfl) (w.heap.size + 4) 21 i1 _ 1 4 Try.underlying28 hi1 hy0 hy1 hy2 rfl (by omega) (V2 (11 + l)) (bs fan t j l + k) (xsK fan t M j l k (11 + l)) (by rfl) ((own.alloc _).drew) ⟨wr.heap.size, 0, none⟩ 1 1 [.int .i32 ((off fan t j : Nat) + (kz : Nat) : Int)] (by rfl) (by rfl) (World.news_of_block (cs := #[.int .i32 ((off fan t j : Nat) + (kz : Nat) : Int)]) (t := 21) (fr := (0, 0)) (heap_alloc_new wr _)) (by simp [Value.oneCell']) (by omega) (by simp [maxLen]; omega) (by omega) (by simp; omega) (wr.heap.size + 1) (by simp) ?_; intro gg cap w1 hown1 hgrow hat hlt1; have hc1 := (hgrow.cell_far ⟨w.heap.size + 1 + 1 + 1, 11 + l, none⟩ (by simp; omega) (Ne.symm hVne)).trans (cz _); have hf1 := (hgrow.frozen_far ⟨w.heap.size + 1 + 1 + 1, 11 + l, none⟩ (by simp; omega) (Ne.symm hVne)).trans (fz _)))
        all_goals
          have LN := GL.out.addF (by omega) (((Keeps.refl _ wr).alloc _).drew) (Lj_at fan t j l k) hown1 HF.out hgrow hat GR.out (by omega)
          clear hown1 hgrow hat hc1 hf1 cz fz
          go_wp2
          go_meet
          case rel => exact ⟨_, LN.1, LN.2⟩
      case rest =>
        clear own cv fv hb3 hVne cz fz cl x1 x2 x3 hkz' hkb
        obtain ⟨V5, hL, hR⟩ := hcut
        have GL5 : Hid (Lay w w.heap.size fan V5 (xsA fan t M (upN (Lj fan t j l k) l (Lj fan t j l k l + 1)) (Lj fan t j l k) (Lj fan t j l k) (Lj fan t j l k) j j j j j) wc) := hL
        have GR5 : Hid (Row wc BB 24 5 (i64s (bs fan t j))) := hR
        obtain ⟨own, cv, fv, hb3, hVne, cz, fz, dz, gz⟩ := hL.at (q := 16 + l) (by omega) (by omega) (ty21 (by omega)) ((lenP (by omega)).trans (Lj_at fan t j l k))
        obtain ⟨i2, hi2, hw0, hw1, hw2⟩ := info_parts info4
        by_cases hlT : l = T
        · have bT : (((l : Nat) : Int) == ((T : Nat) : Int)) = true := beqT hlT
          have HPe : -1 = Pa fan t M l (Lj fan t j l k l) := by rw [Lj_at, Pa_at hlt HKN.out, if_pos (by rw [← HTj.out]; exact hlT)]
          have HP : Hid (-1 = Pa fan t M l (Lj fan t j l k l)) := HPe
          clear HPe
          have HTpe : true = Tp fan t M l (Lj fan t j l k l) := by rw [Lj_at, Tp_at hlt HKN.out, decide_eq_true (by rw [← HTj.out]; exact hlT)]
          have HTp : Hid (true = Tp fan t M l (Lj fan t j l k l)) := HTpe
          clear HTpe
          clear hlT hL hR
          go_upto_region 23 with fail
          go_cut [] from 55 to 158 (fun wc => ∃ V3, Lay w w.heap.size fan V3 (xsA fan t M (upN (Lj fan t j l k) l (Lj fan t j l k l + 1)) (upN (Lj fan t j l k) l (Lj fan t j l k l + 1)) (Lj fan t j l k) (Lj fan t j l k) j j j j j) wc ∧ Row wc BB 24 5 (i64s (bs fan t j)))
          case first =>
            go_wp2_with ((at_builtin; refine wpList_append_lies _ (by rfl) _ _ 28 (by rfl) (w.heap.size + 4) 21 i1 _ 1 4 Try.underlying28 hi1 hy0 hy1 hy2 rfl (by omega) (V5 (16 + l)) (bs fan t j l + k) (xsA fan t M (upN (Lj fan t j l k) l (Lj fan t j l k l + 1)) (Lj fan t j l k) (Lj fan t j l k) (Lj fan t j l k) j j j j j (16 + l)) (by rfl) (own.alloc _) ⟨wc.heap.size, 0, none⟩ 1 1 [.int .i32 (-1)] (by rfl) (by rfl) (World.news_of_block (cs := #[.int .i32 (-1)]) (t := 21) (fr := (0, 0)) (heap_alloc_new wc _)) (by simp [Value.oneCell']) (by omega) (by simp [maxLen]; omega) (by omega) (by simp; omega) (wc.heap.size + 1) (by simp) ?_; intro gg cap w1 hown1 hgrow hat hlt1; have hc1 := (hgrow.cell_far ⟨w.heap.size + 1 + 1 + 1, 16 + l, none⟩ (by simp; omega) (Ne.symm hVne)).trans (cz _); have hf1 := (hgrow.frozen_far ⟨w.heap.size + 1 + 1 + 1, 16 + l, none⟩ (by simp; omega) (Ne.symm hVne)).trans (fz _)))
            have LN := GL5.out.addP (by omega) ((Keeps.refl _ wc).alloc _) (Lj_at fan t j l k) hown1 HP.out hgrow hat GR5.out (by omega)
            clear hown1 hgrow hat cz fz dz gz
            go_wp2
            go_meet
            case rel => exact ⟨_, LN.1, LN.2⟩
          case rest =>
            clear own cv fv hb3 hVne cz fz dz gz
            obtain ⟨V6, hL, hR⟩ := hcut
            have GL6 : Hid (Lay w w.heap.size fan V6 (xsA fan t M (upN (Lj fan t j l k) l (Lj fan t j l k l + 1)) (upN (Lj fan t j l k) l (Lj fan t j l k l + 1)) (Lj fan t j l k) (Lj fan t j l k) j j j j j) wc) := hL
            have GR6 : Hid (Row wc BB 24 5 (i64s (bs fan t j))) := hR
            obtain ⟨own, cv, fv, hb3, hVne, cz, fz, dz, gz⟩ := hL.at (q := 26 + l) (by omega) (by omega) (ty4 (by omega) (by omega)) ((lenT (by omega)).trans (Lj_at fan t j l k))
            clear hL hR
            go_upto_region 24 with fail
            go_cut [] from 55 to 158 (fun wc => ∃ V3, Lay w w.heap.size fan V3 (xsA fan t M (upN (Lj fan t j l k) l (Lj fan t j l k l + 1)) (upN (Lj fan t j l k) l (Lj fan t j l k l + 1)) (Lj fan t j l k) (upN (Lj fan t j l k) l (Lj fan t j l k l + 1)) j j j j j) wc ∧ Row wc BB 24 5 (i64s (bs fan t j)))
            case first =>
              go_wp2_with ((at_builtin; refine wpList_append_lies _ (by rfl) _ _ 30 (by rfl) (w.heap.size + 4) 4 i2 _ 1 1 Try.underlying30 hi2 hw0 hw1 hw2 rfl (by omega) (V6 (26 + l)) (bs fan t j l + k) (xsA fan t M (upN (Lj fan t j l k) l (Lj fan t j l k l + 1)) (upN (Lj fan t j l k) l (Lj fan t j l k l + 1)) (Lj fan t j l k) (Lj fan t j l k) j j j j j (26 + l)) (by rfl) (own.alloc _) ⟨wc.heap.size, 0, none⟩ 1 1 [.bool true] (by rfl) (by rfl) (World.news_of_block (cs := #[.bool true]) (t := 4) (fr := (0, 0)) (heap_alloc_new wc _)) (by simp [Value.oneCell']) (by omega) (by simp [maxLen]; omega) (by omega) (by simp; omega) (wc.heap.size + 1) (by simp) ?_; intro gg cap w1 hown1 hgrow hat hlt1; have hc1 := (hgrow.cell_far ⟨w.heap.size + 1 + 1 + 1, 26 + l, none⟩ (by simp; omega) (Ne.symm hVne)).trans (cz _); have hf1 := (hgrow.frozen_far ⟨w.heap.size + 1 + 1 + 1, 26 + l, none⟩ (by simp; omega) (Ne.symm hVne)).trans (fz _)))
              have LN := GL6.out.addT (by omega) ((Keeps.refl _ wc).alloc _) (Lj_at fan t j l k) hown1 HTp.out hgrow hat GR6.out (by omega)
              clear hown1 hgrow hat cz fz dz gz
              go_wp2
              go_meet
              case rel => exact ⟨_, LN.1, LN.2⟩
            case rest =>
              clear own cv fv hb3 hVne cz fz dz gz
              obtain ⟨V7, hL, hR⟩ := hcut
              have GL7 : Hid (Lay w w.heap.size fan V7 (xsA fan t M (upN (Lj fan t j l k) l (Lj fan t j l k l + 1)) (upN (Lj fan t j l k) l (Lj fan t j l k l + 1)) (Lj fan t j l k) (upN (Lj fan t j l k) l (Lj fan t j l k l + 1)) j j j j j) wc) := hL
              have GR7 : Hid (Row wc BB 24 5 (i64s (bs fan t j))) := hR
              obtain ⟨own, cv, fv, hb3, hVne, cz, fz, dz, gz⟩ := hL.at (q := 21 + l) (by omega) (by omega) (ty21 (by omega)) ((lenC (by omega)).trans (Lj_at fan t j l k))
              by_cases hl0 : l = 0
              · have b0 : (((l : Nat) : Int) == 0) = true := beqT (b := 0) hl0
                have HCe : -1 = Ch fan t M l (Lj fan t j l k l) := by rw [Lj_at, Ch_at hlt HKN.out, if_pos hl0]
                have HC : Hid (-1 = Ch fan t M l (Lj fan t j l k l)) := HCe
                clear HCe
                clear hl0
                go_wp2_with ((at_builtin; refine wpList_append_lies _ (by rfl) _ _ 28 (by rfl) (w.heap.size + 4) 21 i1 _ 1 4 Try.underlying28 hi1 hy0 hy1 hy2 rfl (by omega) (V7 (21 + l)) (bs fan t j l + k) (xsA fan t M (upN (Lj fan t j l k) l (Lj fan t j l k l + 1)) (upN (Lj fan t j l k) l (Lj fan t j l k l + 1)) (Lj fan t j l k) (upN (Lj fan t j l k) l (Lj fan t j l k l + 1)) j j j j j (21 + l)) (by rfl) (own.alloc _) ⟨wc.heap.size, 0, none⟩ 1 1 [.int .i32 (-1)] (by rfl) (by rfl) (World.news_of_block (cs := #[.int .i32 (-1)]) (t := 21) (fr := (0, 0)) (heap_alloc_new wc _)) (by simp [Value.oneCell']) (by omega) (by simp [maxLen]; omega) (by omega) (by simp; omega) (wc.heap.size + 1) (by simp) ?_; intro gg cap w1 hown1 hgrow hat hlt1; have hc1 := (hgrow.cell_far ⟨w.heap.size + 1 + 1 + 1, 21 + l, none⟩ (by simp; omega) (Ne.symm hVne)).trans (cz _); have hf1 := (hgrow.frozen_far ⟨w.heap.size + 1 + 1 + 1, 21 + l, none⟩ (by simp; omega) (Ne.symm hVne)).trans (fz _)))
                have LN := GL7.out.addC (by omega) ((Keeps.refl _ wc).alloc _) (Lj_at fan t j l k) hown1 HC.out hgrow hat GR7.out (by omega)
                clear hown1 hgrow hat cz fz dz gz
                go_wp2
                obtain ⟨LN1, LN2⟩ := LN
                rw [Lj_step] at LN1
                go_roundg (cnt - (k + 1))
                case measure => omega
                case rel => exact ⟨k + 1, _, rfl, by omega, by go_num, LN2, LN1⟩
              · have b0 : (((l : Nat) : Int) == 0) = false := beqF (b := 0) hl0
                obtain ⟨l0, hl0'⟩ : ∃ l0, l = l0 + 1 := ⟨l - 1, by omega⟩
                have hl1 : ((l : Nat) : Int) - 1 = (l0 : Int) := by omega
                have hl05 : l0 < 5 := by omega
                obtain ⟨kf, hkf⟩ : ∃ kf, kf = k * fan l := ⟨_, rfl⟩
                have hkf' : ((k : Nat) : Int) * ((fan l : Nat) : Int) = (kf : Int) := by rw [hkf, Int.natCast_mul]
                have hCe := Ch_at (fan := fan) (t := t) (M := M) hlt HKN.out
                rw [if_neg hl0, show l - 1 = l0 by omega, ← hkf] at hCe
                have hCb : bs fan t j l0 + kf ≤ 65536 := by
                  have h1 := Ch_lt (fan := fan) (t := t) (M := M) (l := l) (i := bs fan t j l + k) (Nat.lt_of_lt_of_le (lt_bs HKN.out) (bs_mono (by omega) l)) HT.out.pos
                  have h2 := bs_le_off (fan := fan) (t := t) (l - 1) M
                  have h3 := HT.out.all
                  rcases h1 with h1 | ⟨q, h1, h4⟩
                  · omega
                  · omega
                have HCe : ((bs fan t j l0 : Nat) : Int) + (kf : Int) = Ch fan t M l (Lj fan t j l k l) := by rw [Lj_at, hCe, Int.natCast_add]
                have HC : Hid (((bs fan t j l0 : Nat) : Int) + (kf : Int) = Ch fan t M l (Lj fan t j l k l)) := HCe
                clear HCe
                have cb : wc.cell? ⟨BB, l0, none⟩ = some (.int .i64 (bs fan t j l0)) := hR.cell hl05
                have cf : wc.cell? ⟨w.heap.size + 1, l, none⟩ = some (.int .i64 (fan l)) := hL.fanr.cell (by omega)
                have hl05' : ((l0 : Nat) : Int) < 5 := by omega
                have y1 : IntKind.i64.wrap (kf : Int) = (kf : Int) := wrap_i64 (by omega) (by omega)
                have y2 : IntKind.i64.wrap (((bs fan t j l0 : Nat) : Int) + (kf : Int)) = ((bs fan t j l0 : Nat) : Int) + (kf : Int) := wrap_i64 (by omega) (by omega)
                have y3 : IntKind.i32.wrap (((bs fan t j l0 : Nat) : Int) + (kf : Int)) = ((bs fan t j l0 : Nat) : Int) + (kf : Int) := wrap_i32 (by omega) (by omega)
                have y4 : IntKind.i64.wrap (l0 : Int) = (l0 : Int) := wrap_i64 (by omega) (by omega)
                clear hl0 hl0' hkf hCe hL hR
                go_wp2
                go_region_law
                  ((refine step_append_lies _ (by rfl) _ _ _ (by rfl) (w.heap.size + 4) 21 i1 _ 1 4 Try.underlying28 hi1 hy0 hy1 hy2 rfl (by omega) (V7 (21 + l)) (bs fan t j l + k) (xsA fan t M (upN (Lj fan t j l k) l (Lj fan t j l k l + 1)) (upN (Lj fan t j l k) l (Lj fan t j l k l + 1)) (Lj fan t j l k) (upN (Lj fan t j l k) l (Lj fan t j l k l + 1)) j j j j j (21 + l)) (by rfl) ((own.alloc _).drew) ⟨wc.heap.size, 0, none⟩ 1 1 [.int .i32 (((bs fan t j l0 : Nat) : Int) + (kf : Int))] (by rfl) (by rfl) (World.news_of_block (cs := #[.int .i32 (((bs fan t j l0 : Nat) : Int) + (kf : Int))]) (t := 21) (fr := (0, 0)) (heap_alloc_new wc _)) (by simp [Value.oneCell']) (by omega) (by simp [maxLen]; omega) (by omega) (by simp; omega) (wc.heap.size + 1) (by simp) ?_; intro gg cap w1 hown1 hgrow hat hlt1; have hc1 := (hgrow.cell_far ⟨w.heap.size + 1 + 1 + 1, 21 + l, none⟩ (by simp; omega) (Ne.symm hVne)).trans (dz _); have hf1 := (hgrow.frozen_far ⟨w.heap.size + 1 + 1 + 1, 21 + l, none⟩ (by simp; omega) (Ne.symm hVne)).trans (gz _)))
                all_goals
                  have LN := GL7.out.addC (by omega) (((Keeps.refl _ wc).alloc _).drew) (Lj_at fan t j l k) hown1 HC.out hgrow hat GR7.out (by omega)
                  clear hown1 hgrow hat hc1 hf1 cz fz dz gz
                  go_wp2
                  obtain ⟨LN1, LN2⟩ := LN
                  rw [Lj_step] at LN1
                  go_roundg (cnt - (k + 1))
                  case measure => omega
                  case rel => exact ⟨k + 1, _, rfl, by omega, by go_num, LN2, LN1⟩
        · have bT : (((l : Nat) : Int) == ((T : Nat) : Int)) = false := beqF hlT
          obtain ⟨kq, hkq⟩ : ∃ kq, kq = k / fan (l + 1) := ⟨_, rfl⟩
          have hfp : 0 < fan (l + 1) := HT.out.pos j hlt (l + 1) (by omega) (by rw [← HTj.out]; omega)
          have hfne : ¬ fan (l + 1) = 0 := by omega
          have hkq1 : ((k : Nat) : Int) / ((fan (l + 1) : Nat) : Int) = (kq : Int) := by rw [hkq, Int.natCast_ediv]
          have hkq2 : ((k : Nat) : Int).tdiv ((fan (l + 1) : Nat) : Int) = (kq : Int) := by rw [hkq]; rfl
          have hPe := Pa_at (fan := fan) (t := t) (M := M) hlt HKN.out
          rw [if_neg (by rw [← HTj.out]; exact hlT), ← hkq] at hPe
          have hPb : bs fan t j (l + 1) + kq ≤ 65536 := by
            have h1 := Pa_lt (fan := fan) (t := t) (M := M) (l := l) (i := bs fan t j l + k) (Nat.lt_of_lt_of_le (lt_bs HKN.out) (bs_mono (by omega) l)) HT.out.pos
            have h2 := bs_le_off (fan := fan) (t := t) (l + 1) M
            have h3 := HT.out.all
            rcases h1 with h1 | ⟨q, h1, h4⟩
            · omega
            · omega
          have HPe : ((bs fan t j (l + 1) : Nat) : Int) + (kq : Int) = Pa fan t M l (Lj fan t j l k l) := by rw [Lj_at, hPe, Int.natCast_add]
          have HP : Hid (((bs fan t j (l + 1) : Nat) : Int) + (kq : Int) = Pa fan t M l (Lj fan t j l k l)) := HPe
          clear HPe
          have HTpe : false = Tp fan t M l (Lj fan t j l k l) := by rw [Lj_at, Tp_at hlt HKN.out, decide_eq_false (by rw [← HTj.out]; exact hlT)]
          have HTp : Hid (false = Tp fan t M l (Lj fan t j l k l)) := HTpe
          clear HTpe
          have cb : wc.cell? ⟨BB, l + 1, none⟩ = some (.int .i64 (bs fan t j (l + 1))) := hR.cell (by omega)
          have cf : wc.cell? ⟨w.heap.size + 1, l + 1, none⟩ = some (.int .i64 (fan (l + 1))) := hL.fanr.cell (by omega)
          have hl15' : ((l : Nat) : Int) + 1 < 5 := by omega
          have hl10' : (0 : Int) ≤ ((l : Nat) : Int) + 1 := by omega
          have hl16' : ((l : Nat) : Int) + 1 < 6 := by omega
          have hfz : (((fan (l + 1) : Nat) : Int) == 0) = false := beqF (b := 0) (by omega)
          have y0 : IntKind.i64.wrap (((l : Nat) : Int) + 1) = ((l : Nat) : Int) + 1 := wrap_i64 (by omega) (by omega)
          have y1 : IntKind.i64.wrap (kq : Int) = (kq : Int) := wrap_i64 (by omega) (by omega)
          have y2 : IntKind.i64.wrap (((bs fan t j (l + 1) : Nat) : Int) + (kq : Int)) = ((bs fan t j (l + 1) : Nat) : Int) + (kq : Int) := wrap_i64 (by omega) (by omega)
          have y3 : IntKind.i32.wrap (((bs fan t j (l + 1) : Nat) : Int) + (kq : Int)) = ((bs fan t j (l + 1) : Nat) : Int) + (kq : Int) := wrap_i32 (by omega) (by omega)
          clear hlT hkq hPe hL hR
          go_upto_region 25 with fail
          go_cut [] from 55 to 158 (fun wc => ∃ V3, Lay w w.heap.size fan V3 (xsA fan t M (upN (Lj fan t j l k) l (Lj fan t j l k l + 1)) (upN (Lj fan t j l k) l (Lj fan t j l k l + 1)) (Lj fan t j l k) (Lj fan t j l k) j j j j j) wc ∧ Row wc BB 24 5 (i64s (bs fan t j)))
          case first =>
            go_region_law
              ((refine step_append_lies _ (by rfl) _ _ _ (by rfl) (w.heap.size + 4) 21 i1 _ 1 4 Try.underlying28 hi1 hy0 hy1 hy2 rfl (by omega) (V5 (16 + l)) (bs fan t j l + k) (xsA fan t M (upN (Lj fan t j l k) l (Lj fan t j l k l + 1)) (Lj fan t j l k) (Lj fan t j l k) (Lj fan t j l k) j j j j j (16 + l)) (by rfl) ((own.alloc _).drew) ⟨wc.heap.size, 0, none⟩ 1 1 [.int .i32 (((bs fan t j (l + 1) : Nat) : Int) + (kq : Int))] (by rfl) (by rfl) (World.news_of_block (cs := #[.int .i32 (((bs fan t j (l + 1) : Nat) : Int) + (kq : Int))]) (t := 21) (fr := (0, 0)) (heap_alloc_new wc _)) (by simp [Value.oneCell']) (by omega) (by simp [maxLen]; omega) (by omega) (by simp; omega) (wc.heap.size + 1) (by simp) ?_; intro gg cap w1 hown1 hgrow hat hlt1; have hc1 := (hgrow.cell_far ⟨w.heap.size + 1 + 1 + 1, 16 + l, none⟩ (by simp; omega) (Ne.symm hVne)).trans (dz _); have hf1 := (hgrow.frozen_far ⟨w.heap.size + 1 + 1 + 1, 16 + l, none⟩ (by simp; omega) (Ne.symm hVne)).trans (gz _)))
            all_goals
              have LN := GL5.out.addP (by omega) (((Keeps.refl _ wc).alloc _).drew) (Lj_at fan t j l k) hown1 HP.out hgrow hat GR5.out (by omega)
              clear hown1 hgrow hat hc1 hf1 cz fz dz gz
              go_wp2
              go_meet
              case rel => exact ⟨_, LN.1, LN.2⟩
          case rest =>
            clear own cv fv hb3 hVne cz fz dz gz cb cf y0 y1 y2 y3 hkq1 hkq2 hfz
            obtain ⟨V6, hL, hR⟩ := hcut
            have GL6 : Hid (Lay w w.heap.size fan V6 (xsA fan t M (upN (Lj fan t j l k) l (Lj fan t j l k l + 1)) (upN (Lj fan t j l k) l (Lj fan t j l k l + 1)) (Lj fan t j l k) (Lj fan t j l k) j j j j j) wc) := hL
            have GR6 : Hid (Row wc BB 24 5 (i64s (bs fan t j))) := hR
            obtain ⟨own, cv, fv, hb3, hVne, cz, fz, dz, gz⟩ := hL.at (q := 26 + l) (by omega) (by omega) (ty4 (by omega) (by omega)) ((lenT (by omega)).trans (Lj_at fan t j l k))
            clear hL hR
            go_upto_region 26 with fail
            go_cut [] from 55 to 158 (fun wc => ∃ V3, Lay w w.heap.size fan V3 (xsA fan t M (upN (Lj fan t j l k) l (Lj fan t j l k l + 1)) (upN (Lj fan t j l k) l (Lj fan t j l k l + 1)) (Lj fan t j l k) (upN (Lj fan t j l k) l (Lj fan t j l k l + 1)) j j j j j) wc ∧ Row wc BB 24 5 (i64s (bs fan t j)))
            case first =>
              go_wp2_with ((at_builtin; refine wpList_append_lies _ (by rfl) _ _ 30 (by rfl) (w.heap.size + 4) 4 i2 _ 1 1 Try.underlying30 hi2 hw0 hw1 hw2 rfl (by omega) (V6 (26 + l)) (bs fan t j l + k) (xsA fan t M (upN (Lj fan t j l k) l (Lj fan t j l k l + 1)) (upN (Lj fan t j l k) l (Lj fan t j l k l + 1)) (Lj fan t j l k) (Lj fan t j l k) j j j j j (26 + l)) (by rfl) (own.alloc _) ⟨wc.heap.size, 0, none⟩ 1 1 [.bool false] (by rfl) (by rfl) (World.news_of_block (cs := #[.bool false]) (t := 4) (fr := (0, 0)) (heap_alloc_new wc _)) (by simp [Value.oneCell']) (by omega) (by simp [maxLen]; omega) (by omega) (by simp; omega) (wc.heap.size + 1) (by simp) ?_; intro gg cap w1 hown1 hgrow hat hlt1; have hc1 := (hgrow.cell_far ⟨w.heap.size + 1 + 1 + 1, 26 + l, none⟩ (by simp; omega) (Ne.symm hVne)).trans (cz _); have hf1 := (hgrow.frozen_far ⟨w.heap.size + 1 + 1 + 1, 26 + l, none⟩ (by simp; omega) (Ne.symm hVne)).trans (fz _)))
              have LN := GL6.out.addT (by omega) ((Keeps.refl _ wc).alloc _) (Lj_at fan t j l k) hown1 HTp.out hgrow hat GR6.out (by omega)
              clear hown1 hgrow hat cz fz dz gz
              go_wp2
              go_meet
              case rel => exact ⟨_, LN.1, LN.2⟩
            case rest =>
              clear own cv fv hb3 hVne cz fz dz gz
              obtain ⟨V7, hL, hR⟩ := hcut
              have GL7 : Hid (Lay w w.heap.size fan V7 (xsA fan t M (upN (Lj fan t j l k) l (Lj fan t j l k l + 1)) (upN (Lj fan t j l k) l (Lj fan t j l k l + 1)) (Lj fan t j l k) (upN (Lj fan t j l k) l (Lj fan t j l k l + 1)) j j j j j) wc) := hL
              have GR7 : Hid (Row wc BB 24 5 (i64s (bs fan t j))) := hR
              obtain ⟨own, cv, fv, hb3, hVne, cz, fz, dz, gz⟩ := hL.at (q := 21 + l) (by omega) (by omega) (ty21 (by omega)) ((lenC (by omega)).trans (Lj_at fan t j l k))
              by_cases hl0 : l = 0
              · have b0 : (((l : Nat) : Int) == 0) = true := beqT (b := 0) hl0
                have HCe : -1 = Ch fan t M l (Lj fan t j l k l) := by rw [Lj_at, Ch_at hlt HKN.out, if_pos hl0]
                have HC : Hid (-1 = Ch fan t M l (Lj fan t j l k l)) := HCe
                clear HCe
                clear hl0
                go_wp2_with ((at_builtin; refine wpList_append_lies _ (by rfl) _ _ 28 (by rfl) (w.heap.size + 4) 21 i1 _ 1 4 Try.underlying28 hi1 hy0 hy1 hy2 rfl (by omega) (V7 (21 + l)) (bs fan t j l + k) (xsA fan t M (upN (Lj fan t j l k) l (Lj fan t j l k l + 1)) (upN (Lj fan t j l k) l (Lj fan t j l k l + 1)) (Lj fan t j l k) (upN (Lj fan t j l k) l (Lj fan t j l k l + 1)) j j j j j (21 + l)) (by rfl) (own.alloc _) ⟨wc.heap.size, 0, none⟩ 1 1 [.int .i32 (-1)] (by rfl) (by rfl) (World.news_of_block (cs := #[.int .i32 (-1)]) (t := 21) (fr := (0, 0)) (heap_alloc_new wc _)) (by simp [Value.oneCell']) (by omega) (by simp [maxLen]; omega) (by omega) (by simp; omega) (wc.heap.size + 1) (by simp) ?_; intro gg cap w1 hown1 hgrow hat hlt1; have hc1 := (hgrow.cell_far ⟨w.heap.size + 1 + 1 + 1, 21 + l, none⟩ (by simp; omega) (Ne.symm hVne)).trans (cz _); have hf1 := (hgrow.frozen_far ⟨w.heap.size + 1 + 1 + 1, 21 + l, none⟩ (by simp; omega) (Ne.symm hVne)).trans (fz _)))
                have LN := GL7.out.addC (by omega) ((Keeps.refl _ wc).alloc _) (Lj_at fan t j l k) hown1 HC.out hgrow hat GR7.out (by omega)
                clear hown1 hgrow hat cz fz dz gz
                go_wp2
                obtain ⟨LN1, LN2⟩ := LN
                rw [Lj_step] at LN1
                go_roundg (cnt - (k + 1))
                case measure => omega
                case rel => exact ⟨k + 1, _, rfl, by omega, by go_num, LN2, LN1⟩
              · have b0 : (((l : Nat) : Int) == 0) = false := beqF (b := 0) hl0
                obtain ⟨l0, hl0'⟩ : ∃ l0, l = l0 + 1 := ⟨l - 1, by omega⟩
                have hl1 : ((l : Nat) : Int) - 1 = (l0 : Int) := by omega
                have hl05 : l0 < 5 := by omega
                obtain ⟨kf, hkf⟩ : ∃ kf, kf = k * fan l := ⟨_, rfl⟩
                have hkf' : ((k : Nat) : Int) * ((fan l : Nat) : Int) = (kf : Int) := by rw [hkf, Int.natCast_mul]
                have hCe := Ch_at (fan := fan) (t := t) (M := M) hlt HKN.out
                rw [if_neg hl0, show l - 1 = l0 by omega, ← hkf] at hCe
                have hCb : bs fan t j l0 + kf ≤ 65536 := by
                  have h1 := Ch_lt (fan := fan) (t := t) (M := M) (l := l) (i := bs fan t j l + k) (Nat.lt_of_lt_of_le (lt_bs HKN.out) (bs_mono (by omega) l)) HT.out.pos
                  have h2 := bs_le_off (fan := fan) (t := t) (l - 1) M
                  have h3 := HT.out.all
                  rcases h1 with h1 | ⟨q, h1, h4⟩
                  · omega
                  · omega
                have HCe : ((bs fan t j l0 : Nat) : Int) + (kf : Int) = Ch fan t M l (Lj fan t j l k l) := by rw [Lj_at, hCe, Int.natCast_add]
                have HC : Hid (((bs fan t j l0 : Nat) : Int) + (kf : Int) = Ch fan t M l (Lj fan t j l k l)) := HCe
                clear HCe
                have cb : wc.cell? ⟨BB, l0, none⟩ = some (.int .i64 (bs fan t j l0)) := hR.cell hl05
                have cf : wc.cell? ⟨w.heap.size + 1, l, none⟩ = some (.int .i64 (fan l)) := hL.fanr.cell (by omega)
                have hl05' : ((l0 : Nat) : Int) < 5 := by omega
                have y1 : IntKind.i64.wrap (kf : Int) = (kf : Int) := wrap_i64 (by omega) (by omega)
                have y2 : IntKind.i64.wrap (((bs fan t j l0 : Nat) : Int) + (kf : Int)) = ((bs fan t j l0 : Nat) : Int) + (kf : Int) := wrap_i64 (by omega) (by omega)
                have y3 : IntKind.i32.wrap (((bs fan t j l0 : Nat) : Int) + (kf : Int)) = ((bs fan t j l0 : Nat) : Int) + (kf : Int) := wrap_i32 (by omega) (by omega)
                have y4 : IntKind.i64.wrap (l0 : Int) = (l0 : Int) := wrap_i64 (by omega) (by omega)
                clear hl0 hl0' hkf hCe hL hR
                go_wp2
                go_region_law
                  ((refine step_append_lies _ (by rfl) _ _ _ (by rfl) (w.heap.size + 4) 21 i1 _ 1 4 Try.underlying28 hi1 hy0 hy1 hy2 rfl (by omega) (V7 (21 + l)) (bs fan t j l + k) (xsA fan t M (upN (Lj fan t j l k) l (Lj fan t j l k l + 1)) (upN (Lj fan t j l k) l (Lj fan t j l k l + 1)) (Lj fan t j l k) (upN (Lj fan t j l k) l (Lj fan t j l k l + 1)) j j j j j (21 + l)) (by rfl) ((own.alloc _).drew) ⟨wc.heap.size, 0, none⟩ 1 1 [.int .i32 (((bs fan t j l0 : Nat) : Int) + (kf : Int))] (by rfl) (by rfl) (World.news_of_block (cs := #[.int .i32 (((bs fan t j l0 : Nat) : Int) + (kf : Int))]) (t := 21) (fr := (0, 0)) (heap_alloc_new wc _)) (by simp [Value.oneCell']) (by omega) (by simp [maxLen]; omega) (by omega) (by simp; omega) (wc.heap.size + 1) (by simp) ?_; intro gg cap w1 hown1 hgrow hat hlt1; have hc1 := (hgrow.cell_far ⟨w.heap.size + 1 + 1 + 1, 21 + l, none⟩ (by simp; omega) (Ne.symm hVne)).trans (dz _); have hf1 := (hgrow.frozen_far ⟨w.heap.size + 1 + 1 + 1, 21 + l, none⟩ (by simp; omega) (Ne.symm hVne)).trans (gz _)))
                all_goals
                  have LN := GL7.out.addC (by omega) (((Keeps.refl _ wc).alloc _).drew) (Lj_at fan t j l k) hown1 HC.out hgrow hat GR7.out (by omega)
                  clear hown1 hgrow hat hc1 hf1 cz fz dz gz
                  go_wp2
                  obtain ⟨LN1, LN2⟩ := LN
                  rw [Lj_step] at LN1
                  go_roundg (cnt - (k + 1))
                  case measure => omega
                  case rel => exact ⟨k + 1, _, rfl, by omega, by go_num, LN2, LN1⟩
    · have hkc' : k = cnt := by omega
      have HK : Hid (k = cnt) := hkc'
      clear hkc'
      go_wp2
      have e := HK.out
      subst e
      show Q (.exit 6) _ _
      exact HX.out V2 _ _ _ _ _ _ _ _ _ _ _ _ _ _ _ _ _ _ _ _ _ _ _ _ _ _ _ _ _ _ _ _ _ _ _ _ _ _ _ _ _ _ _ _ _ _ _ _ _ _ _ _ _ _ _ _ _ _ _ _ _ _ _ _ _ _ _ _ _ _ _ _ _ _ _ _ _ _ _ _ _ _ _ _ _ _ _ _ _ _ _ _ _ _ _ _ _ _ _ _ _ _ _ _ _ wr GR.out GL.out
end Go.Proofs.Qxb6609507a.U

import Derived.Test.Qxb6609507aBody1
import Derived.Deep.CutBlock
import Derived.Deep.RegionLaw
import Derived.Deep.MidRow
namespace Go.Proofs.Qxb6609507a.U
open Go.RowKit Go.Proofs.Qxb6609507a.Plain
set_option linter.unusedVariables false

theorem Below.cells {B : Nat} {w : World} {b : Nat} (hb : B ≤ b) : ∀ (vs : List Value) (o : Nat) (wr : World), Below B w wr → Below B w (wr.setCells b o vs)
  | [], _, _, h => h
  | v :: r, o, wr, h => Below.cells hb r (o + 1) _ (h.setCell (by exact hb) v)
theorem slice_of {w : World} {base : Nat} {e : TypeId} {v : Value} {n : Nat} {xs : List Value} (h : w.ownsRow base e 1 v n xs) : ∃ a m c, v = .slice a m c := by
  obtain ⟨a, c, hv⟩ := own_form h
  exact ⟨a, n, c, hv⟩
theorem results_cell {fn : Func} {a : Tmp} {t : TypeId} (h : fn.results = #[.cell a t]) (tmps : Array Value) (P : Program) (w : World) (p : Addr) (v : Value) (ha : tmps.getD a undef = .pointer (some p)) (hl : (loadVar t p).run P w = .ok v w) :
    (results fn tmps).run P w = .ok v w := by
  have ha' : tmps[a]?.getD undef = .pointer (some p) := by rw [← ha]; simp
  simp [results, h, asAddr, ha', hl]
theorem info33 : (Try.prog.info? 33).map (·.size) = some ((List.range 36).map (layC (fun _ => 0) (fun _ => undef))).length := by kernel_rfl
theorem Row.range {w : World} {b : Nat} {t : TypeId} {n : Nat} {f : Nat → Value} (h : Row w b t n f) : w.rangeAt b 0 ((List.range n).map f) := fun j v hv => by
  rw [List.getElem?_map] at hv
  by_cases hj : j < n
  · rw [List.getElem?_range hj] at hv
    rw [Nat.zero_add, h.cell hj]; exact hv
  · rw [List.getElem?_eq_none (by rw [List.length_range]; omega)] at hv; cases hv
theorem Row.there {w : World} {b : Nat} {t : TypeId} {n : Nat} {f : Nat → Value} (h : Row w b t n f) : w.there b 0 n := fun j hj => by
  rw [Nat.zero_add, h.cell hj]
  exact ⟨rfl, h.frozen _⟩
theorem lay_one {w : World} {B : Nat} {fan : Nat → Nat} {V : Nat → Value} {xs : Nat → List Value} {wr : World} (h : Lay w B fan V xs wr) : ∀ v ∈ (List.range 36).map (layC fan V), v.oneCell' = true := fun v hv => by
  obtain ⟨q, hq, rfl⟩ := List.mem_map.1 hv
  rw [List.mem_range] at hq
  unfold layC
  split
  · rfl
  · split
    · rfl
    · obtain ⟨a, m, c, e⟩ := slice_of (h.own q (by omega) hq)
      rw [e]; rfl
/-- What zzBuild hands back: 36 cells, read off again. -/
theorem lay_out {w : World} {B : Nat} {fan : Nat → Nat} {V : Nat → Value} {xs : Nat → List Value} {wr : World} (h : Lay w B fan V xs wr) (vs : List Value) :
    ∀ q, 11 ≤ q → q < 36 → Sl (wr.setCells (B + 1 + 1) 0 vs) (V q) (ty q) (xs q).length (fun i => (xs q).getD i undef) := fun q h1 h2 => by
  obtain ⟨hl, ⟨hv, hn⟩ | ⟨g, cap, cur, hv, hg, hh, hc, _, hs, hx⟩⟩ := h.own q h1 h2
  · exact ⟨none, 0, by rw [hn]; exact hv, fun h0 => absurd h0 (by omega)⟩
  · refine ⟨_, cap, hv, fun _ => ⟨g, rfl, ?_⟩⟩
    refine Row.setCellsOther (by omega) vs 0 wr ⟨cur, hh, by omega, fun i hi => ?_⟩
    have e : (cur.toList.take ((xs q).length * 1))[i]? = cur[i]? := by
      rw [List.getElem?_take_of_lt (by omega), Array.getElem?_toList]
    rw [← e, hx]
    show (xs q)[i]? = some ((xs q).getD i undef)
    rw [List.getD_eq_getElem?_getD, List.getElem?_eq_getElem hi]
    rfl

set_option maxRecDepth 100000 in
set_option maxHeartbeats 8000000 in
theorem build_any (fan t : Nat → Nat) (M : Nat) (a : Option Addr) (c : Nat) (w : World) (hT : Trees fan t M) (ht : Tops w a M (fun i => (t i : Int))) :
    Calls Try.prog 9 #[.agg #[.int .i64 (sz fan 0), .int .i64 (sz fan 1), .int .i64 (sz fan 2), .int .i64 (sz fan 3), .int .i64 (sz fan 4)], .agg #[.int .i64 (fan 0), .int .i64 (fan 1), .int .i64 (fan 2), .int .i64 (fan 3), .int .i64 (fan 4), .int .i64 (fan 5)], .slice a M c] w (BuildPost fan t M w) := by
  have HT : Hid (Trees fan t M) := hT
  have HTo : Hid (Tops w a M (fun i => (t i : Int))) := ht
  have hM := hT.few
  clear hT ht
  go_enter Try.func9, Try.ntmps9
  go_wp2
  go_loopg [8, 9] M (fun gk s8 s9 wr => ∃ (j : Nat) (V : Nat → Value), gk = M - j ∧ j ≤ M ∧ s8 = .int .i64 (off fan t j) ∧ s9 = .int .i64 j ∧ Lay w w.heap.size fan V (xsT fan t M j) wr)
  case atStart =>
    refine ⟨0, fun _ => .slice none 0 0, rfl, Nat.zero_le _, rfl, rfl, ⟨?_, ?_, ?_, ?_, ?_, ?_, ?_⟩⟩
    · exact row_of_lit _ _ _ _ (heap4_3 w _ _ _ _) 36 rfl _ rfl
    · exact row_of_lit _ _ _ _ (heap4_0 w _ _ _ _) 5 rfl _ rfl
    · exact row_of_lit _ _ _ _ (heap4_1 w _ _ _ _) 6 rfl _ rfl
    · exact row_of_lit _ _ _ _ (heap4_2 w _ _ _ _) 36 rfl _ rfl
    · intro q _ _
      rw [xsT_zero]
      exact World.ownsRow_nil _ _ _ _
    · intro q q' _ _ _ _ _ g e
      cases e
    · exact below4 w _ _ _ _
  case round =>
    obtain ⟨j, V, rfl, hj, rfl, rfl, hL⟩ := hrel
    have HL : Hid (Lay w w.heap.size fan V (xsT fan t M j) wr) := hL
    by_cases hlt : j < M
    · clear hL
      obtain ⟨b, ob, rfl, hb, hc⟩ := HTo.out (by omega)
      have HC : Hid (w.cell? ⟨b, ob + j, none⟩ = some (.int .i8 (t j : Int))) := hc j hlt
      clear hc
      obtain ⟨wo, hwo⟩ : ∃ wo, wo = wr := ⟨_, rfl⟩
      subst hwo
      go_upto_block 1 with fail
      refine Code.wp_mono then_imp (body1 fan t M j b ob c V w wo _ _ _ _ _ _ _ _ _ _ _ _ _ _ _ _ _ _ _ _ _ _ _ _ _ _ _ _ _ _ _ _ _ _ _ _ _ _ _ _ _ _ _ _ _ _ _ _ _ _ _ _ _ _ _ _ _ _ _ _ _ _ _ _ _ _ _ _ _ _ _ _ _ _ _ _ _ _ _ _ _ _ _ _ _ _ _ _ _ _ _ _ _ _ _ _ _ _ _ _ _ _ _ _ _ _ _ _ _ _ _ _ _ _ _ _ _ _ _ _ _ _ _ _ _ _ _ _ _ _ _ _ _ _ _ _ _ _ _ _ _ _ _ _ _ _ _ _ _ _ _ _ _ _ _ _ _ _ _ _ _ _ _ _ _ _ _ _ _ _ _ _ _ _ _ _ _ _ _ _ _ _ _ _ _ _ _ _ _ _ _ _ _ _ _ _ _ _ _ _ _ _ _ _ _ _ _ _ _ _ _ _ _ _ _ _ _ _ _ _ _ _ _ _ HT.out hlt hb HC.out HL.out ?_)
      intro V2 u0 u1 u2 u3 u4 u5 u6 u7 u8 u9 u10 u11 u12 u13 u14 u15 u16 u17 u18 u19 u20 u21 u22 u23 u24 u25 u26 u27 u28 u29 u30 u31 u32 u33 u34 u35 u36 u37 u38 u39 u40 u41 u42 u43 u44 u45 u46 u47 u48 u49 u50 u51 u52 u53 u54 u55 u56 u57 u58 u59 u60 u61 u62 u63 u64 u65 u66 u67 u68 u69 u70 u71 u72 u73 u74 u75 u76 u77 u78 u79 u80 u81 u82 u83 u84 u85 u86 u87 u88 u89 u90 u91 u92 u93 u94 u95 u96 u97 u98 u99 u100 u101 u102 u103 u104 u105 u106 u107 u108 u109 u110 u111 u112 u113 u114 u115 u116 u117 u118 u119 u120 u121 u122 u123 u124 u125 u126 u127 u128 u129 u130 u131 u132 u133 u134 u135 u136 u137 u138 u139 u140 u141 u142 u143 u144 u145 u146 u147 u148 u149 u150 u151 u152 u153 u154 u155 u156 u157 u158 u159 u160 u161 u162 u163 u164 u165 u166 u167 u168 u169 u170 u171 u172 u173 u174 u175 u176 u177 u178 u179 u180 u181 u182 u183 u184 u185 u186 u187 u188 u189 u190 u191 u192 u193 u194 u195 u196 u197 u198 u199 u200 u201 u202 u203 u204 u205 u206 u207 wx hL2
      have HL2 : Hid (Lay w w.heap.size fan V2 (xsT fan t M (j + 1)) wx) := hL2
      clear hL2 HL
      go_wp2
      go_roundg (M - (j + 1))
      case measure => omega
      case rel => exact ⟨j + 1, V2, rfl, by omega, rfl, by go_num, HL2.out⟩
    · have e : j = M := by omega
      have HL9 : Hid (Lay w w.heap.size fan V (xsT fan t M M) wr) := by have h := hL; rw [e] at h; exact h
      have hrg := hL.mrow.range
      have hth := hL.res.there
      clear hL HL
      go_wp2_with (first | (refine wpList_load_mid (by rfl) 33 _ rfl (w.heap.size + 1 + 1 + 1) 0 (by rfl) ((List.range 36).map (layC fan V)) _ hrg Try.underlying33 rfl info33 ?_) | (refine wpList_store_mid (by rfl) 33 _ _ rfl (w.heap.size + 1 + 1) 0 ((List.range 36).map (layC fan V)).toArray (by rfl) (by rfl) hth info33 (all_oneCell_toArray (lay_one HL9.out)) ?_))
      have HR2 : (wr.setCells (w.heap.size + 1 + 1) 0 ((List.range 36).map (layC fan V))).rangeAt (w.heap.size + 1 + 1) 0 ((List.range 36).map (layC fan V)) := World.rangeAt_setCells_same wr _ _ _ HL9.out.res.there
      refine bodyPost_ret (v := .agg (((List.range 36).map (layC fan V)).toArray)) ?_ rfl ⟨V, rfl, ?_, ?_⟩
      · have hld := run_loadVar_mid (P := Try.prog) (wr.setCells (w.heap.size + 1 + 1) 0 ((List.range 36).map (layC fan V))) (w.heap.size + 1 + 1) 0 33 ((List.range 36).map (layC fan V)) _ HR2 Try.underlying33 rfl info33
        exact results_cell Try.results9 _ _ _ _ _ (by rfl) hld
      · exact Below.cells (b := w.heap.size + 1 + 1) (by omega) ((List.range 36).map (layC fan V)) 0 wr HL9.out.below
      · exact lay_out HL9.out _
end Go.Proofs.Qxb6609507a.U

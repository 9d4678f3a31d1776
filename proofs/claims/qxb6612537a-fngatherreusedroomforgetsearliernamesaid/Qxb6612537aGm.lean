import Derived.Test.Qxb6612537aGm4
import Derived.Test.Qxb6612537aGm8
import Derived.Test.Qxb6612537aGm12
namespace Go.Proofs.Qxb6612537a.U
open Go.RowKit Go.Proofs.Qxb6612537a.Plain
set_option linter.unusedVariables false
set_option linter.unusedSimpArgs false

set_option maxRecDepth 100000 in
set_option maxHeartbeats 8000000 in
theorem gatherMatches_any (WB nh ch nw cw : Nat) (ah aw : Option Addr) (name : ByteArray) (R : Nat → HRec) (W : Nat → WRec) (w : World) (Hs : AL) (L : List Nat)
    (hh : In w ah 3 nh fun i => hc (R i)) (hw : In w aw 5 nw fun i => wc (W i)) (hnh : nh ≤ 4096) (hnw : nw ≤ 4096) (hR : HSmall R nh) (hW : WSmall W nw) (hname : name.size ≤ 1048576) (hod : ∀ a b, a < nw → b < nw → (W a).od = (W b).od → a = b)
    (hH : HsOk R nh (fun x => Rel x (By name)) Hs) (hL1 : Srt (fun k => (W k).od) L) (hL2 : ∀ x, x ∈ L ↔ x < nw ∧ Rel (By (W x).nm) (By name))
    (C27 : ∀ wr, Below w.heap.size w wr → Calls Try.prog 27 #[.pointer (some ⟨WB, 0, none⟩)] wr (fun e w' => e = .returned (.int .i64 (Hs.length : Nat)) ∧ w' = wr))
    (C28 : ∀ (i : Nat) (wr : World), i < Hs.length → Below w.heap.size w wr → Calls Try.prog 28 #[.pointer (some ⟨WB, 0, none⟩), .int .i64 (i : Nat)] wr (fun e w' => e = .returned (.tuple #[.int .i64 (key Hs i), .int .i64 (val Hs i)]) ∧ ∃ m, w' = wr.drewN m))
    (C29 : ∀ wr, Below w.heap.size w wr → Calls Try.prog 29 #[.pointer (some ⟨WB, 0, none⟩)] wr (fun e w' => e = .returned (.int .i64 (L.length : Nat)) ∧ w' = wr))
    (C30 : ∀ (i : Nat) (wr : World), i < L.length → Below w.heap.size w wr → Calls Try.prog 30 #[.pointer (some ⟨WB, 0, none⟩), .int .i64 (i : Nat)] wr (fun e w' => e = .returned (.tuple #[.string (W (L.getD i 0)).nm, .int .i64 (W (L.getD i 0)).tx, .int .i64 (W (L.getD i 0)).od, .int .i64 (W (L.getD i 0)).rk, .bool (W (L.getD i 0)).up]) ∧ ∃ m, w' = wr.drewN m)) :
    Calls Try.prog 13 #[.pointer (some ⟨WB, 0, none⟩), .slice ah nh ch, .slice aw nw cw, .string name] w (fun e w' => e = .returned (.bool true) ∧ Below w.heap.size w w') := by
  have Hh := hid hh
  have Hw := hid hw
  have HR := hid hR
  have HW := hid hW
  have Hod := hid hod
  have HH := hid hH
  have HL1 := hid hL1
  have HL2 := hid hL2
  have H27 := hid C27
  have H28 := hid C28
  have H29 := hid C29
  have H30 := hid C30
  clear hh hw hR hW hod hH hL1 hL2 C27 C28 C29 C30
  have mk58 := run_make0 (P := Try.prog) 58 2 (.int .i64 0) 8 Try.underlying58 info2 nh (by omega) (by omega)
  have mk36 := run_make0 (P := Try.prog) 36 3 (.int .i64 0) 8 Try.underlying36 info3 nh (by omega) (by omega)
  have mk36w := run_make0 (P := Try.prog) 36 3 (.int .i64 0) 8 Try.underlying36 info3 nw (by omega) (by omega)
  have HM0 : Hid (MSt w w.heap.size nh (w.heap.size + 1) nh [] ((w.alloc (.cells (madeCells (Value.int .i64 0).cells nh) 2)).alloc (.cells (madeCells (Value.int .i64 0).cells nh) 3))) := by
    refine ⟨own_keeps (own_made0 w _ nh 2 w.heap.size (Nat.le_refl _) (by unfold maxLen; omega)) ((Keeps.refl (fun _ => False) _).alloc _) (fun _ _ h => h), ?_, ((Below.refl _ _).alloc (Nat.le_refl _) _).alloc (by simp) _⟩
    have h := own_made0 (w.alloc (.cells (madeCells (Value.int .i64 0).cells nh) 2)) (Value.int .i64 0).cells nh 3 w.heap.size (by simp) (by unfold maxLen; omega)
    rwa [Go.Deep.nblk_alloc] at h
  go_enter Try.func13, Try.ntmps13
  go_upto_block 0 with fail
  refine Code.wp_mono then_imp (gm0 (R := R) _ _ _ _ _ _ _ _ _ _ _ _ _ _ _ _ _ _ _ _ _ _ _ _ _ _ _ _ _ _ _ _ _ _ _ _ _ _ _ _ _ _ _ _ _ _ _ _ _ _ _ _ _ _ _ _ _ _ _ _ _ _ _ _ _ _ _ _ _ _ _ _ _ _ _ _ _ _ _ _ _ _ _ _ _ _ _ _ _ _ _ _ _ _ _ _ _ _ _ _ _ _ _ _ _ _ _ _ _ _ _ _ _ _ _ _ _ _ _ _ _ _ _ _ _ _ _ _ _ _ _ _ _ _ _ _ _ _ _ _ _ _ _ _ _ _ _ _ _ _ _ _ _ _ _ _ _ _ _ _ _ _ _ _ _ _ _ _ _ _ _ _ _ _ _ _ _ _ _ _ _ _ _ _ _ _ _ _ _ _ _ _ _ _ _ _ _ _ _ _ _ _ _ _ _ _ _ _ _ _ _ _ _ _ _ _ _ _ _ _ _ _ _ _ _ _ _ _ _ _ _ _ _ _ _ _ _ _ _ _ _ _ _ _ _ _ _ _ _ _ _ _ _ _ _ _ _ _ _ _ _ Hh.out HR.out hnh hname HM0.out ?_)
  intro v11 v12 v13 v35 v36 v37 v38 v39 v40 v41 v42 v43 v44 v45 v46 v47 v48 v49 v50 v51 v52 v53 v54 v55 v56 v57 v58 v59 v60 v61 v62 v63 v64 v65 v66 v67 v68 v69 v70 v71 v72 v73 v74 v75 v76 v77 v78 v79 v80 v81 v82 v83 v84 v85 v86 v87 v88 v89 v90 v91 v92 v93 v94 v95 v96 v97 v98 g1 c1 g2 c2 AL1 w1 hA hM
  obtain ⟨ln, hln⟩ : ∃ ln, ln = AL1.length := ⟨_, rfl⟩
  have hln9 : ln ≤ 4096 := by rw [hln]; have := hA.len; omega
  have hsl := same_len hA HH.out
  have HA := hid hA
  have HM := hid hM
  have Hln := hid hln
  have C27' := H27.out w1 hM.bl
  have hHl : Hs.length = ln := by rw [hsl, hln]
  rw [hHl] at C27'
  have HHl := hid hHl
  rw [← hln]
  have mk64 := run_make_rows (P := Try.prog) 64 4 (.bool false) 1 1 Try.underlying64 info4 .i64 .i64 ln (by omega) (by omega)
  have hSS : Hid (SSt w g1 c1 g2 c2 w1.heap.size AL1 (fun _ => false) (w1.alloc (.cells (madeCells #[.bool false] ln) 4))) := by show SSt _ _ _ _ _ _ _ _ _; rw [hln]; have h := seen_made hM; rwa [Nat.mul_one] at h
  clear hA hM hln hsl hHl HM0
  go_upto_block 4 with (go_at_call 27; refine C27'.mono ?_; rintro e w2 ⟨rfl, rfl⟩)
  refine Code.wp_mono then_imp (gm4 (R := R) (Hs := Hs) _ _ _ _ _ _ _ _ _ _ _ _ _ _ _ _ _ _ _ _ _ _ _ _ _ _ _ _ _ _ _ _ _ _ _ _ _ _ _ _ _ _ _ _ _ _ _ _ _ _ _ _ _ _ _ _ _ _ _ _ _ _ _ _ _ _ _ _ _ _ _ _ _ _ _ _ _ _ _ _ _ _ _ _ _ _ _ _ _ _ _ _ _ _ _ _ _ _ _ _ _ _ _ _ _ _ _ _ _ _ _ _ _ _ _ _ _ _ _ _ _ _ _ _ _ _ _ _ _ _ _ _ _ _ _ _ _ _ _ _ _ _ _ _ _ _ _ _ _ _ _ _ _ _ _ _ _ _ _ _ _ _ _ _ _ _ _ _ _ _ _ _ _ _ _ _ _ _ _ _ _ _ _ _ _ _ _ _ _ _ _ _ _ _ _ _ _ _ _ _ _ _ _ _ _ _ _ _ _ _ _ _ _ _ _ _ _ _ _ _ _ _ _ _ _ _ _ _ _ _ _ _ _ _ _ _ _ _ _ _ _ _ _ _ _ _ _ _ _ _ _ _ _ _ _ _ _ _ _ _ hnh Hln.out HA.out HH.out hSS.out (fun i wr hi hb => H28.out i wr (by rw [HHl.out]; exact hi) hb) ?_)
  intro p8 p15 p16 p17 p18 p107 p108 p109 p110 p111 p112 p113 p114 p115 p116 p117 p118 p119 p120 p121 p122 p123 p124 p125 p126 p127 p128 p129 p130 p131 p132 p133 p134 p135 p136 p137 p138 p139 p140 p141 p142 p143 p144 p145 p146 p147 p148 p149 p150 p151 p152 p153 w3 hb3
  have HQ0 : Hid (QSt w w3.heap.size nw [] (w3.alloc (.cells (madeCells (Value.int .i64 0).cells nw) 3))) := ⟨own_made0 w3 _ nw 3 w.heap.size hb3.size (by unfold maxLen; omega), hb3.alloc hb3.size _⟩
  clear hSS HA HM hb3 C27' mk64
  go_upto_block 8 with fail
  refine Code.wp_mono then_imp (gm8 (W := W) _ _ _ _ _ _ _ _ _ _ _ _ _ _ _ _ _ _ _ _ _ _ _ _ _ _ _ _ _ _ _ _ _ _ _ _ _ _ _ _ _ _ _ _ _ _ _ _ _ _ _ _ _ _ _ _ _ _ _ _ _ _ _ _ _ _ _ _ _ _ _ _ _ _ _ _ _ _ _ _ _ _ _ _ _ _ _ _ _ _ _ _ _ _ _ _ _ _ _ _ _ _ _ _ _ _ _ _ _ _ _ _ _ _ _ _ _ _ _ _ _ _ _ _ _ _ _ _ _ _ _ _ _ _ _ _ _ _ _ _ _ _ _ _ _ _ _ _ _ _ _ _ _ _ _ _ _ _ _ _ _ _ _ _ _ _ _ _ _ _ _ _ _ _ _ _ _ _ _ _ _ _ _ _ _ _ _ _ _ _ _ _ _ _ _ _ _ _ _ _ _ _ _ _ _ _ _ _ _ _ _ _ _ _ _ _ _ _ _ _ _ _ _ _ _ _ _ _ _ _ _ _ _ _ _ _ _ _ _ _ _ _ _ _ _ _ _ _ _ _ _ _ _ _ _ _ _ _ _ _ _ _ Hw.out HW.out hnw hname Hod.out HQ0.out ?_)
  intro q20 q21 q157 q158 q159 q160 q161 q162 q163 q164 q165 q166 q167 q168 q169 q170 q171 q172 q173 q174 q175 q176 q177 q178 q179 q180 q181 q182 q183 q184 q185 q186 q187 q188 q189 q190 q191 q192 q193 q194 q195 q196 q197 q198 q199 q200 q201 q202 q203 q204 q205 q206 q207 q208 q209 q210 g4 c4 Q0 w4 hQok hQst
  have hQL : Q0 = L := srt_uniq hQok.srt HL1.out (fun x => by rw [hQok.mem, HL2.out])
  subst hQL
  obtain ⟨qn, hqn⟩ : ∃ qn, qn = Q0.length := ⟨_, rfl⟩
  have hqn9 : qn ≤ 4096 := by rw [hqn]; have := hQok.len; omega
  have C29' := H29.out w4 hQst.bl
  rw [← hqn] at C29' ⊢
  have Hqn := hid hqn
  have HQs := hid hQst
  have HQo := hid hQok
  clear hqn hQst hQok HQ0
  go_upto_block 12 with (go_at_call 29; refine C29'.mono ?_; rintro e w5 ⟨rfl, rfl⟩)
  refine Code.wp_mono then_imp (gm12 (W := W) _ _ _ _ _ _ _ _ _ _ _ _ _ _ _ _ _ _ _ _ _ _ _ _ _ _ _ _ _ _ _ _ _ _ _ _ _ _ _ _ _ _ _ _ _ _ _ _ _ _ _ _ _ _ _ _ _ _ _ _ _ _ _ _ _ _ _ _ _ _ _ _ _ _ _ _ _ _ _ _ _ _ _ _ _ _ _ _ _ _ _ _ _ _ _ _ _ _ _ _ _ _ _ _ _ _ _ _ _ _ _ _ _ _ _ _ _ _ _ _ _ _ _ _ _ _ _ _ _ _ _ _ _ _ _ _ _ _ _ _ _ _ _ _ _ _ _ _ _ _ _ _ _ _ _ _ _ _ _ _ _ _ _ _ _ _ _ _ _ _ _ _ _ _ _ _ _ _ _ _ _ _ _ _ _ _ _ _ _ _ _ _ _ _ _ _ _ _ _ _ _ _ _ _ _ _ _ _ _ _ _ _ _ _ _ _ _ _ _ _ _ _ _ _ _ _ _ _ _ _ _ _ _ _ _ _ _ _ _ _ _ _ _ _ _ _ _ _ _ _ _ _ _ _ _ _ _ _ _ _ _ _ Hw.out hnw Hqn.out hqn9 (fun x hx => ((HQo.out.mem x).1 hx).1) HQs.out (fun i wr hi hb => H30.out i wr (by rw [← Hqn.out]; exact hi) hb) ?_)
  intro r8 r22 r23 r24 r25 r26 r27 r28 r216 r217 r218 r219 r220 r221 r222 r223 r224 r225 r226 r227 r228 r229 r230 r231 r232 r233 r234 r235 r236 r237 r238 r239 r240 r241 r242 r243 r244 r245 r246 r247 r248 r249 r250 r251 r252 r253 r254 r255 r256 r257 r258 r259 r260 r261 r262 r263 r264 r265 w6 hb6
  clear C29'
  go_wp2
  go_ret
  exact ⟨rfl, hb6⟩
end Go.Proofs.Qxb6612537a.U

import Derived.Test.Qxb6612537aG17
import Derived.Test.Qxb6612537aGSortN
import Derived.Test.Qxb6612537aGCut
namespace Go.Proofs.Qxb6612537a.U
open Go.RowKit Go.Proofs.Qxb6612537a.Plain
set_option linter.unusedVariables false
set_option linter.unusedSimpArgs false

def restAt (n : Nat) : Code → Option Code
  | .seq (.region m o d) b => if m = n then some (.seq (.region m o d) b) else restAt n b
  | .seq a b => restAt n b
  | _ => none
theorem own_size {w : World} {b n : Nat} {R : Value → Option (DataW Unit × List MemPlace)} {D : DataW Unit} (h : w.ownsMap Try.prog 2 R b n D) : Go.Maps.size D ≤ n := by
  obtain ⟨es, clock, _, _, hs, rfl⟩ := h
  rw [Go.Maps.size_eq, (Go.WideShapes.sorted_perm _).length_eq]
  simpa using hs
set_option maxRecDepth 100000 in
set_option maxHeartbeats 2000000 in
theorem gRest13 {G : GC} {w : World} {P : Nm → Prop} (ds : List Deferred) (Q : Exit → Act → World → Prop) (c0 c1 c2 c4 c5 c6 c7 c8 c9 c10 c11 c12 c13 c14 c15 c16 c17 c18 c19 c20 c21 c22 c23 c24 c25 c26 c27 c28 c29 c30 c31 c32 c33 c34 c35 c36 c37 c38 c39 c40 c41 c42 c43 c44 c45 c46 c47 c48 c49 c50 c51 c52 c53 c54 c55 c56 c57 c58 c59 c60 c61 c62 c63 c64 c65 c66 c67 c68 c69 c70 c71 c72 c73 c74 c75 c76 c77 c78 c79 c80 c81 c82 c83 c84 c85 c86 c87 c88 c89 c90 c91 c92 c93 c94 c95 : Value)
    (hS : GS G P P w) (ok : GOk G) (hod : ∀ a b, a < G.nw → b < G.nw → (G.W a).od = (G.W b).od → a = b)
    (hK : ∀ (u9 u10 u61 u62 u63 u64 u65 u66 u67 u68 u69 u70 u71 u72 u73 u74 u75 u76 u77 u78 u79 u80 u81 u82 u83 u84 u85 u86 u87 u88 u89 u90 u91 u92 u93 u94 u95 : Value) (w' : World), GDone G P w' → FK G.base w w' → Q .normal ⟨(c0 :: c1 :: c2 :: .pointer (some ⟨G.XB, 0, none⟩) :: c4 :: c5 :: c6 :: c7 :: c8 :: u9 :: u10 :: c11 :: c12 :: c13 :: c14 :: c15 :: c16 :: c17 :: c18 :: c19 :: c20 :: c21 :: c22 :: c23 :: c24 :: c25 :: c26 :: c27 :: c28 :: c29 :: c30 :: c31 :: c32 :: c33 :: c34 :: c35 :: c36 :: c37 :: c38 :: c39 :: c40 :: c41 :: c42 :: c43 :: c44 :: c45 :: c46 :: c47 :: c48 :: c49 :: c50 :: c51 :: c52 :: c53 :: c54 :: c55 :: c56 :: c57 :: c58 :: c59 :: c60 :: u61 :: u62 :: u63 :: u64 :: u65 :: u66 :: u67 :: u68 :: u69 :: u70 :: u71 :: u72 :: u73 :: u74 :: u75 :: u76 :: u77 :: u78 :: u79 :: u80 :: u81 :: u82 :: u83 :: u84 :: u85 :: u86 :: u87 :: u88 :: u89 :: u90 :: u91 :: u92 :: u93 :: u94 :: u95 :: [] : List Value).toArray, ds⟩ w') :
    Code.wp Try.prog ((Try.f24.body.bind (restAt 13)).getD .skip) Q ⟨(c0 :: c1 :: c2 :: .pointer (some ⟨G.XB, 0, none⟩) :: c4 :: c5 :: c6 :: c7 :: c8 :: c9 :: c10 :: c11 :: c12 :: c13 :: c14 :: c15 :: c16 :: c17 :: c18 :: c19 :: c20 :: c21 :: c22 :: c23 :: c24 :: c25 :: c26 :: c27 :: c28 :: c29 :: c30 :: c31 :: c32 :: c33 :: c34 :: c35 :: c36 :: c37 :: c38 :: c39 :: c40 :: c41 :: c42 :: c43 :: c44 :: c45 :: c46 :: c47 :: c48 :: c49 :: c50 :: c51 :: c52 :: c53 :: c54 :: c55 :: c56 :: c57 :: c58 :: c59 :: c60 :: c61 :: c62 :: c63 :: c64 :: c65 :: c66 :: c67 :: c68 :: c69 :: c70 :: c71 :: c72 :: c73 :: c74 :: c75 :: c76 :: c77 :: c78 :: c79 :: c80 :: c81 :: c82 :: c83 :: c84 :: c85 :: c86 :: c87 :: c88 :: c89 :: c90 :: c91 :: c92 :: c93 :: c94 :: c95 :: [] : List Value).toArray, ds⟩ w := by
  have HK : Hid _ := hK
  have HOk := hid ok
  obtain ⟨V, n, m, cnt, xs, env, var, ph, pw⟩ := hS
  obtain ⟨aH, cH, eH, hs56, _, oH0, eB⟩ := own_cut var.oH
  have hx : w.cell? ⟨G.XB, 0, none⟩ = some (.pointer (some ⟨G.WB, 0, none⟩)) := env.xb.cell (i := 0) (by omega)
  have hv : w.cell? ⟨G.WB, 1, none⟩ = some (.slice aH G.hn cH) := by rw [← eH]; exact var.st.cell (i := 1) (by omega)
  have hz := var.st.frozen 1
  have n4 := ph.le
  have n5 := pw.le
  have n6 := ok.nh
  have n7 := ok.nw
  conv => arg 2; whnf
  refine wp_seq (Code.wp_mono then_imp (g13 ds _ _ _ _ _ _ _ _ _ _ _ _ _ _ _ _ _ _ _ _ _ _ _ _ _ _ _ _ _ _ _ _ _ _ _ _ _ _ _ _ _ _ _ _ _ _ _ _ _ _ _ _ _ _ _ _ _ _ _ _ _ _ _ _ _ _ _ _ _ _ _ _ _ _ _ _ _ _ _ _ _ _ _ _ _ _ _ _ _ _ _ _ _ _ _ _ _ hx hv hz hs56 ?_))
  intro v61 v62 v63 v64 v65 v66 v67 v68
  obtain ⟨w1, hw1⟩ : ∃ w1, w1 = w.drew.setCell ⟨G.WB, 1, none⟩ (.slice aH 0 cH) := ⟨_, rfl⟩
  have k1 : Keeps (fun b => b = G.WB) w w1 := by rw [hw1]; exact ((Keeps.refl (fun b => b = G.WB) w).drew).setCell (a := ⟨G.WB, 1, none⟩) (.inl rfl) _
  have f1 : FK G.base w w1 := .of_keeps k1 env.hb (by rintro b rfl; exact ⟨var.hW, row_not_fix var.st (by decide)⟩)
  have env1 := env.fk f1
  have st1 : Row w1 G.WB 60 4 (four (.map (some G.MB)) (.slice aH 0 cH) V G.Bk) := by
    rw [hw1]
    refine (var.st.drew.set 1 _).congr (fun q hq => ?_)
    by_cases e : q = 1
    · subst e; simp [four]
    · have : q = 0 ∨ q = 2 ∨ q = 3 := by omega
      rcases this with rfl | rfl | rfl <;> simp [four]
  have mp1 : MapIs w1 G.MB n m := var.mp.keeps k1 (fun e => var.mp.row_ne var.st e.symm)
  have oV1 : w1.ownsRow G.base 77 1 V cnt xs := own_keeps var.own k1 (by rintro b hb rfl; exact own_ne var.own var.st (by decide) hb)
  have oH1 : w1.ownsRow G.base 85 2 (.slice aH 0 cH) 0 [] := own_keeps oH0 k1 (by rintro b hb rfl; rw [eB] at hb; exact own_ne var.oH var.st (by decide) hb)
  rw [← hw1]
  obtain ⟨D, hown, hD⟩ := mp1
  have HD := hid hD
  have d1 : w1.cell? ⟨G.XB, 0, none⟩ = some (.pointer (some ⟨G.WB, 0, none⟩)) := env1.xb.cell (i := 0) (by omega)
  have d2 : w1.cell? ⟨G.WB, 0, none⟩ = some (.map (some G.MB)) := st1.cell (i := 0) (by omega)
  have HF1 := hid f1
  have Henv := hid env1
  have Hst := hid st1
  have HoV := hid oV1
  have HoH := hid oH1
  have Hph := hid ph
  have Hpw := hid pw
  have Hvar := hid var
  have Hod := hid hod
  clear hK ok env var ph pw hx hv hz hs56 oH0 eB eH k1 f1 env1 st1 oV1 oH1 hw1 hD hod
  go_upto_block 2 with (first | (at_range; refine wpList_range_own _ rfl _ 55 rfl 2 3 keyed2 Try.underlying55 _ G.MB n _ rfl hown ?_; intro w2 hrg hg hs2) | go_in)
  have hR : RSt w1 G.base G.WB G.XB G.MB w1.heap.size n D (.slice aH 0 cH) V G.Bk [] (.slice aH 0 cH) (Go.Maps.has D) (Go.Maps.size D) w2 := by
    have k2 : Keeps (fun _ => False) w1 w2 := (keeps_grown _ _ _ hg).more (fun b e => by cases e)
    exact ⟨Hst.out.keeps k2 (fun h => h), Henv.out.xb.keeps k2 (fun h => h), hrg, own_keeps HoH.out k2 (fun _ _ h => h), k2.more (fun _ h => h.elim), fun b e => .inl e, Nat.le_trans Henv.out.hb hg.size, Nat.le_refl _, Ag.start D, by have := own_size hown; simpa using this⟩
  refine Code.wp_mono then_imp (g17 ds _ _ _ _ _ _ _ _ _ _ _ _ _ _ _ _ _ _ _ _ _ _ _ _ _ _ _ _ _ _ _ _ _ _ _ _ _ _ _ _ _ _ _ _ _ _ _ _ _ _ _ _ _ _ _ _ _ _ _ _ _ _ _ _ _ _ _ _ _ _ _ _ _ _ _ _ _ _ _ _ _ _ _ _ _ _ _ _ _ _ _ _ _ _ _ _ hR (by omega) ?_)
  intro t9 t10 t74 t75 t76 t77 t78 t79 t80 t81 t82 t83 t84 t85 t86 t87 t88 t89 t90 w3 Hs H left hR3 hl3
  clear hR hrg hg hs2
  have f3 : FK G.base w1 w3 := .of_keeps hR3.kp Henv.out.hb (by
    rintro b (rfl | e)
    · exact ⟨Hvar.out.hW, row_not_fix Hst.out (by decide)⟩
    · exact own_not_fix HoH.out (by decide) e)
  have env3 := Henv.out.fk f3
  have oV3 : w3.ownsRow G.base 77 1 V cnt xs := own_keeps HoV.out hR3.kp (by
    rintro b hb (rfl | e)
    · exact own_ne HoV.out Hst.out (by decide) hb
    · exact own_apart HoH.out HoV.out (by decide) e hb)
  obtain ⟨L, hnd, hmem, hcl, rfl⟩ := Hpw.out
  have C39 := sort39_any G.base G.base0 G.W G.aw G.nw G.cw cnt V L w3 (fun i hi => ((hmem i).1 hi).1) (by omega) oV3 env3.ow
  have e1 : w3.cell? ⟨G.XB, 0, none⟩ = some (.pointer (some ⟨G.WB, 0, none⟩)) := env3.xb.cell (i := 0) (by omega)
  have e2 : w3.cell? ⟨G.WB, 2, none⟩ = some V := hR3.st.cell (i := 2) (by omega)
  have HR3 := hid hR3
  have HF3 := hid (HF1.out.trans f3)
  have Henv3 := hid env3
  have HoV3 := hid oV3
  have Hhl := hid hl3
  have Hnd := hid hnd
  have Hmem := hid hmem
  have Hcl := hid hcl
  clear hR3 f3 env3 oV3 hl3 hnd hmem hcl Henv Hst HoV HoH HF1 d1 d2 hown Hpw n5
  go_wp2_with (go_at_call 39; refine C39.mono ?_; rintro e w4 ⟨rfl, L', hperm, hsrt, hown4, hk4⟩)
  have f4 : FK G.base w3 w4 := .of_keeps hk4 Henv3.out.hb (fun b e => own_not_fix HoV3.out (by decide) e)
  have hlen : L'.length = cnt := hperm.length_eq.trans Hcl.out.symm
  have hmp3 : MapIs w3 G.MB n m := ⟨D, HR3.out.rg.owns, HD.out⟩
  refine HK.out _ _ _ _ _ _ _ _ _ _ _ _ _ _ _ _ _ _ _ _ _ _ _ _ _ _ _ _ _ _ _ _ _ _ _ _ _ w4 ⟨H, V, Hs, L', n, m, HR3.out.st.keeps hk4 (own_ne HoV3.out HR3.out.st (by decide)), hmp3.keeps hk4 (own_ne_map HoV3.out hmp3), own_keeps HR3.out.own hk4 (fun b hb e => own_apart HoV3.out HR3.out.own (by decide) e hb), ⟨HR3.out.ag.nd, ?_⟩, by rw [hlen]; exact hown4, ?_, fun x => ?_, Henv3.out.fk f4⟩ (HF3.out.trans f4)
  · obtain ⟨_, _, _, _, hmx⟩ := Hph.out
    exact HR3.out.ag.finish Hhl.out hmx (fun i hi => HOk.out.tx i hi.1) HD.out
  · exact srt_strict Hod.out (hperm.nodup_iff.2 Hnd.out) (fun x hx => ((Hmem.out x).1 (hperm.mem_iff.1 hx)).1) hsrt
  · rw [hperm.mem_iff]; exact Hmem.out x
end Go.Proofs.Qxb6612537a.U

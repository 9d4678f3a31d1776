import Derived.Test.Qxb6612537aGR4
namespace Go.Proofs.Qxb6612537a.U
open Go.RowKit Go.Proofs.Qxb6612537a.Plain
set_option linter.unusedVariables false
set_option linter.unusedSimpArgs false

set_option maxRecDepth 100000 in
set_option maxHeartbeats 2000000 in
theorem g3 {w w' : World} {WB XB MB : Nat} (K : Act → World → Prop) (Q : Exit → Act → World → Prop) (c0 c1 c2 c4 c5 c6 c7 c8 c9 c10 c11 c12 c13 c14 c15 c16 c17 c18 c19 c20 c21 c22 c23 c24 c25 c26 c27 c28 c29 c30 c31 c32 c33 c34 c35 c36 c37 c38 c39 c40 c41 c42 c43 c44 c45 c46 c47 c48 c49 c50 c51 c52 c53 c54 c55 c56 c57 c58 c59 c60 c61 c62 c63 c64 c65 c66 c67 c68 c69 c70 c71 c72 c73 c74 c75 c76 c77 c78 c79 c80 c81 c82 c83 c84 c85 c86 c87 c88 c89 c90 c91 c92 c93 c94 c95 : Value)
    (hx : w.cell? ⟨XB, 0, none⟩ = some (.pointer (some ⟨WB, 0, none⟩))) (hm : w.cell? ⟨WB, 0, none⟩ = some (.map (some MB)))
    (hclr : Sem.run Try.prog (Builtin.clear_ #[55] 0 #[.map (some MB)]) w = .ok (.tuple #[]) w')
    (hK : ∀ (u20 u21 u22 u23 : Value), K ⟨(c0 :: c1 :: c2 :: .pointer (some ⟨XB, 0, none⟩) :: c4 :: c5 :: c6 :: c7 :: c8 :: c9 :: c10 :: c11 :: c12 :: c13 :: c14 :: c15 :: c16 :: c17 :: c18 :: c19 :: u20 :: u21 :: u22 :: u23 :: c24 :: c25 :: c26 :: c27 :: c28 :: c29 :: c30 :: c31 :: c32 :: c33 :: c34 :: c35 :: c36 :: c37 :: c38 :: c39 :: c40 :: c41 :: c42 :: c43 :: c44 :: c45 :: c46 :: c47 :: c48 :: c49 :: c50 :: c51 :: c52 :: c53 :: c54 :: c55 :: c56 :: c57 :: c58 :: c59 :: c60 :: c61 :: c62 :: c63 :: c64 :: c65 :: c66 :: c67 :: c68 :: c69 :: c70 :: c71 :: c72 :: c73 :: c74 :: c75 :: c76 :: c77 :: c78 :: c79 :: c80 :: c81 :: c82 :: c83 :: c84 :: c85 :: c86 :: c87 :: c88 :: c89 :: c90 :: c91 :: c92 :: c93 :: c94 :: c95 :: [] : List Value).toArray, []⟩ w') :
    Code.wp Try.prog ((Try.f24.body.bind (regionAt 3)).getD .skip) (Exit.then K (NoPanic Q)) ⟨(c0 :: c1 :: c2 :: .pointer (some ⟨XB, 0, none⟩) :: c4 :: c5 :: c6 :: c7 :: c8 :: c9 :: c10 :: c11 :: c12 :: c13 :: c14 :: c15 :: c16 :: c17 :: c18 :: c19 :: c20 :: c21 :: c22 :: c23 :: c24 :: c25 :: c26 :: c27 :: c28 :: c29 :: c30 :: c31 :: c32 :: c33 :: c34 :: c35 :: c36 :: c37 :: c38 :: c39 :: c40 :: c41 :: c42 :: c43 :: c44 :: c45 :: c46 :: c47 :: c48 :: c49 :: c50 :: c51 :: c52 :: c53 :: c54 :: c55 :: c56 :: c57 :: c58 :: c59 :: c60 :: c61 :: c62 :: c63 :: c64 :: c65 :: c66 :: c67 :: c68 :: c69 :: c70 :: c71 :: c72 :: c73 :: c74 :: c75 :: c76 :: c77 :: c78 :: c79 :: c80 :: c81 :: c82 :: c83 :: c84 :: c85 :: c86 :: c87 :: c88 :: c89 :: c90 :: c91 :: c92 :: c93 :: c94 :: c95 :: [] : List Value).toArray, []⟩ w := by
  have HK : Hid _ := hK
  clear hK
  conv => arg 2; whnf
  go_wp2_with fail
  exact HK.out _ _ _ _ 
def mkG (base base0 WB nh nw ch cw : Nat) (ah aw : Option Addr) (R : Nat → HRec) (W : Nat → WRec) (Bk H : Value) (hn : Nat) (hxs : List Value) (w : World) (MB FB : Nat) : GC :=
  { w0 := w, base := base, base0 := base0, WB := WB, XB := w.heap.size, LB := w.heap.size + 1, FB := FB, GB := FB + 1, MB := MB, nh := nh, nw := nw, ch := ch, cw := cw, hn := hn, ah := ah, aw := aw, R := R, W := W, H := H, Bk := Bk, hxs := hxs }
theorem two_cells {u v : Value} : ∀ i, i < (#[u, v] : Array Value).size → (#[u, v] : Array Value)[i]? = some (pair u v i) := fun i hi => by
  have : i = 0 ∨ i = 1 := by simp at hi; omega
  rcases this with rfl | rfl <;> rfl
structure Room (base WB : Nat) (Bk : Value) (M H V : Value) (hn : Nat) (hxs : List Value) (cnt : Nat) (xs : List Value) (w : World) : Prop where
  st : Row w WB 60 4 (four M H V Bk)
  oH : w.ownsRow base 85 2 H hn hxs
  oV : w.ownsRow base 77 1 V cnt xs
  hW : base ≤ WB
/-- What gather leaves, in the caller's words. -/
def GPost (base base0 WB nh nw ch cw : Nat) (ah aw : Option Addr) (R : Nat → HRec) (W : Nat → WRec) (Bk : Value) (name : ByteArray) (w : World) (e : Ending) (w' : World) : Prop :=
  e = .returned (.tuple #[]) ∧ ∃ (MB : Nat) (H V : Value) (Hs : AL) (L : List Nat) (n : Nat) (m : Int → Option Int), Room base WB Bk (.map (some MB)) H V Hs.length (hflat Hs) L.length (L.map (ptrAt aw)) w' ∧ base ≤ MB ∧ MapIs w' MB n m ∧
    HsOk R nh (fun x => Rel x (By name)) Hs ∧ Srt (fun k => (W k).od) L ∧ (∀ x, x ∈ L ↔ x < nw ∧ Rel (By (W x).nm) (By name)) ∧
    w'.ownsRow base0 70 3 (.slice ah nh ch) nh (flat nh fun i => hc (R i)) ∧ w'.ownsRow base0 74 5 (.slice aw nw cw) nw (flat nw fun i => wc (W i)) ∧ Below base w w'
theorem def_alien {w : World} {b : Nat} {d : Option (List Deferred)} (h : w.heap[b]? = some (.deferred d)) : ∀ o, w.heap[b]? = some o → Alien o := fun o ho => by
  rw [h] at ho
  injection ho with ho
  rw [← ho]; trivial
theorem GPost.other {base base0 WB nh nw ch cw : Nat} {ah aw : Option Addr} {R : Nat → HRec} {W : Nat → WRec} {Bk : Value} {name : ByteArray} {w : World} {e : Ending} {w' w'' : World} {b : Nat} (h : GPost base base0 WB nh nw ch cw ah aw R W Bk name w e w') (k : Keeps (fun x => x = b) w' w'') (hb : base ≤ b) (ho : ∀ o, w'.heap[b]? = some o → Alien o) : GPost base base0 WB nh nw ch cw ah aw R W Bk name w e w'' := by
  obtain ⟨rfl, MB, H, V, Hs, L, n, m, h1, h2, h3, h4, h5, h6, h7, h8, h9⟩ := h
  have hlt : base ≤ w'.heap.size := Nat.le_trans h1.hW (Nat.le_of_lt h1.st.lt)
  exact ⟨rfl, MB, H, V, Hs, L, n, m, ⟨h1.st.keeps k (row_alien h1.st ho (by decide)), own_keeps h1.oH k (own_alien h1.oH ho (by decide)), own_keeps h1.oV k (own_alien h1.oV ho (by decide)), h1.hW⟩, h2, h3.keeps k (map_alien h3 ho), h4, h5, h6,
    own_keeps h7 k (own_alien h7 ho (by decide)), own_keeps h8 k (own_alien h8 ho (by decide)), h9.trans (k.below hlt (by rintro x rfl; exact hb))⟩
theorem GDone.post {G : GC} {name : ByteArray} {w' : World} (h : GDone G (fun x => Rel x (By name)) w') (hW : G.base ≤ G.WB) (hM : G.base ≤ G.MB) : GPost G.base G.base0 G.WB G.nh G.nw G.ch G.cw G.ah G.aw G.R G.W G.Bk name G.w0 (.returned (.tuple #[])) w' := by
  obtain ⟨H, V, Hs, L, n, m, h1, h2, h3, h4, h5, h6, h7, h8⟩ := h
  exact ⟨rfl, G.MB, H, V, Hs, L, n, m, ⟨h1, h3, h5, hW⟩, hM, h2, h4, h6, h7, h8.oh, h8.ow, h8.bl⟩
set_option maxRecDepth 100000 in
set_option maxHeartbeats 2000000 in
theorem gatherA (base base0 WB nh nw ch cw : Nat) (ah aw : Option Addr) (R : Nat → HRec) (W : Nat → WRec) (Bk H V : Value) (hn : Nat) (hxs : List Value) (cnt : Nat) (xs : List Value) (name : ByteArray) (w : World)
    (hr : Room base WB Bk (.map none) H V hn hxs cnt xs w) (hb : base ≤ w.heap.size)
    (oh : w.ownsRow base0 70 3 (.slice ah nh ch) nh (flat nh fun i => hc (R i))) (ow : w.ownsRow base0 74 5 (.slice aw nw cw) nw (flat nw fun i => wc (W i)))
    (ok : ∀ G : GC, G.nh = nh → G.nw = nw → G.R = R → G.W = W → GOk G) (hod : ∀ a b, a < nw → b < nw → (W a).od = (W b).od → a = b) (hname : name.size ≤ 1048576) :
    Calls Try.prog 24 #[.pointer (some ⟨WB, 0, none⟩), .agg #[.slice ah nh ch, .slice aw nw cw], .string name] w (GPost base base0 WB nh nw ch cw ah aw R W Bk name w) := by
  refine (callsIn_wide (n := 9)).1 ?_
  refine callsIn_of_wp_marks Try.func24 rfl trivial ?_ rfl
  refine wpIn_wide.2 ?_
  simp only [Try.ntmps24, List.size_toArray, List.length_cons, List.length_nil, Nat.reduceAdd, Nat.reduceSub, Array.replicate_succ, Array.replicate_zero, List.push_toArray, List.append_toArray, List.nil_append, List.cons_append]
  have HR := hid hr
  have Hoh := hid oh
  have How := hid ow
  have HOk := hid ok
  have Hod := hid hod
  have hWB := hr.st.lt
  have c0 : w.cell? ⟨WB, 0, none⟩ = some (.map none) := hr.st.cell (i := 0) (by omega)
  have N1 := nil_eq
  have N2 := mk_map
  have cz1 : ∀ o1 o2, ((w.alloc o1).alloc o2).cell? ⟨WB, 0, none⟩ = some (.map none) := fun o1 o2 => ((hr.st.alloc o1).alloc o2).cell (i := 0) (by omega)
  have cz : ∀ o1 o2 o3, (((w.alloc o1).alloc o2).alloc o3).cell? ⟨WB, 0, none⟩ = some (.map none) := fun o1 o2 o3 => (((hr.st.alloc o1).alloc o2).alloc o3).cell (i := 0) (by omega)
  have gz : ∀ o1 o2 o3, (((w.alloc o1).alloc o2).alloc o3).frozen? ⟨WB, 0, none⟩ = false := fun o1 o2 o3 => (((hr.st.alloc o1).alloc o2).alloc o3).frozen 0
  clear hr oh ow ok hod
  go_upto_region 3 with fail
  obtain ⟨wc, hwc⟩ : ∃ wc, wc = (((w.alloc (.cells #[.pointer (some ⟨WB, 0, none⟩)] 32)).alloc (.cells #[.slice ah nh ch, .slice aw nw cw] 30)).alloc (.map #[] 0)).setCell ⟨WB, 0, none⟩ (.map (some (w.heap.size + 1 + 1))) := ⟨_, rfl⟩
  rw [← hwc]
  have hszc : wc.heap.size = w.heap.size + 3 := by rw [hwc]; simp [World.setCell]
  have k1 : Keeps (fun b => b = WB) w wc := by rw [hwc]; exact ((((Keeps.refl (fun b => b = WB) w).alloc _).alloc _).alloc _).setCell (a := ⟨WB, 0, none⟩) (.inl rfl) _
  have hS1 : ∀ b, b = WB → base ≤ b ∧ ∀ o, w.heap[b]? = some o → ¬ Fix o := by rintro b rfl; exact ⟨HR.out.hW, row_not_fix HR.out.st (by decide)⟩
  have st1 : Row wc WB 60 4 (four (.map (some (w.heap.size + 1 + 1))) H V Bk) := by
    rw [hwc]
    refine ((((HR.out.st.alloc _).alloc _).alloc _).set 0 _).congr (fun q hq => ?_)
    by_cases e : q = 0
    · subst e; simp [four]
    · have : q = 1 ∨ q = 2 ∨ q = 3 := by omega
      rcases this with rfl | rfl | rfl <;> simp [four]
  have xb0 : Row (w.alloc (.cells #[.pointer (some ⟨WB, 0, none⟩)] 32)) w.heap.size 32 1 (fun _ => .pointer (some ⟨WB, 0, none⟩)) := Row.new w #[_] 32 (fun _ => _) one_cell
  have lb0 : Row ((w.alloc (.cells #[.pointer (some ⟨WB, 0, none⟩)] 32)).alloc (.cells #[.slice ah nh ch, .slice aw nw cw] 30)) (w.heap.size + 1) 30 2 (pair (.slice ah nh ch) (.slice aw nw cw)) := Row.new2 w _ #[_, _] 30 _ two_cells
  have xb1 : Row wc w.heap.size 32 1 (fun _ => .pointer (some ⟨WB, 0, none⟩)) := by rw [hwc]; exact ((xb0.alloc _).alloc _).setOther (a := ⟨WB, 0, none⟩) (fun e => by have : w.heap.size = WB := e; omega) _
  have lb1 : Row wc (w.heap.size + 1) 30 2 (pair (.slice ah nh ch) (.slice aw nw cw)) := by rw [hwc]; exact (lb0.alloc _).setOther (a := ⟨WB, 0, none⟩) (fun e => by have : w.heap.size + 1 = WB := e; omega) _
  have mp1 : MapIs wc (w.heap.size + 1 + 1) 0 (fun _ => none) := by
    rw [hwc]
    have h0 := MapIs.made ((w.alloc (.cells #[.pointer (some ⟨WB, 0, none⟩)] 32)).alloc (.cells #[.slice ah nh ch, .slice aw nw cw] 30))
    have e0 : ((w.alloc (.cells #[.pointer (some ⟨WB, 0, none⟩)] 32)).alloc (.cells #[.slice ah nh ch, .slice aw nw cw] 30)).heap.size = w.heap.size + 1 + 1 := by simp
    rw [e0] at h0
    exact h0.of_block (Go.Deep.blk_setCell_other _ _ _ _ (fun e => by have : w.heap.size + 1 + 1 = WB := e; omega))
  have hM1 : base ≤ w.heap.size + 1 + 1 := by omega
  have oV1 : wc.ownsRow base 77 1 V cnt xs := own_keeps HR.out.oV k1 (fun b hb e => own_ne HR.out.oV HR.out.st (by decide) (hb.trans (congrArg some e)))
  have oH1 : wc.ownsRow base 85 2 H hn hxs := own_keeps HR.out.oH k1 (fun b hb e => own_ne HR.out.oH HR.out.st (by decide) (hb.trans (congrArg some e)))
  clear hwc cz cz1 gz
  obtain ⟨w2, hclr, mp2, ht⟩ := mp1.clear 0
  have kt := keeps_turned ht
  have hsz2 : w2.heap.size = wc.heap.size := by
    obtain ⟨es, clock, es', clock', _, rfl⟩ := ht
    simp [Go.ChangeMaps.setBlock]
  have hb1 : base ≤ wc.heap.size := Nat.le_trans hb k1.size
  have f1 : FK base w wc := .of_keeps k1 hb hS1
  have f2 : FK base wc w2 := .of_keeps kt hb1 (by rintro b rfl; exact ⟨hM1, map_not_fix mp1⟩)
  have hPre : Pre (mkG base base0 WB nh nw ch cw ah aw R W Bk H hn hxs w (w.heap.size + 1 + 1) (w.heap.size + 3)) V cnt xs w2 :=
    ⟨xb1.keeps kt (mp1.row_ne xb1), lb1.keeps kt (mp1.row_ne lb1), own_fk (own_fk Hoh.out f1 (by decide)) f2 (by decide), own_fk (own_fk How.out f1 (by decide)) f2 (by decide), f1.bl.trans f2.bl, Nat.le_trans hb1 f2.bl.size,
      ⟨st1.keeps kt (mp1.row_ne st1), mp2, own_keeps oV1 kt (fun b hb e => own_ne_map oV1 mp1 (hb.trans (congrArg some e))), own_keeps oH1 kt (fun b hb e => own_ne_map oH1 mp1 (hb.trans (congrArg some e))), HR.out.hW, hM1⟩⟩
  have x1 : wc.cell? ⟨w.heap.size, 0, none⟩ = some (.pointer (some ⟨WB, 0, none⟩)) := xb1.cell (i := 0) (by omega)
  have x2 : wc.cell? ⟨WB, 0, none⟩ = some (.map (some (w.heap.size + 1 + 1))) := st1.cell (i := 0) (by omega)
  rename_i KK hKK
  refine Code.wp_mono then_imp (g3 _ _ _ _ _ _ _ _ _ _ _ _ _ _ _ _ _ _ _ _ _ _ _ _ _ _ _ _ _ _ _ _ _ _ _ _ _ _ _ _ _ _ _ _ _ _ _ _ _ _ _ _ _ _ _ _ _ _ _ _ _ _ _ _ _ _ _ _ _ _ _ _ _ _ _ _ _ _ _ _ _ _ _ _ _ _ _ _ _ _ _ _ _ _ _ _ _ x1 x2 hclr ?_)
  intro t20 t21 t22 t23
  refine hKK _ _ (gRest4 (G := mkG base base0 WB nh nw ch cw ah aw R W Bk H hn hxs w (w.heap.size + 1 + 1) (w.heap.size + 3)) _ _ _ _ _ _ _ _ _ _ _ _ _ _ _ _ _ _ _ _ _ _ _ _ _ _ _ _ _ _ _ _ _ _ _ _ _ _ _ _ _ _ _ _ _ _ _ _ _ _ _ _ _ _ _ _ _ _ _ _ _ _ _ _ _ _ _ _ _ _ _ _ _ _ _ _ _ _ _ _ _ _ _ _ _ _ _ _ _ _ _ _ _ _ hPre (by rw [hsz2, hszc]; rfl) (by rw [hsz2, hszc]; rfl) (HOk.out _ rfl rfl rfl rfl) Hod.out hname ?_)
  intro tmps w' D gd hd hbD
  refine ⟨by simp, .inl ⟨_, _, rfl, run_takeDeferred hd, ?_⟩⟩
  exact ⟨_, results_none rfl _ _ _, GPost.other (gd.post HR.out.hW hM1) (keeps_obj w' D _) hbD (def_alien hd)⟩
set_option maxRecDepth 100000 in
set_option maxHeartbeats 2000000 in
theorem gatherB (base base0 WB nh nw ch cw : Nat) (ah aw : Option Addr) (R : Nat → HRec) (W : Nat → WRec) (Bk H V : Value) (hn : Nat) (hxs : List Value) (cnt : Nat) (xs : List Value) (name : ByteArray) (MB n : Nat) (m : Int → Option Int) (w : World)
    (hr : Room base WB Bk (.map (some MB)) H V hn hxs cnt xs w) (hM : base ≤ MB) (hmp : MapIs w MB n m) (hb : base ≤ w.heap.size)
    (oh : w.ownsRow base0 70 3 (.slice ah nh ch) nh (flat nh fun i => hc (R i))) (ow : w.ownsRow base0 74 5 (.slice aw nw cw) nw (flat nw fun i => wc (W i)))
    (ok : ∀ G : GC, G.nh = nh → G.nw = nw → G.R = R → G.W = W → GOk G) (hod : ∀ a b, a < nw → b < nw → (W a).od = (W b).od → a = b) (hname : name.size ≤ 1048576) :
    Calls Try.prog 24 #[.pointer (some ⟨WB, 0, none⟩), .agg #[.slice ah nh ch, .slice aw nw cw], .string name] w (GPost base base0 WB nh nw ch cw ah aw R W Bk name w) := by
  refine (callsIn_wide (n := 9)).1 ?_
  refine callsIn_of_wp_marks Try.func24 rfl trivial ?_ rfl
  refine wpIn_wide.2 ?_
  simp only [Try.ntmps24, List.size_toArray, List.length_cons, List.length_nil, Nat.reduceAdd, Nat.reduceSub, Array.replicate_succ, Array.replicate_zero, List.push_toArray, List.append_toArray, List.nil_append, List.cons_append]
  have HR := hid hr
  have Hoh := hid oh
  have How := hid ow
  have HOk := hid ok
  have Hod := hid hod
  have hWB := hr.st.lt
  have c0 : w.cell? ⟨WB, 0, none⟩ = some (.map (some MB)) := hr.st.cell (i := 0) (by omega)
  have N1 := nil_ne MB
  have cz1 : ∀ o1 o2, ((w.alloc o1).alloc o2).cell? ⟨WB, 0, none⟩ = some (.map (some MB)) := fun o1 o2 => ((hr.st.alloc o1).alloc o2).cell (i := 0) (by omega)
  have Hmp := hid hmp
  clear hr oh ow ok hod hmp
  go_upto_region 3 with fail
  obtain ⟨wc, hwc⟩ : ∃ wc, wc = (w.alloc (.cells #[.pointer (some ⟨WB, 0, none⟩)] 32)).alloc (.cells #[.slice ah nh ch, .slice aw nw cw] 30) := ⟨_, rfl⟩
  rw [← hwc]
  have hszc : wc.heap.size = w.heap.size + 2 := by rw [hwc]; simp
  have k1 : Keeps (fun _ => False) w wc := by rw [hwc]; exact ((Keeps.refl _ w).alloc _).alloc _
  have hS1 : ∀ b, False → base ≤ b ∧ ∀ o, w.heap[b]? = some o → ¬ Fix o := fun _ h => h.elim
  have st1 : Row wc WB 60 4 (four (.map (some MB)) H V Bk) := HR.out.st.keeps k1 (fun h => h)
  have xb1 : Row wc w.heap.size 32 1 (fun _ => .pointer (some ⟨WB, 0, none⟩)) := by rw [hwc]; exact (Row.new w #[_] 32 (fun _ => _) one_cell).alloc _
  have lb1 : Row wc (w.heap.size + 1) 30 2 (pair (.slice ah nh ch) (.slice aw nw cw)) := by rw [hwc]; exact Row.new2 w _ #[_, _] 30 _ two_cells
  have mp1 : MapIs wc MB n m := Hmp.out.keeps k1 (fun h => h)
  have hM1 : base ≤ MB := hM
  have oV1 : wc.ownsRow base 77 1 V cnt xs := own_keeps HR.out.oV k1 (fun _ _ h => h)
  have oH1 : wc.ownsRow base 85 2 H hn hxs := own_keeps HR.out.oH k1 (fun _ _ h => h)
  clear hwc cz1
  obtain ⟨w2, hclr, mp2, ht⟩ := mp1.clear 0
  have kt := keeps_turned ht
  have hsz2 : w2.heap.size = wc.heap.size := by
    obtain ⟨es, clock, es', clock', _, rfl⟩ := ht
    simp [Go.ChangeMaps.setBlock]
  have hb1 : base ≤ wc.heap.size := Nat.le_trans hb k1.size
  have f1 : FK base w wc := .of_keeps k1 hb hS1
  have f2 : FK base wc w2 := .of_keeps kt hb1 (by rintro b rfl; exact ⟨hM1, map_not_fix mp1⟩)
  have hPre : Pre (mkG base base0 WB nh nw ch cw ah aw R W Bk H hn hxs w (MB) (w.heap.size + 2)) V cnt xs w2 :=
    ⟨xb1.keeps kt (mp1.row_ne xb1), lb1.keeps kt (mp1.row_ne lb1), own_fk (own_fk Hoh.out f1 (by decide)) f2 (by decide), own_fk (own_fk How.out f1 (by decide)) f2 (by decide), f1.bl.trans f2.bl, Nat.le_trans hb1 f2.bl.size,
      ⟨st1.keeps kt (mp1.row_ne st1), mp2, own_keeps oV1 kt (fun b hb e => own_ne_map oV1 mp1 (hb.trans (congrArg some e))), own_keeps oH1 kt (fun b hb e => own_ne_map oH1 mp1 (hb.trans (congrArg some e))), HR.out.hW, hM1⟩⟩
  have x1 : wc.cell? ⟨w.heap.size, 0, none⟩ = some (.pointer (some ⟨WB, 0, none⟩)) := xb1.cell (i := 0) (by omega)
  have x2 : wc.cell? ⟨WB, 0, none⟩ = some (.map (some (MB))) := st1.cell (i := 0) (by omega)
  rename_i KK hKK
  refine Code.wp_mono then_imp (g3 _ _ _ _ _ _ _ _ _ _ _ _ _ _ _ _ _ _ _ _ _ _ _ _ _ _ _ _ _ _ _ _ _ _ _ _ _ _ _ _ _ _ _ _ _ _ _ _ _ _ _ _ _ _ _ _ _ _ _ _ _ _ _ _ _ _ _ _ _ _ _ _ _ _ _ _ _ _ _ _ _ _ _ _ _ _ _ _ _ _ _ _ _ _ _ _ _ x1 x2 hclr ?_)
  intro t20 t21 t22 t23
  refine hKK _ _ (gRest4 (G := mkG base base0 WB nh nw ch cw ah aw R W Bk H hn hxs w (MB) (w.heap.size + 2)) _ _ _ _ _ _ _ _ _ _ _ _ _ _ _ _ _ _ _ _ _ _ _ _ _ _ _ _ _ _ _ _ _ _ _ _ _ _ _ _ _ _ _ _ _ _ _ _ _ _ _ _ _ _ _ _ _ _ _ _ _ _ _ _ _ _ _ _ _ _ _ _ _ _ _ _ _ _ _ _ _ _ _ _ _ _ _ _ _ _ _ _ _ _ hPre (by rw [hsz2, hszc]; rfl) (by rw [hsz2, hszc]; rfl) (HOk.out _ rfl rfl rfl rfl) Hod.out hname ?_)
  intro tmps w' D gd hd hbD
  refine ⟨by simp, .inl ⟨_, _, rfl, run_takeDeferred hd, ?_⟩⟩
  exact ⟨_, results_none rfl _ _ _, GPost.other (gd.post HR.out.hW hM1) (keeps_obj w' D _) hbD (def_alien hd)⟩
end Go.Proofs.Qxb6612537a.U
